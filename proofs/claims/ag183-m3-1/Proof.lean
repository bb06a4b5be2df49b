import JvmDerived
import JvmDerived.Pilot.@@N@@Statement
import JvmDerived.Pilot.@@N@@Code
set_option linter.unusedVariables false
set_option linter.unusedSimpArgs false
namespace Jvm.Pilot.@@N@@
open Jvm Jvm.ClassFile Sem Op Lib Jvm.Free Jvm.Stand Jvm.LawKit Jvm.RoadKit Bundle Jvm.Pilot.@@N@@.Jvm.D

/-- the run that stands at T with the top frame f ends, and its end is as P says -/
def Go (p : Program) (e : Env) (below : List Frame) (P : Outcome → State → Prop) (T : State) (f : JFrame) : Prop :=
  ∃ s₂ o, Steps p.tables e below (T.setTop f) s₂ ∧ s₂.status = .running ∧ Ended s₂ below o ∧ P o s₂
theorem Go.st {p : Program} {e : Env} {below : List Frame} {P : Outcome → State → Prop} {T T' : State} {f f' : JFrame}
    (h : ∀ t, Steps p.tables e below (T'.setTop f') t → Steps p.tables e below (T.setTop f) t) (k : Go p e below P T' f') : Go p e below P T f := by
  obtain ⟨s₂, o, a, b⟩ := k
  exact ⟨s₂, o, h _ a, b⟩
theorem Go.tr {p : Program} {e : Env} {below : List Frame} {P : Outcome → State → Prop} {T T' : State} {f f' : JFrame}
    (h : Steps p.tables e below (T.setTop f) (T'.setTop f')) (k : Go p e below P T' f') : Go p e below P T f := by
  obtain ⟨s₂, o, a, b⟩ := k
  exact ⟨s₂, o, h.trans a, b⟩
/-- what a contract says of the end -/
abbrev Done (s : State) (Q : Option Value → Heap → List Loc → Prop) (C S : Nat) (o : Outcome) (U' : State) : Prop :=
  ∃ v L, o = .returned v ∧ Q v U'.heap L ∧ FrameEnd s o U' L C S
theorem Go.ret {p : Program} {l : Launch} {e : Env} {R : Room} {s : State} {m : MethodId} {args : Array Value} {below : List Frame} {meth : Method} {c : Code} {T : State} {locs : List Loc} {cells slots : Nat} {h : Heap}
    {Q : Option Value → Heap → List Loc → Prop} {C S : Nat} {v : Option Value} {f : JFrame}
    (X : Stand p l e R s m args below meth c T locs cells slots) (hlk : meth.locks = false) (hv : meth.sig.returnType = none → v = none)
    (hs : ∀ fs, (∀ (f : JFrame) (acts : List Action), f.method = m → f.locked = none → f.entered = [] → (doReturn e (T.setTop f) acts v).1 = T.setFrames fs) → Steps p.tables e below (T.setTop f) (T.setFrames fs))
    (eT : T.heap = h) (hQ : Q v h locs) (hc : cells ≤ C) (hl : slots ≤ S) : Go p e below (Done s Q C S) T f := by
  obtain ⟨fs, hr, hrun, hended, hW, hsame⟩ := X.leave (v := v) hv hlk
  refine ⟨_, _, hs fs hr, hrun, hended, v, locs, rfl, ?_, ⟨_, rfl⟩, hW, hsame.mono hc hl⟩
  show Q v T.heap locs
  rw [eT]; exact hQ
theorem Go.retB {p : Program} {l : Launch} {e : Env} {R : Room} {s : State} {m : MethodId} {args : Array Value} {below : List Frame} {meth : Method} {c : Code} {T : State} {locs : List Loc} {cells slots : Nat} {h : Heap}
    {Q : Option Value → Heap → List Loc → Prop} {C S : Nat} {pc : Nat} {Ls : Array Slot} {z : Int32} {rest : List Value} {t : FieldType}
    (X : Stand p l e R s m args below meth c T locs cells slots) (hlk : meth.locks = false) (hx : p.tables.exec = Jvm.exec) (hret : meth.sig.returnType = some t) (ht : t = .boolean ∨ t = .byte ∨ t = .char ∨ t = .short)
    (hd : decode c.code pc = .ok (.ireturn, 1)) (eT : T.heap = h) (hQ : Q (some (.int (nar t z))) h locs) (hc : cells ≤ C) (hl : slots ≤ S) : Go p e below (Done s Q C S) T (mkF m pc Ls (.int z :: rest)) :=
  Go.ret X hlk (fun h => by rw [hret] at h; cases h) (fun _ hr => retN X hx hret ht hd hr) eT hQ hc hl
theorem Go.retV {p : Program} {l : Launch} {e : Env} {R : Room} {s : State} {m : MethodId} {args : Array Value} {below : List Frame} {meth : Method} {c : Code} {T : State} {locs : List Loc} {cells slots : Nat} {h : Heap}
    {Q : Option Value → Heap → List Loc → Prop} {C S : Nat} {pc : Nat} {Ls : Array Slot} {w : Value} {rest : List Value} {t : FieldType} {i : Instr}
    (X : Stand p l e R s m args below meth c T locs cells slots) (hlk : meth.locks = false) (hx : p.tables.exec = Jvm.exec) (hret : meth.sig.returnType = some t) (hn : narrow t w = w)
    (hi : (i = .ireturn ∧ (t = .int ∨ t = .boolean ∨ t = .byte ∨ t = .char ∨ t = .short) ∧ ∃ z, w = .int z) ∨ (i = .lreturn ∧ t = .long ∧ ∃ z, w = .long z) ∨ (i = .dreturn ∧ t = .double ∧ ∃ z, w = .double z) ∨ (i = .freturn ∧ t = .float ∧ ∃ z, w = .float z) ∨ (i = .areturn ∧ t.isReference = true ∧ w.isRef = true))
    (hd : decode c.code pc = .ok (i, 1)) (eT : T.heap = h) (hQ : Q (some w) h locs) (hc : cells ≤ C) (hl : slots ≤ S) : Go p e below (Done s Q C S) T (mkF m pc Ls (w :: rest)) :=
  Go.ret X hlk (fun h => by rw [hret] at h; cases h) (fun _ hr => retOut X hx hret hn hi hd hr) eT hQ hc hl
theorem Go.ret0 {p : Program} {l : Launch} {e : Env} {R : Room} {s : State} {m : MethodId} {args : Array Value} {below : List Frame} {meth : Method} {c : Code} {T : State} {locs : List Loc} {cells slots : Nat} {h : Heap}
    {Q : Option Value → Heap → List Loc → Prop} {C S : Nat} {pc : Nat} {Ls : Array Slot}
    (X : Stand p l e R s m args below meth c T locs cells slots) (hlk : meth.locks = false) (hx : p.tables.exec = Jvm.exec) (hret : meth.sig.returnType = none)
    (hd : decode c.code pc = .ok (.return_, 1)) (eT : T.heap = h) (hQ : Q none h locs) (hc : cells ≤ C) (hl : slots ≤ S) : Go p e below (Done s Q C S) T (mkF m pc Ls []) :=
  Go.ret X hlk (fun _ => rfl) (fun _ hr => X.returnOut hx hret hd hr) eT hQ hc hl
/-- an entry that stands resolved stays so, also where String constants are loaded -/
theorem own_fieldRef {Z : State} {vm1 : Vm} {a0 : Array Value} {own O n d : String} {index : Nat} (hW : Z.Warmed39 vm1) (w : (Cond.fieldRef own index O n d).before a0 Z = true) : (Cond.fieldRef own index O n d).before a0 (Z.setVm vm1) = true := by
  simp only [Cond.before, Cond.holds, Cond.value, State.vm_setVm, hW.alike.findClass, State.names_setVm hW.alike] at w ⊢
  cases q1 : Z.vm.findClass own with
  | none => rw [q1] at w; simp at w
  | some cO =>
    cases q2 : Z.fieldFound? O n d with
    | none => rw [q1, q2] at w; simp at w
    | some z =>
      obtain ⟨c1, k1, i1, f1⟩ := z
      obtain ⟨k2, q3, -⟩ := State.fieldFound?_setVm hW.alike q2
      rw [q1, q2] at w
      rw [q3]
      cases q4 : Z.resolvedAt? own index with
      | none => rw [q4] at w; simp at w
      | some r => rw [State.resolvedAt?_warmed39 hW q4]; rw [q4] at w; exact w
/-- getfield through an entry that stands resolved at the start (the word fieldRef) -/
theorem own_getR {p : Program} {l : Launch} {e : Env} {R : Room} {s : State} {m : MethodId} {args : Array Value} {below : List Frame} {meth : Method} {c : Code} {T : State} {locs : List Loc} {cells slots : Nat} {Z : State} {a0 : Array Value} {h : Heap}
    (X : Stand p l e R s m args below meth c T locs cells slots) (hx : p.tables.exec = Jvm.exec) (hZ : Z.Warmed39 s.vm) {own O n d : String} {index : Nat} (hown : s.vm.findClass own = some m.cls) (w : (Cond.fieldRef own index O n d).before a0 Z = true)
    (eT : T.heap = h) {a : Addr} {v : Value} (F : Fld Z h a O n d v) {g : JFrame} (hg : g.method = m) {rest : List Value} (hs : g.stack = .ref a :: rest) (hd : decode c.code g.pc = .ok (.getfield index, 3)) :
    ∃ T', Stand p l e R s m args below meth c T' locs cells slots ∧ T'.heap = h ∧ ∀ target, Steps p.tables e below (T'.setTop { g with pc := g.pc + 3, stack := v :: rest }) target → Steps p.tables e below (T.setTop g) target := by
  obtain ⟨cell, cf, k, i, f, h1, h2, h3, h4, -, -, h7⟩ := F
  have w1 : (Cond.fieldRef own index O n d).before args s = true := (own_fieldRef hZ w : (Cond.fieldRef own index O n d).before a0 (Z.setVm s.vm) = true)
  have w2 := Cond.fieldRef_warmed X.warmed w1
  obtain ⟨k1, r1, -⟩ := State.fieldFound?_setVm (s := Z) hZ.alike h2
  obtain ⟨k2, r2, -⟩ := State.fieldFound?_setVm (s := s) X.warmed.alike (show s.fieldFound? O n d = _ from r1)
  obtain ⟨c', k', i', f', q1, q2⟩ := Cond.fieldRef_spec (s := s.setVm T.vm) (cur := m.cls) (by rw [State.vm_setVm, X.warmed.alike.findClass]; exact hown) w2
  cases q1.symm.trans r2
  exact ⟨T, X, eT, fun target k => (X.getfieldR hx hg q2 h3 hs (by rw [eT]; exact h1) h4 h7 hd (Steps.refl _)).trans k⟩
/-- the form of every contract here -/
def Con (l : Launch) (Z : State) (y : MethodName) (bytes : ByteArray) (ml : Nat) (ret : Option FieldType) (ws : List Jvm.Cond) (room : Room) (A : Array Value) (h0 : Heap) (Q : Option Value → Heap → List Loc → Prop) : Prop :=
  MetFree l y (head1 (Jvm.Cond.code y bytes ml ret :: ws) room) (fun a U => a = A ∧ Z.Warmed39 U.vm ∧ U.heap = h0) (fun _ _ _ _ _ => True) (fun _ U o U' => ∃ v L, o = .returned v ∧ Q v U'.heap L ∧ FrameEnd U o U' L room.cells room.slots)
theorem own_body {l : Launch} {Z : State} {y : MethodName} {bytes : ByteArray} {ml : Nat} {ret : Option FieldType} {ws : List Jvm.Cond} {room : Room} {A : Array Value} {h0 : Heap} {Q : Option Value → Heap → List Loc → Prop} (hpn : plainFor y = true)
    (body : ∀ (p : Program) (e : Env) (s : State) (m : MethodId) (below : List Frame) (meth : Method) (c : Code) (s₁ : State), p.tables.exec = Jvm.exec → c.code = bytes → c.maxLocals = ml → Z.Warmed39 s.vm → s.vm.findClass y.cls = some m.cls → meth.name = y.name → meth.locks = false → meth.sig.returnType = ret →
      Stand p l e room s m A below meth c s₁ [] 0 0 → s₁.heap = h0 → Go p e below (Done s Q room.cells room.slots) s₁ (entryFrame m A ml)) : Con l Z y bytes ml ret ws room A h0 Q := by
  refine MetFree.of_bodySF hpn hisR ?_
  intro p e s m args below meth c s₁ Bd hml0 hP hK
  obtain ⟨rfl, hZ, hh⟩ := hP
  exact body p e s m below meth c s₁ Bd.exec Bd.bytes hml0 hZ (findClass_of_methodNamed Bd.named) (name_of_methodNamed Bd.named Bd.method).1 Bd.notSynchronized Bd.returns (Stand.of_body Bd) (by rw [← hh, Bd.state]; rfl)
theorem own_back {l : Launch} {R : Room} {p : Program} {e : Env} {below : List Frame} {s Z : State} {args a0 : Array Value} {h : Heap} {y : MethodName} {bytes : ByteArray} {maxL : Nat} {ret : Option FieldType} {rm : Room} {len W : Nat} {as' : Array Value} {Q : Option Value → Heap → List Loc → Prop}
    (hM : Con l Z y bytes maxL ret [] rm as' h Q) (hZ : Z.Warmed39 s.vm) (wc : (Cond.code y bytes maxL ret).before a0 Z = true) (wz : (Cond.initialized y.cls).before a0 Z = true) (hf : rm.frames + 1 ≤ R.frames) (hl : W + (maxL + 11) + rm.locals ≤ R.locals) :
    Back l R p e below s args y len W (fun A a => a = as' ∧ A.U.heap = h ∧ A.cells + rm.cells ≤ R.cells ∧ A.slots + rm.slots ≤ R.slots)
      (fun A _ v B => ∃ L, Q v B.U.heap L ∧ B.locs = A.locs ++ L ∧ B.cells = A.cells + rm.cells ∧ B.slots = A.slots + rm.slots) := backOf (Q := Q) hM hZ wc wz hf hl
theorem Con.weaken {l : Launch} {Z : State} {y : MethodName} {bytes : ByteArray} {ml : Nat} {ret : Option FieldType} {ws : List Jvm.Cond} {room : Room} {A : Array Value} {h0 : Heap} {Q Q' : Option Value → Heap → List Loc → Prop} (h : Con l Z y bytes ml ret ws room A h0 Q) (hq : ∀ v h L, Q v h L → Q' v h L) : Con l Z y bytes ml ret ws room A h0 Q' := fun p e h1 h2 h3 s m args below hf happ hP hK => by
  obtain ⟨n, o, a, b, c, v, L, d, e, f⟩ := h p e h1 h2 h3 s m args below hf happ hP hK
  exact ⟨n, o, a, b, c, v, L, d, hq _ _ _ e, f⟩
theorem own_cat {v : Value} (h : v.isRef = true) : v.category = 1 := by cases v <;> first | rfl | (simp [Value.isRef] at h)
theorem acYes {c : ClassFile.ACond} {x y : Value} (h : x = y) : acV c (decide (x = y)) = acV c true := by rw [decide_eq_true h]

theorem own_weaken {l : Launch} {x : MethodName} {S : Spec} {P : Array Value → State → Prop} {K : Program → Env → List Frame → State → Array Value → Prop} {Q Q' : Array Value → State → Outcome → State → Prop} (h : MetFree l x S P K Q) (hq : ∀ a s o t, Q a s o t → Q' a s o t) : MetFree l x S P K Q' := fun p e h1 h2 h3 s m args below hf happ hP hK => by
  obtain ⟨n, o, a, b, c, d⟩ := h p e h1 h2 h3 s m args below hf happ hP hK
  exact ⟨n, o, a, b, c, hq _ _ _ _ d⟩
section Start
variable {args : Array Value} {first s : State} {o : Option Outcome} {idx : List Nat} {t u : Term}
theorem own_eq_int {k : Int32} (h : (Jvm.Cond.eq t (.int k)).value args first o s idx = some true) : t.eval args first o idx s = some (.int k) := by
  simp only [Cond.value, Term.eval] at h
  cases ht : t.eval args first o idx s with
  | none => simp [ht] at h
  | some x => cases x <;> simp [ht] at h ⊢ <;> exact h
theorem own_eq_ref {a : Addr} (h : (Jvm.Cond.eq t u).value args first o s idx = some true) (hu : u.eval args first o idx s = some (.ref a)) : t.eval args first o idx s = some (.ref a) := by
  simp only [Cond.value] at h
  rw [hu] at h
  cases ht : t.eval args first o idx s with
  | none => simp [ht] at h
  | some x => cases x <;> simp [ht] at h ⊢ <;> exact h
theorem own_len {a : Addr} {cl : Cell} {z : Int32} (h : (Term.length t).eval args first o idx s = some (.int z)) (ht : t.eval args first o idx s = some (.ref a)) (hc : s.heap[a]? = some cl) : cl.slots.size < 2 ^ 31 ∧ cl.slots.size.toInt32 = z := by
  obtain ⟨a', cell, e1, e2, e3⟩ := Term.length_spec h
  cases ht.symm.trans e1
  have e4 := (State.arrayAt?_spec e2).1
  cases hc.symm.trans e4
  refine ⟨?_, (Value.int.inj e3).symm⟩
  by_cases hn : cl.slots.size < 2147483648
  · exact hn
  · simp only [Term.eval, Option.bind_eq_bind, ht, Option.bind_some, e2] at h
    rw [if_neg hn] at h; cases h
theorem own_ne_int {z : Int32} (h : (Jvm.Cond.not (Jvm.Cond.eq t (.int 0))).value args first o s idx = some true) (ht : t.eval args first o idx s = some (.int z)) : ¬ z = 0 := by
  have h1 := not_v h
  intro e
  subst e
  simp [Cond.value, Term.eval, ht] at h1
theorem own_fld {a : Addr} {C n d : String} {k : Int32} (h : (Jvm.Cond.eq (Term.field t C n d) (.int k)).value args s none s [] = some true) (ht : t.eval args s none [] s = some (.ref a)) : Fld s s.heap a C n d (.int k) :=
  Fld.start (by rw [← fld_at ht]; exact own_eq_int h)
theorem own_elem {a : Addr} {cl : Cell} {w : Addr} {j : Int32} {i : Nat} (h : (Jvm.Cond.eq (Term.elem t (.int j)) u).value args s none s [] = some true) (hu : u.eval args s none [] s = some (.ref w)) (ht : t.eval args s none [] s = some (.ref a)) (hc : s.heap[a]? = some cl) (hj : j.toNatClampNeg = i) : cl.slots[i]? = some (.ref w) := by
  subst hj
  exact (elem_in (own_eq_ref h hu) ht rfl hc).2
theorem own_eleI {a : Addr} {cl : Cell} {k j : Int32} {i : Nat} (h : (Jvm.Cond.eq (Term.elem t (.int j)) (.int k)).value args s none s [] = some true) (ht : t.eval args s none [] s = some (.ref a)) (hc : s.heap[a]? = some cl) (hj : j.toNatClampNeg = i) : cl.slots[i]? = some (.int k) := by
  subst hj
  exact (elem_in (own_eq_int h) ht rfl hc).2
end Start

section Mirrors
variable {p : Program} {l : Launch} {e : Env} {R : Room} {s : State} {m : MethodId} {args : Array Value} {below : List Frame} {meth : Method} {c : Code} {T : State} {locs : List Loc} {cells slots : Nat} {Z : State} {a0 : Array Value} {h h' : Heap}
theorem own_mir (hZ : Z.Warmed39 s.vm) {C : String} {mr : Addr} (M : Mir Z C mr) : ∃ cc kc, s.vm.findClass C = some cc ∧ s.vm.classes[cc]? = some kc ∧ kc.mirror = some mr := by
  obtain ⟨cc, kc, m1, m2, m3, -⟩ := M
  obtain ⟨k', q, ek⟩ := hZ.alike.2.2 _ _ m2
  exact ⟨cc, k', by rw [hZ.alike.findClass]; exact m1, q, by rw [ek]; exact m3⟩
theorem own_gcV (X : Stand p l e R s m args below meth c T locs cells slots) (hx : p.tables.exec = Jvm.exec) (hZ : Z.Warmed39 s.vm) {own C : String} {index : Nat} (hown : s.vm.findClass own = some m.cls)
    (w1 : (Cond.methodLink own index Stand.gcN).before a0 Z = true) (w2 : (Cond.declares Stand.gcN).before a0 Z = true) (w4 : (Cond.selects C Stand.gcN Stand.gcN).before a0 Z = true) (w5 : (Cond.instanceMethod Stand.gcN).before a0 Z = true) (w6 : (Cond.native Stand.gcN).before a0 Z = true) (eT : T.heap = h) {a : Addr} (E : Exa Z h a C) {mr : Addr} (M : Mir Z C mr)
    {g : JFrame} (hg : g.method = m) (hsize : g.locals.size = c.maxLocals) {rest : List Value} (hs : g.stack = .ref a :: rest) (hd : decode c.code g.pc = .ok (.invokevirtual index, 3)) (hf : 1 ≤ R.frames) (hl : 2 * g.monitorRoom + (rest.map fun v => v.category).sum + (nativeFrameWords "java/lang/Object" "getClass" 1 + 11) ≤ R.locals) :
    ∃ T', Stand p l e R s m args below meth c T' locs cells slots ∧ T'.heap = h ∧ ∀ target, Steps p.tables e below (T'.setTop { g with pc := g.pc + 3, stack := .ref mr :: rest }) target → Steps p.tables e below (T.setTop g) target := by
  obtain ⟨cB, kB, i1, i2, i3⟩ := isOf hZ eT E
  obtain ⟨cc, kc, m1, m2, m3⟩ := own_mir hZ M
  cases i1.symm.trans m1
  obtain ⟨vm', X', st⟩ := X.getClassOf hx hown (mvT hZ w1) (mvT hZ w2) (notFace_of_selects (args := #[]) (mvT hZ w4)) (mvT hZ w4) (mvT hZ w5) (mvT hZ w6) m1 i3 m2 m3 hg hsize hs hd hf hl
  exact ⟨_, X', eT, st⟩
theorem own_mvI (hZ : Z.Warmed39 s.vm) {r o n d : String} (w : (Cond.interfaceMethod r o n d).before a0 Z = true) : (Cond.interfaceMethod r o n d).before args s = true := by
  have h1 : (Cond.interfaceMethod r o n d).before a0 (Z.setVm s.vm) = (Cond.interfaceMethod r o n d).before a0 Z := by
    simp only [Cond.before, Cond.holds, Cond.value, State.vm_setVm, hZ.alike.findClass, State.methodFound?_setVm hZ.alike, State.methodNamed?_setVm hZ.alike, arm_isInterface_setVm hZ.alike]
  have h2 := Cond.onTables_vm (A := a0) (A' := args) (U := Z) (U' := s) s.vm (Cond.interfaceMethod r o n d) rfl
  rw [h1, w] at h2
  exact h2.symm
theorem own_gcI (X : Stand p l e R s m args below meth c T locs cells slots) (hx : p.tables.exec = Jvm.exec) (hZ : Z.Warmed39 s.vm) {own C : String} {index count : Nat} {xi : MethodName} (hown : s.vm.findClass own = some m.cls)
    (w1 : (Cond.methodLink own index xi).before a0 Z = true) (w2 : (Cond.declares Stand.gcN).before a0 Z = true) (w3 : (Cond.interfaceMethod xi.cls "java/lang/Object" xi.name xi.desc).before a0 Z = true) (w4 : (Cond.selects C xi Stand.gcN).before a0 Z = true) (w5 : (Cond.instanceMethod Stand.gcN).before a0 Z = true) (w6 : (Cond.publicMethod Stand.gcN).before a0 Z = true)
    (w7 : (Cond.unhidden C xi.name xi.desc).before a0 Z = true) (w8 : (Cond.castable C xi.cls).before a0 Z = true) (w9 : (Cond.native Stand.gcN).before a0 Z = true) (n1 : xi.cls ≠ "java/lang/invoke/MethodHandle" ∧ xi.cls ≠ "java/lang/invoke/VarHandle") (n2 : xi.cls ≠ "java/lang/Object") (n3 : xi.name = "getClass") (n4 : xi.desc = "()Ljava/lang/Class;")
    (eT : T.heap = h) {a : Addr} (E : Exa Z h a C) {mr : Addr} (M : Mir Z C mr)
    {g : JFrame} (hg : g.method = m) (hsize : g.locals.size = c.maxLocals) {rest : List Value} (hs : g.stack = .ref a :: rest) (hd : decode c.code g.pc = .ok (.invokeinterface index count, 5)) (hf : 1 ≤ R.frames) (hl : 2 * g.monitorRoom + (rest.map fun v => v.category).sum + (nativeFrameWords "java/lang/Object" "getClass" 1 + 11) ≤ R.locals) :
    ∃ T', Stand p l e R s m args below meth c T' locs cells slots ∧ T'.heap = h ∧ ∀ target, Steps p.tables e below (T'.setTop { g with pc := g.pc + 5, stack := .ref mr :: rest }) target → Steps p.tables e below (T.setTop g) target := by
  obtain ⟨cB, kB, i1, i2, i3⟩ := isOf hZ eT E
  obtain ⟨cc, kc, m1, m2, m3⟩ := own_mir hZ M
  cases i1.symm.trans m1
  obtain ⟨vm', X', st⟩ := X.getClassOfI hx hown (mvT hZ w1) (mvT hZ w2) (own_mvI hZ w3) (mvT hZ w4) (mvT hZ w5) (mvT hZ w6) (mvT hZ w7) (mvT hZ w8) (mvT hZ w9) n1 n2 n3 n4 m1 m2 i3 m3 hg hsize hs hd hf hl
  exact ⟨_, X', eT, st⟩
theorem own_ldcM (X : Stand p l e R s m args below meth c T locs cells slots) (hx : p.tables.exec = Jvm.exec) (hZ : Z.Warmed39 s.vm) {own C : String} {index : Nat} (hown : s.vm.findClass own = some m.cls) (w1 : (Cond.classLink own index C).before a0 Z = true) (eT : T.heap = h) {mr : Addr} (M : Mir Z C mr)
    {g : JFrame} (hg : g.method = m) (hd : decode c.code g.pc = .ok (.ldc index, 2)) :
    ∃ T', Stand p l e R s m args below meth c T' locs cells slots ∧ T'.heap = h ∧ ∀ target, Steps p.tables e below (T'.setTop { g with pc := g.pc + 2, stack := .ref mr :: g.stack }) target → Steps p.tables e below (T.setTop g) target := by
  obtain ⟨cc, kc, m1, m2, m3⟩ := own_mir hZ M
  obtain ⟨vm', X', st⟩ := X.ldcMirror hx hown (mvT hZ w1) (show (Term.mirror C).eval args s none [] s = some (.ref mr) by simp [Term.eval, m1, m2, m3]) hg hd
  exact ⟨_, X', eT, st⟩
end Mirrors

/-- an array of n ints, of whatever values -/
def Ia (Z : State) (h : Heap) (a : Addr) (n : Int32) : Prop := ∃ c : Cell, Arr Z h a c .int ∧ c.slots.size = n.toNatClampNeg ∧ ¬ n < 0 ∧ ∀ j : Int32, ¬ (j < 0 ∨ c.slots.size ≤ j.toNatClampNeg) → ∃ v : Int32, c.slots[j.toNatClampNeg]? = some (.int v)
theorem Ia.ext {Z : State} {h h' : Heap} {a : Addr} {n : Int32} (F : Ia Z h a n) (E : Ext h h') : Ia Z h' a n := by obtain ⟨c, A, r⟩ := F; exact ⟨c, A.ext E, r⟩
theorem Ia.other {Z : State} {h h' : Heap} {a b : Addr} {n : Int32} {sl : Nat} {v : Value} (F : Ia Z h a n) (W : Wr h h' b sl v) (q : a ≠ b) : Ia Z h' a n := by obtain ⟨c, A, r⟩ := F; exact ⟨c, A.other W q, r⟩
theorem Ia.keep {Z : State} {h h' : Heap} {a : Addr} {n : Int32} {ws : List Addr} (F : Ia Z h a n) (K : Keep h h' ws) (q : a ∉ ws) : Ia Z h' a n := by obtain ⟨c, A, r⟩ := F; exact ⟨c, ⟨K.2.1 a c A.1 q, A.2⟩, r⟩
theorem Ia.lt {Z : State} {h : Heap} {a : Addr} {n : Int32} (F : Ia Z h a n) : a < h.size := by obtain ⟨c, A, r⟩ := F; exact A.lt
theorem Ia.new {Z : State} {h : Heap} {a : Addr} {n : Int32} {k : ClassId} (A : Arr Z h a (newA k .int n) .int) (q : ¬ n < 0) : Ia Z h a n := ⟨_, A, sz_new _ _ _, q, fun j hj => ⟨0, get_new (by rw [sz_new] at hj; exact hj)⟩⟩
theorem Ia.set {Z : State} {h h' : Heap} {a : Addr} {n j x : Int32} {c : Cell} (A : Arr Z h a c .int) (S : c.slots.size = n.toNatClampNeg) (q : ¬ n < 0) (H : ∀ j : Int32, ¬ (j < 0 ∨ c.slots.size ≤ j.toNatClampNeg) → ∃ v : Int32, c.slots[j.toNatClampNeg]? = some (.int v)) (hj : ¬ (j < 0 ∨ c.slots.size ≤ j.toNatClampNeg)) (W : Wr h h' a j.toNatClampNeg (.int x)) : Ia Z h' a n := by
  refine ⟨_, A.same W, by rw [sz_set]; exact S, q, fun i hi => ?_⟩
  rw [sz_set] at hi
  by_cases e : i = j
  · exact ⟨x, get_hit hj e⟩
  · obtain ⟨v, hv⟩ := H i hi
    exact ⟨v, by rw [get_miss (fun z => hj (Or.inl z)) (fun z => hi (Or.inl z)) e]; exact hv⟩

abbrev mq0 : MethodName := ⟨"java/lang/Double", "isInfinite", "(D)Z"⟩
abbrev mq1 : MethodName := ⟨"java/lang/Math", "abs", "(D)D"⟩
abbrev mq2 : MethodName := ⟨"com/example/kinetic_city/kineticcity/engine/TransitLine", "<init>", "([I[DD)V"⟩
abbrev mq3 : MethodName := ⟨"com/example/kinetic_city/kineticcity/engine/TransitNetworkArrivingSegmentPinLaw", "makeLine", "(I)Lcom/example/kinetic_city/kineticcity/engine/TransitLine;"⟩
abbrev mq4 : MethodName := ⟨"java/util/AbstractCollection", "<init>", "()V"⟩
abbrev mq5 : MethodName := ⟨"java/util/AbstractList", "<init>", "()V"⟩
abbrev mq6 : MethodName := ⟨"java/util/ArrayList", "<init>", "()V"⟩
abbrev mq7 : MethodName := ⟨"java/lang/Math", "max", "(II)I"⟩
abbrev mq8 : MethodName := ⟨"java/lang/Math", "min", "(II)I"⟩
abbrev mq9 : MethodName := ⟨"java/util/ArrayList", "grow", "(I)[Ljava/lang/Object;"⟩
abbrev mq10 : MethodName := ⟨"java/util/ArrayList", "grow", "()[Ljava/lang/Object;"⟩
abbrev mq11 : MethodName := ⟨"java/util/ArrayList", "add", "(Ljava/lang/Object;[Ljava/lang/Object;I)V"⟩
abbrev mq12 : MethodName := ⟨"java/util/ArrayList", "add", "(Ljava/lang/Object;)Z"⟩
abbrev mq13 : MethodName := ⟨"java/util/ArrayList$Itr", "<init>", "(Ljava/util/ArrayList;)V"⟩
abbrev mq14 : MethodName := ⟨"java/util/ArrayList", "iterator", "()Ljava/util/Iterator;"⟩
abbrev mq15 : MethodName := ⟨"java/util/ArrayList$Itr", "hasNext", "()Z"⟩
abbrev mq16 : MethodName := ⟨"java/util/ArrayList$Itr", "checkForComodification", "()V"⟩
abbrev mq17 : MethodName := ⟨"java/util/ArrayList$Itr", "next", "()Ljava/lang/Object;"⟩
abbrev mq18 : MethodName := ⟨"java/util/ArrayList", "size", "()I"⟩
abbrev mq19 : MethodName := ⟨"jdk/internal/util/Preconditions", "checkIndex", "(IILjava/util/function/BiFunction;)I"⟩
abbrev mq20 : MethodName := ⟨"java/util/Objects", "checkIndex", "(II)I"⟩
abbrev mq21 : MethodName := ⟨"java/util/ArrayList", "elementData", "(I)Ljava/lang/Object;"⟩
abbrev mq22 : MethodName := ⟨"java/util/ArrayList", "get", "(I)Ljava/lang/Object;"⟩
abbrev mq23 : MethodName := ⟨"java/util/Arrays", "copyOf", "([Ljava/lang/Object;ILjava/lang/Class;)[Ljava/lang/Object;"⟩
abbrev mq24 : MethodName := ⟨"java/util/Arrays", "copyOf", "([Ljava/lang/Object;I)[Ljava/lang/Object;"⟩
abbrev mq25 : MethodName := ⟨"java/util/ArrayList", "toArray", "()[Ljava/lang/Object;"⟩
abbrev mq26 : MethodName := ⟨"java/util/ArrayList", "<init>", "(Ljava/util/Collection;)V"⟩
abbrev mq27 : MethodName := ⟨"java/util/Collection", "toArray", "()[Ljava/lang/Object;"⟩
abbrev mq28 : MethodName := ⟨"java/util/Collection", "getClass", "()Ljava/lang/Class;"⟩
abbrev mq29 : MethodName := ⟨"java/util/Collections$UnmodifiableCollection", "<init>", "(Ljava/util/Collection;)V"⟩
abbrev mq30 : MethodName := ⟨"java/util/Collections$UnmodifiableList", "<init>", "(Ljava/util/List;)V"⟩
abbrev mq31 : MethodName := ⟨"java/util/Collections$UnmodifiableRandomAccessList", "<init>", "(Ljava/util/List;)V"⟩
abbrev mq32 : MethodName := ⟨"java/util/Collections", "unmodifiableList", "(Ljava/util/List;)Ljava/util/List;"⟩
abbrev mq33 : MethodName := ⟨"java/util/List", "getClass", "()Ljava/lang/Class;"⟩
abbrev mq34 : MethodName := ⟨"com/example/kinetic_city/kineticcity/engine/TransitLine", "getStopCount", "()I"⟩
abbrev mq35 : MethodName := ⟨"com/example/kinetic_city/kineticcity/engine/TransitLine", "stopAt", "(I)I"⟩
abbrev mq36 : MethodName := ⟨"java/util/Arrays", "rangeCheck", "(III)V"⟩
abbrev mq37 : MethodName := ⟨"java/util/Arrays", "fill", "([IIII)V"⟩
abbrev mq38 : MethodName := ⟨"com/example/kinetic_city/kineticcity/engine/TransitNetwork", "<init>", "(ILjava/util/List;)V"⟩
abbrev mq39 : MethodName := ⟨"java/util/List", "size", "()I"⟩
abbrev mq40 : MethodName := ⟨"java/util/List", "get", "(I)Ljava/lang/Object;"⟩
abbrev mq41 : MethodName := ⟨"java/util/List", "iterator", "()Ljava/util/Iterator;"⟩
abbrev mq42 : MethodName := ⟨"java/util/Iterator", "hasNext", "()Z"⟩
abbrev mq43 : MethodName := ⟨"java/util/Iterator", "next", "()Ljava/lang/Object;"⟩
abbrev mq44 : MethodName := ⟨"com/example/kinetic_city/kineticcity/engine/TransitNetwork", "arrivingSegment", "(II)I"⟩
theorem ltle {a b c : Nat} (h : a < b) (g : b ≤ c) : a < c := by omega
theorem lteq {a b c : Nat} (h : a < b) (g : b = c) : a < c := by omega
theorem ww {a0 : Array Value} {Z : State} (hw : ∀ d ∈ tables_1, d.before a0 Z = true) (i : Nat) {d : Jvm.Cond} (h : tables_1[i]? = some d) : d.before a0 Z = true := hw d (List.mem_of_getElem? h)

section Cps
variable {p : Program} {l : Launch} {e : Env} {R : Room} {s : State} {m : MethodId} {args : Array Value} {below : List Frame} {meth : Method} {c : Code} {T T' : State} {locs : List Loc} {cells slots : Nat} {Z : State} {a0 : Array Value} {h : Heap} {P : Outcome → State → Prop} {pc : Nat} {Ls : Array Slot} {Ss rest : List Value}
theorem zst (q : Nat) (L' : Array Slot) (S' : List Value) (st : ∀ t, Steps p.tables e below (T'.setTop (mkF m q L' S')) t → Steps p.tables e below (T.setTop (mkF m pc Ls Ss)) t) (g : Go p e below P T' (mkF m q L' S')) : Go p e below P T (mkF m pc Ls Ss) := Go.st st g
theorem zan (q : Nat) (X : Stand p l e R s m args below meth c T locs cells slots) (hx : p.tables.exec = Jvm.exec) {k : Fin 4} {v : Value} (hd : decode c.code pc = .ok (.aload_n k, 1)) (hl : Ls[k.val]? = some (.val v)) (hv : v.isRef = true) (g : Go p e below P T (mkF m q Ls (v :: Ss))) (hq : pc + 1 = q := by rfl) : Go p e below P T (mkF m pc Ls Ss) := by
  subst hq; exact Go.st (fun _ => XS.aloadN X.here hx rfl hd hl hv) g
theorem zal (q : Nat) (X : Stand p l e R s m args below meth c T locs cells slots) (hx : p.tables.exec = Jvm.exec) {k : Nat} {v : Value} (hd : decode c.code pc = .ok (.aload k, 2)) (hl : Ls[k]? = some (.val v)) (hv : v.isRef = true) (g : Go p e below P T (mkF m q Ls (v :: Ss))) (hq : pc + 2 = q := by rfl) : Go p e below P T (mkF m pc Ls Ss) := by
  subst hq; exact Go.st (fun _ => XS.aload X.here hx rfl hd hl hv) g
theorem zin (q : Nat) (X : Stand p l e R s m args below meth c T locs cells slots) (hx : p.tables.exec = Jvm.exec) {k : Fin 4} {v : Int32} (hd : decode c.code pc = .ok (.iload_n k, 1)) (hl : Ls[k.val]? = some (.val (.int v))) (g : Go p e below P T (mkF m q Ls (.int v :: Ss))) (hq : pc + 1 = q := by rfl) : Go p e below P T (mkF m pc Ls Ss) := by
  subst hq; exact Go.st (fun _ => XS.iloadN X.here hx rfl hd hl) g
theorem zil (q : Nat) (X : Stand p l e R s m args below meth c T locs cells slots) (hx : p.tables.exec = Jvm.exec) {k : Nat} {v : Int32} (hd : decode c.code pc = .ok (.iload k, 2)) (hl : Ls[k]? = some (.val (.int v))) (g : Go p e below P T (mkF m q Ls (.int v :: Ss))) (hq : pc + 2 = q := by rfl) : Go p e below P T (mkF m pc Ls Ss) := by
  subst hq; exact Go.st (fun _ => XS.iload X.here hx rfl hd hl) g
theorem zic (q : Nat) (z : Int32) (X : Stand p l e R s m args below meth c T locs cells slots) (hx : p.tables.exec = Jvm.exec) {i : Int} (hd : decode c.code pc = .ok (.iconst i, 1)) (g : Go p e below P T (mkF m q Ls (.int z :: Ss))) (hz : Int32.ofInt i = z := by decide) (hq : pc + 1 = q := by rfl) : Go p e below P T (mkF m pc Ls Ss) := by
  subst hq hz; exact Go.st (fun _ => XS.iconst X.here hx rfl hd) g
theorem zbp (q : Nat) (z : Int32) (X : Stand p l e R s m args below meth c T locs cells slots) (hx : p.tables.exec = Jvm.exec) {i : Int} (hd : decode c.code pc = .ok (.bipush i, 2)) (g : Go p e below P T (mkF m q Ls (.int z :: Ss))) (hz : (Int8.ofInt i).toInt32 = z := by decide) (hq : pc + 2 = q := by rfl) : Go p e below P T (mkF m pc Ls Ss) := by
  subst hq hz; exact Go.st (fun _ => XS.bipush X.here hx rfl hd) g
theorem zad (q : Nat) (X : Stand p l e R s m args below meth c T locs cells slots) (hx : p.tables.exec = Jvm.exec) {x y : Int32} (hd : decode c.code pc = .ok (.iadd, 1)) (g : Go p e below P T (mkF m q Ls (.int (x + y) :: rest))) (hq : pc + 1 = q := by rfl) : Go p e below P T (mkF m pc Ls (.int y :: .int x :: rest)) := by
  subst hq; exact Go.st (fun _ => XS.iadd X.here hx rfl hd rfl) g
theorem zsb (q : Nat) (X : Stand p l e R s m args below meth c T locs cells slots) (hx : p.tables.exec = Jvm.exec) {x y : Int32} (hd : decode c.code pc = .ok (.isub, 1)) (g : Go p e below P T (mkF m q Ls (.int (x - y) :: rest))) (hq : pc + 1 = q := by rfl) : Go p e below P T (mkF m pc Ls (.int y :: .int x :: rest)) := by
  subst hq; exact Go.st (fun _ => XS.isub X.here hx rfl hd rfl) g
theorem zsn (q : Nat) (L' : Array Slot) (X : Stand p l e R s m args below meth c T locs cells slots) (hx : p.tables.exec = Jvm.exec) {k : Fin 4} {x : Int32} (hd : decode c.code pc = .ok (.istore_n k, 1)) (g : Go p e below P T (mkF m q L' rest)) (hl : storeLocals Ls k.val (.int x) = some L' := by rfl) (hq : pc + 1 = q := by rfl) : Go p e below P T (mkF m pc Ls (.int x :: rest)) := by
  subst hq; exact Go.st (fun _ => XS.istoreN X.here hx rfl hd rfl hl) g
theorem zsl (q : Nat) (L' : Array Slot) (X : Stand p l e R s m args below meth c T locs cells slots) (hx : p.tables.exec = Jvm.exec) {k : Nat} {x : Int32} (hd : decode c.code pc = .ok (.istore k, 2)) (g : Go p e below P T (mkF m q L' rest)) (hl : storeLocals Ls k (.int x) = some L' := by rfl) (hq : pc + 2 = q := by rfl) : Go p e below P T (mkF m pc Ls (.int x :: rest)) := by
  subst hq; exact Go.st (fun _ => XS.istore X.here hx rfl hd rfl hl) g
theorem zrn (q : Nat) (L' : Array Slot) (X : Stand p l e R s m args below meth c T locs cells slots) (hx : p.tables.exec = Jvm.exec) {k : Fin 4} {x : Value} (hd : decode c.code pc = .ok (.astore_n k, 1)) (hv : x.isRef = true) (g : Go p e below P T (mkF m q L' rest)) (hl : storeLocals Ls k.val x = some L' := by rfl) (hq : pc + 1 = q := by rfl) : Go p e below P T (mkF m pc Ls (x :: rest)) := by
  subst hq; exact Go.st (fun _ => XS.astoreN X.here hx rfl hd rfl hv hl) g
theorem zrl (q : Nat) (L' : Array Slot) (X : Stand p l e R s m args below meth c T locs cells slots) (hx : p.tables.exec = Jvm.exec) {k : Nat} {x : Value} (hd : decode c.code pc = .ok (.astore k, 2)) (hv : x.isRef = true) (g : Go p e below P T (mkF m q L' rest)) (hl : storeLocals Ls k x = some L' := by rfl) (hq : pc + 2 = q := by rfl) : Go p e below P T (mkF m pc Ls (x :: rest)) := by
  subst hq; exact Go.st (fun _ => XS.astore X.here hx rfl hd rfl hv hl) g
theorem zii (q : Nat) (L' : Array Slot) (X : Stand p l e R s m args below meth c T locs cells slots) (hx : p.tables.exec = Jvm.exec) {k : Nat} {cst : Int} {x : Int32} (hd : decode c.code pc = .ok (.iinc k cst, 3)) (hl : Ls[k]? = some (.val (.int x))) (g : Go p e below P T (mkF m q L' Ss)) (hl' : storeLocals Ls k (.int (x + Int32.ofInt cst)) = some L' := by rfl) (hq : pc + 3 = q := by rfl) : Go p e below P T (mkF m pc Ls Ss) := by
  subst hq; exact Go.st (fun _ => XS.iinc X.here hx rfl hd hl hl') g
theorem zgo (q : Nat) (X : Stand p l e R s m args below meth c T locs cells slots) (hx : p.tables.exec = Jvm.exec) {o : Int} (hd : decode c.code pc = .ok (.goto o, 3)) (g : Go p e below P T (mkF m q Ls Ss)) (ho : 0 ≤ (pc : Int) + o := by decide) (hq : ((pc : Int) + o).toNat = q := by decide) : Go p e below P T (mkF m pc Ls Ss) :=
  Go.st (fun _ => XS.goto X.here hx rfl (pc0 := pc) (pc' := q) rfl hd ho hq) g
theorem zcy (q : Nat) (X : Stand p l e R s m args below meth c T locs cells slots) (hx : p.tables.exec = Jvm.exec) {cd : ClassFile.Cond} {x y : Int32} {o : Int} (hd : decode c.code pc = .ok (.if_icmp cd o, 3)) (hc : if_icmp.holds cd x y = true) (g : Go p e below P T (mkF m q Ls rest)) (ho : 0 ≤ (pc : Int) + o := by decide) (hq : ((pc : Int) + o).toNat = q := by decide) : Go p e below P T (mkF m pc Ls (.int y :: .int x :: rest)) :=
  Go.st (fun _ => XS.icmpYes X.here hx rfl (pc0 := pc) (pc' := q) rfl hd rfl hc ho hq) g
theorem zcn (q : Nat) (X : Stand p l e R s m args below meth c T locs cells slots) (hx : p.tables.exec = Jvm.exec) {cd : ClassFile.Cond} {x y : Int32} {o : Int} (hd : decode c.code pc = .ok (.if_icmp cd o, 3)) (hc : if_icmp.holds cd x y = false) (g : Go p e below P T (mkF m q Ls rest)) (hq : pc + 3 = q := by rfl) : Go p e below P T (mkF m pc Ls (.int y :: .int x :: rest)) := by
  subst hq; exact Go.st (fun _ => XS.icmpNo X.here hx rfl hd rfl hc) g
theorem zfy (q : Nat) (X : Stand p l e R s m args below meth c T locs cells slots) (hx : p.tables.exec = Jvm.exec) {cd : ClassFile.Cond} {x : Int32} {o : Int} (hd : decode c.code pc = .ok (.ifCond cd o, 3)) (hc : ifCond.holds cd x = true) (g : Go p e below P T (mkF m q Ls rest)) (ho : 0 ≤ (pc : Int) + o := by decide) (hq : ((pc : Int) + o).toNat = q := by decide) : Go p e below P T (mkF m pc Ls (.int x :: rest)) :=
  Go.st (fun _ => XS.ifYes X.here hx rfl (pc0 := pc) (pc' := q) rfl hd rfl hc ho hq) g
theorem zfn (q : Nat) (X : Stand p l e R s m args below meth c T locs cells slots) (hx : p.tables.exec = Jvm.exec) {cd : ClassFile.Cond} {x : Int32} {o : Int} (hd : decode c.code pc = .ok (.ifCond cd o, 3)) (hc : ifCond.holds cd x = false) (g : Go p e below P T (mkF m q Ls rest)) (hq : pc + 3 = q := by rfl) : Go p e below P T (mkF m pc Ls (.int x :: rest)) := by
  subst hq; exact Go.st (fun _ => XS.ifNo X.here hx rfl hd rfl hc) g
theorem zgf (q : Nat) (X : Stand p l e R s m args below meth c T locs cells slots) (hx : p.tables.exec = Jvm.exec) (hZ : Z.Warmed39 s.vm) {own R0 O n d host : String} {index : Nat} (hown : s.vm.findClass own = some m.cls) (w : (Cond.fieldLink own index R0 n d).before a0 Z = true ∨ (Cond.fieldLinkNest own index R0 n d host).before a0 Z = true) (via : Via Z R0 O n d)
    (eT : T.heap = h) {a : Addr} {v : Value} (F : Fld Z h a O n d v) (hd : decode c.code pc = .ok (.getfield index, 3)) (g : ∀ T', Stand p l e R s m args below meth c T' locs cells slots → T'.heap = h → Go p e below P T' (mkF m q Ls (v :: rest))) (hq : pc + 3 = q := by rfl) : Go p e below P T (mkF m pc Ls (.ref a :: rest)) := by
  obtain ⟨T', X', e', st⟩ := getF X hx hZ hown w via eT F (g := mkF m pc Ls (.ref a :: rest)) rfl rfl hd
  subst hq; exact Go.st st (g T' X' e')
theorem gV (q W c' s' : Nat) (X : Stand p l e R s m args below meth c T locs cells slots) {n0 : Nat} (N : Fr n0 locs) (hx : p.tables.exec = Jvm.exec) (hZ : Z.Warmed39 s.vm) {own C : String} {index k : Nat} {y : MethodName} (hown : s.vm.findClass own = some m.cls) (hml : c.maxLocals = k)
    (w1 : (Cond.methodLink own index y).before a0 Z = true) (w2 : (Cond.declares y).before a0 Z = true) (w3 : (Cond.selects C y y).before a0 Z = true) (w4 : (Cond.instanceMethod y).before a0 Z = true)
    {bytes : ByteArray} {maxL : Nat} {ret : Option FieldType} {rm : Room} {as' : Array Value} {Q : Option Value → Heap → List Loc → Prop}
    (hM : Con l Z y bytes maxL ret [] rm as' h Q) (wc : (Cond.code y bytes maxL ret).before a0 Z = true) (wz : (Cond.initialized y.cls).before a0 Z = true)
    (eT : T.heap = h) {a : Addr} (E : Exa Z h a C) (argsL rest : List Value)
    (hlen : ∀ sig, parseMethodDescriptor y.desc = some sig → argsL.length = sig.parameters.length)
    (hd : decode c.code pc = .ok (.invokevirtual index, 3))
    (hk : ∀ (T' : State) (L L' : List Loc) (v : Option Value), Stand p l e R s m args below meth c T' L' c' s' → (Fr n0 L → Fr n0 L') → Q v T'.heap L → Go p e below P T' (mkF m q Ls (v.toList ++ rest)))
    (hq : pc + 3 = q := by rfl) (hy : y.cls ≠ "java/lang/invoke/MethodHandle" ∧ y.cls ≠ "java/lang/invoke/VarHandle" := by decide)
    (hsz : Ls.size = k := by rfl) (hst : Ss = argsL.reverse ++ .ref a :: rest := by rfl) (has : (.ref a :: argsL).toArray = as' := by rfl)
    (hf : rm.frames + 1 ≤ R.frames := by decide) (hW : (rest.map fun v => v.category).sum = W := by rfl) (hl : W + (maxL + 11) + rm.locals ≤ R.locals := by decide) (hc1 : cells + rm.cells = c' := by rfl) (hs1 : slots + rm.slots = s' := by rfl) (hc : c' ≤ R.cells := by decide) (hs : s' ≤ R.slots := by decide) :
    Go p e below P T (mkF m pc Ls Ss) := by
  obtain ⟨cq, kq, qa, qb, qc⟩ := isOf hZ eT E
  obtain ⟨v, _, ⟨T1, L1, kk1, nn1⟩, -, X1, ⟨Lc1, hQ1, lq1, yq1, zz1⟩, st1⟩ := X.virtualBack hx hown (mvT hZ w1) (mvT hZ w2) (notFace_of_selects (args := #[]) (mvT hZ w3)) (mvT hZ w3) (mvT hZ w4) hy (own_back (W := W) hM hZ wc wz hf hl) qa qc (g := mkF m pc Ls Ss) rfl (by rw [hml]; exact hsz) (Steps.refl _) (argsL := argsL) (rest := rest) hlen hst (by show 2 * 0 + _ ≤ _; omega) hd (fun _ _ => ⟨has, eT, by rw [hc1]; exact hc, by rw [hs1]; exact hs⟩)
  dsimp only [Pt.U, Pt.locs, Pt.cells, Pt.slots] at X1 lq1 yq1 zz1 st1 hQ1
  subst lq1 yq1 zz1 hq hc1 hs1
  exact Go.tr st1 (hk _ _ _ _ X1 (Fr.app N) hQ1)
theorem zmvI (hZ : Z.Warmed39 s.vm) {r o n d : String} (w : (Cond.interfaceMethod r o n d).before a0 Z = true) : (Cond.interfaceMethod r o n d).before args s = true := by
  have h1 : (Cond.interfaceMethod r o n d).before a0 (Z.setVm s.vm) = (Cond.interfaceMethod r o n d).before a0 Z := by
    simp only [Cond.before, Cond.holds, Cond.value, State.vm_setVm, hZ.alike.findClass, State.methodFound?_setVm hZ.alike, State.methodNamed?_setVm hZ.alike, arm_isInterface_setVm hZ.alike]
  have h2 := Cond.onTables_vm (A := a0) (A' := args) (U := Z) (U' := s) s.vm (Cond.interfaceMethod r o n d) rfl
  rw [h1, w] at h2
  exact h2.symm
theorem gI (q W c' s' : Nat) (X : Stand p l e R s m args below meth c T locs cells slots) {n0 : Nat} (N : Fr n0 locs) (hx : p.tables.exec = Jvm.exec) (hZ : Z.Warmed39 s.vm) {own C : String} {index count k : Nat} {xi y : MethodName} (hown : s.vm.findClass own = some m.cls) (hml : c.maxLocals = k)
    (w1 : (Cond.methodLink own index xi).before a0 Z = true) (w2 : (Cond.declares xi).before a0 Z = true) (w5 : (Cond.interfaceMethod xi.cls xi.cls xi.name xi.desc).before a0 Z = true) (w3 : (Cond.selects C xi y).before a0 Z = true) (w4 : (Cond.instanceMethod y).before a0 Z = true)
    (w6 : (Cond.publicMethod y).before a0 Z = true) (w7 : (Cond.unhidden C xi.name xi.desc).before a0 Z = true) (w8 : (Cond.castable C xi.cls).before a0 Z = true)
    {bytes : ByteArray} {maxL : Nat} {ret : Option FieldType} {rm : Room} {as' : Array Value} {Q : Option Value → Heap → List Loc → Prop}
    (hM : Con l Z y bytes maxL ret [] rm as' h Q) (wc : (Cond.code y bytes maxL ret).before a0 Z = true) (wz : (Cond.initialized y.cls).before a0 Z = true)
    (eT : T.heap = h) {a : Addr} (E : Exa Z h a C) (argsL rest : List Value)
    (hlen : ∀ sig, parseMethodDescriptor xi.desc = some sig → argsL.length = sig.parameters.length)
    (hd : decode c.code pc = .ok (.invokeinterface index count, 5))
    (hk : ∀ (T' : State) (L L' : List Loc) (v : Option Value), Stand p l e R s m args below meth c T' L' c' s' → (Fr n0 L → Fr n0 L') → Q v T'.heap L → Go p e below P T' (mkF m q Ls (v.toList ++ rest)))
    (hq : pc + 5 = q := by rfl) (hy : xi.cls ≠ "java/lang/invoke/MethodHandle" ∧ xi.cls ≠ "java/lang/invoke/VarHandle" := by decide)
    (hsz : Ls.size = k := by rfl) (hst : Ss = argsL.reverse ++ .ref a :: rest := by rfl) (has : (.ref a :: argsL).toArray = as' := by rfl)
    (hf : rm.frames + 1 ≤ R.frames := by decide) (hW : (rest.map fun v => v.category).sum = W := by rfl) (hl : W + (maxL + 11) + rm.locals ≤ R.locals := by decide) (hc1 : cells + rm.cells = c' := by rfl) (hs1 : slots + rm.slots = s' := by rfl) (hc : c' ≤ R.cells := by decide) (hs : s' ≤ R.slots := by decide) :
    Go p e below P T (mkF m pc Ls Ss) := by
  obtain ⟨cq, kq, qa, qb, qc⟩ := isOf hZ eT E
  obtain ⟨v, _, ⟨T1, L1, kk1, nn1⟩, -, X1, ⟨Lc1, hQ1, lq1, yq1, zz1⟩, st1⟩ := X.interfaceBack hx hown (mvT hZ w1) (mvT hZ w2) (zmvI hZ w5) (mvT hZ w3) (mvT hZ w4) (mvT hZ w6) (mvT hZ w7) (mvT hZ w8) hy (own_back (W := W) hM hZ wc wz hf hl) qa qb qc (g := mkF m pc Ls Ss) rfl (by rw [hml]; exact hsz) (Steps.refl _) (argsL := argsL) (rest := rest) hlen hst (by show 2 * 0 + _ ≤ _; omega) hd (fun _ _ => ⟨has, eT, by rw [hc1]; exact hc, by rw [hs1]; exact hs⟩)
  dsimp only [Pt.U, Pt.locs, Pt.cells, Pt.slots] at X1 lq1 yq1 zz1 st1 hQ1
  subst lq1 yq1 zz1 hq hc1 hs1
  exact Go.tr st1 (hk _ _ _ _ X1 (Fr.app N) hQ1)
theorem zsk (S' : List Value) (g : Go p e below P T (mkF m pc Ls S')) (hq : Ss = S' := by rfl) : Go p e below P T (mkF m pc Ls Ss) := by
  subst hq; exact g
theorem zln (q : Nat) (X : Stand p l e R s m args below meth c T locs cells slots) (hx : p.tables.exec = Jvm.exec) {k : Fin 4} {v : Int64} (hd : decode c.code pc = .ok (.lload_n k, 1)) (hl : Ls[k.val]? = some (.val (.long v))) (g : Go p e below P T (mkF m q Ls (.long v :: Ss))) (hq : pc + 1 = q := by rfl) : Go p e below P T (mkF m pc Ls Ss) := by
  subst hq; exact Go.st (fun _ => XS.lloadN X.here hx rfl hd hl) g
theorem zll (q : Nat) (X : Stand p l e R s m args below meth c T locs cells slots) (hx : p.tables.exec = Jvm.exec) {k : Nat} {v : Int64} (hd : decode c.code pc = .ok (.lload k, 2)) (hl : Ls[k]? = some (.val (.long v))) (g : Go p e below P T (mkF m q Ls (.long v :: Ss))) (hq : pc + 2 = q := by rfl) : Go p e below P T (mkF m pc Ls Ss) := by
  subst hq; exact Go.st (fun _ => XS.lload X.here hx rfl hd hl) g
theorem gS (q W c' s' : Nat) (X : Stand p l e R s m args below meth c T locs cells slots) {n0 : Nat} (N : Fr n0 locs) (hx : p.tables.exec = Jvm.exec) (hZ : Z.Warmed39 s.vm) {own : String} {index k : Nat} {y : MethodName} (hown : s.vm.findClass own = some m.cls) (hml : c.maxLocals = k)
    (w1 : (Cond.methodLink own index y).before a0 Z = true) (w2 : (Cond.static y).before a0 Z = true) (wz : (Cond.initialized y.cls).before a0 Z = true)
    {bytes : ByteArray} {maxL : Nat} {ret : Option FieldType} {rm : Room} {as' : Array Value} {Q : Option Value → Heap → List Loc → Prop}
    (hM : Con l Z y bytes maxL ret [] rm as' h Q) (wc : (Cond.code y bytes maxL ret).before a0 Z = true)
    (eT : T.heap = h) (argsL rest : List Value)
    (hlen : ∀ sig, parseMethodDescriptor y.desc = some sig → argsL.length = sig.parameters.length)
    (hd : decode c.code pc = .ok (.invokestatic index, 3))
    (hk : ∀ (T' : State) (L L' : List Loc) (v : Option Value), Stand p l e R s m args below meth c T' L' c' s' → (Fr n0 L → Fr n0 L') → Q v T'.heap L → Go p e below P T' (mkF m q Ls (v.toList ++ rest)))
    (hq : pc + 3 = q := by rfl) (hy : y.cls ≠ "java/lang/invoke/MethodHandle" ∧ y.cls ≠ "java/lang/invoke/VarHandle" := by decide)
    (hsz : Ls.size = k := by rfl) (hst : Ss = argsL.reverse ++ rest := by rfl) (has : argsL.toArray = as' := by rfl)
    (hf : rm.frames + 1 ≤ R.frames := by decide) (hW : (rest.map fun v => v.category).sum = W := by rfl) (hl : W + (maxL + 11) + rm.locals ≤ R.locals := by decide) (hc1 : cells + rm.cells = c' := by rfl) (hs1 : slots + rm.slots = s' := by rfl) (hc : c' ≤ R.cells := by decide) (hs : s' ≤ R.slots := by decide) :
    Go p e below P T (mkF m pc Ls Ss) := by
  obtain ⟨v, _, ⟨T1, L1, kk1, nn1⟩, -, X1, ⟨Lc1, hQ1, lq1, yq1, zz1⟩, st1⟩ := Jvm.LawKit.callS X hx hown (mvT hZ w1) (mvT hZ w2) (mvT hZ wz) (mvT hZ wc) hy (own_back (W := W) hM hZ wc wz hf hl) (g := mkF m pc Ls Ss) rfl (by rw [hml]; exact hsz) (argsL := argsL) (rest := rest) hlen hst (by show 2 * 0 + _ ≤ _; omega) hd (fun _ _ => ⟨has, eT, by rw [hc1]; exact hc, by rw [hs1]; exact hs⟩)
  dsimp only [Pt.U, Pt.locs, Pt.cells, Pt.slots] at X1 lq1 yq1 zz1 st1 hQ1
  subst lq1 yq1 zz1 hq hc1 hs1
  exact Go.st st1 (hk _ _ _ _ X1 (Fr.app N) hQ1)
end Cps

def World1 (Z : State) (mir_0 : Addr) (mir_1 : Addr) (mir_2 : Addr) (mir_3 : Addr) (wE : Addr) (wD : Addr) (kE : ClassId) (kD : ClassId) : Prop :=
  Mir Z "[Ljava/lang/Object;" mir_0 ∧
  Mir Z "java/util/ArrayList" mir_1 ∧
  Mir Z "java/util/Collections$UnmodifiableList" mir_2 ∧
  Mir Z "java/util/Collections$UnmodifiableRandomAccessList" mir_3 ∧
  Sta Z Z.heap "java/util/ArrayList" "EMPTY_ELEMENTDATA" "[Ljava/lang/Object;" (.ref wE) ∧
  Exa Z Z.heap wE "[Ljava/lang/Object;" ∧
  Sta Z Z.heap "java/util/ArrayList" "DEFAULTCAPACITY_EMPTY_ELEMENTDATA" "[Ljava/lang/Object;" (.ref wD) ∧
  Exa Z Z.heap wD "[Ljava/lang/Object;" ∧
  Arv Z Z.heap wE kE (Jvm.ClassFile.FieldType.object "java/lang/Object") (0 : Int32) [] .null ∧
  Arv Z Z.heap wD kD (Jvm.ClassFile.FieldType.object "java/lang/Object") (0 : Int32) [] .null
theorem own_neArv {Z : State} {h : Heap} {a b : Addr} {k1 k2 : ClassId} {t1 t2 : FieldType} {z1 z2 : Int32} {v1 v2 : List Value} {d1 d2 : Value} (A : Arv Z h a k1 t1 z1 v1 d1) (B : Arv Z h b k2 t2 z2 v2 d2) (q : t1 ≠ t2) : a ≠ b := fun e => by
  subst e
  obtain ⟨c, ⟨c1, ⟨-, k, c2, comp, c3⟩, -⟩, -⟩ := A
  obtain ⟨c', ⟨d1, ⟨-, k', d2, comp', d3⟩, -⟩, -⟩ := B
  cases c1.symm.trans d1
  cases c2.symm.trans d2
  have := c3.symm.trans d3
  injection this with _ e
  exact q e

/-- c is the list's length -/
def Ln (c : Int32) (xs : List Value) : Prop := 0 ≤ c.toInt ∧ c.toInt = (xs.length : Int)
def AllE (x : Value) (es : List Value) : Prop := ∀ v ∈ es, v = x
theorem own_g {es : List Value} {n i : Int32} {x d : Value} (I : AllE x es) (l : Ln n es) (h0 : ¬ i < (0 : Int32)) (h1 : i < n) : es.getD i.toNatClampNeg d = x := by
  rw [Int32.lt_iff_toInt_lt] at h0 h1
  have e0 : (0 : Int32).toInt = 0 := by decide
  have hk : i.toNatClampNeg < es.length := by have := l.2; simp only [Int32.toNatClampNeg]; omega
  have hg : es.getD i.toNatClampNeg d = es[i.toNatClampNeg] := by simp [List.getD, hk]
  exact hg.trans (I _ (List.getElem_mem hk))
theorem i_lt {a b : Int32} (h : a.toInt < b.toInt) : a < b := by rw [Int32.lt_iff_toInt_lt]; exact h
theorem i_nlt {a b : Int32} (h : b.toInt ≤ a.toInt) : ¬ a < b := by rw [Int32.lt_iff_toInt_lt]; omega
theorem i_ge0 {a : Int32} (h : 0 ≤ a.toInt) : ¬ a < (0 : Int32) := by
  rw [Int32.lt_iff_toInt_lt]
  have e : (0 : Int32).toInt = 0 := by decide
  omega
theorem i_cap {x : Int32} {n : Nat} (h : x.toInt ≤ n) : x.toNatClampNeg ≤ n := by simp only [Int32.toNatClampNeg]; omega
theorem i_inc {i n : Int32} (h : 0 ≤ i.toInt) (h1 : i.toInt < n.toInt) : (i + (1 : Int32)).toInt = i.toInt + 1 := by
  have a := c_iadd i 1
  have r := rng32 (i + 1)
  have r2 := rng32 n
  have e1 : (1 : Int32).toInt = 1 := by decide
  omega
theorem pn_java_lang_Double : plainName "java/lang/Double" = true := by first | (simp [plainName, overriddenIn]; done) | decide +kernel
theorem d7_0 : decode jdk_117_method_7_code 0 = .ok (.dload_n 0, 1) := by decide +kernel
theorem d7_1 : decode jdk_117_method_7_code 1 = .ok (.invokestatic 38, 3) := by decide +kernel
theorem pd__D_D : parseMethodDescriptor "(D)D" = some ⟨[.double], some .double⟩ := by decide +kernel
theorem d7_4 : decode jdk_117_method_7_code 4 = .ok (.ldc2_w 111, 3) := by decide +kernel
theorem d7_7 : decode jdk_117_method_7_code 7 = .ok (.dcmp .l, 1) := by decide +kernel
theorem d7_8 : decode jdk_117_method_7_code 8 = .ok (.ifCond .le 7, 3) := by decide +kernel
theorem d7_15 : decode jdk_117_method_7_code 15 = .ok (.iconst 0, 1) := by decide +kernel
theorem d7_16 : decode jdk_117_method_7_code 16 = .ok (.ireturn, 1) := by decide +kernel
set_option maxRecDepth 65536 in
set_option maxHeartbeats 40000000 in
theorem isInf0 (l : Launch) (Z : State) (a0 : Array Value) (hw : ∀ d ∈ tables_1, d.before a0 Z = true) (ws : List Jvm.Cond)  (h0 : Heap) (n0 : Nat) (O0 : Old Z n0 h0)  :
    Con l Z mq0 jdk_117_method_7_code 2 (some .boolean) ws ({ frames := 1, cells := 0, slots := 0, locals := 13 } : Room) #[(.double (FP.l2d 0))] h0 (fun v h L => v = some (.int 0) ∧ Fr n0 L ∧ h = h0) := by
  refine own_body (plainFor_of_name pn_java_lang_Double) ?_
  intro p e s m below meth c s₁ hx hby hml hZ hown hnm hlk hret X0 e0
  have N0 := Fr.nil n0
  have D := @hb _ _ hby
  refine Go.st (T' := s₁) (f' := (mkF m 0 #[.val (.double (FP.l2d 0)), .second] [])) (fun _ k => castTop (by first | (simp [entryFrame, mkF, argsToLocals, Value.category]; done) | rfl) k) ?_
  refine Go.st (f' := (mkF m 1 #[.val (.double (FP.l2d 0)), .second] [(.double (FP.l2d 0))])) (fun _ k => XS.dloadN X0.here hx rfl (D d7_0) rfl k) ?_
  obtain ⟨T1, X1, e1, st1⟩ := natS X0 hx hZ hown (y := mq1) (ww hw 43 rfl) (ww hw 44 rfl) (ww hw 45 rfl) (ww hw 46 rfl) (by decide) e0 (W := 0) (F := fun a' => a' = #[.double (FP.l2d 0)] ∧ Jvm.Free.Fl.NoNaN64 (FP.l2d 0)) (val := .double ((FP.l2d 0) &&& 0x7fffffffffffffff)) (val' := .double (FP.l2d 0)) (fun hc => Jvm.Free.Fl.Abs.absD_pays (FP.l2d 0) hc (by decide) (by decide)) (g := (mkF m 1 #[.val (.double (FP.l2d 0)), .second] [(.double (FP.l2d 0))])) rfl (by rw [hml]; rfl) (argsL := [.double (FP.l2d 0)]) (rest := []) (lenOf pd__D_D rfl) rfl (by show 2 * 0 + _ ≤ _; exact Nat.le_of_eq rfl) (D d7_1) (by decide) (by decide) ⟨rfl, nn_w rfl⟩ (congrArg Value.double (abs_w (by decide)))
  refine zst 4 #[.val (.double (FP.l2d 0)), .second] [(.double (FP.l2d 0))] st1 ?_
  refine Go.st (f' := (mkF m 7 #[.val (.double (FP.l2d 0)), .second] [(.double (9218868437227405311 : UInt64)), (.double (FP.l2d 0))])) (fun _ k => X1.ldc2DoubleC hx hown (mvT hZ (ww hw 47 rfl)) (g := (mkF m 4 #[.val (.double (FP.l2d 0)), .second] [(.double (FP.l2d 0))])) rfl (D d7_4) _ k) ?_
  refine Go.st (f' := (mkF m 8 #[.val (.double (FP.l2d 0)), .second] [(.int (-1))])) (fun _ k => XS.dcmpS X1.here hx rfl (D d7_7) rfl (by decide +kernel) k) ?_
  refine zfy 15 X1 hx (D d7_8) (by decide) ?_
  refine zic 16 0 X1 hx (D d7_15) ?_
  refine Go.retB X1 hlk hx (t := .boolean) hret (by simp) (D d7_16) e1 ?_ (by decide) (by decide)
  exact ⟨rfl, N0, rfl⟩
set_option maxRecDepth 65536 in
set_option maxHeartbeats 40000000 in
theorem isInf1 (l : Launch) (Z : State) (a0 : Array Value) (hw : ∀ d ∈ tables_1, d.before a0 Z = true) (ws : List Jvm.Cond)  (h0 : Heap) (n0 : Nat) (O0 : Old Z n0 h0)  :
    Con l Z mq0 jdk_117_method_7_code 2 (some .boolean) ws ({ frames := 1, cells := 0, slots := 0, locals := 13 } : Room) #[(.double (FP.l2d 1))] h0 (fun v h L => v = some (.int 0) ∧ Fr n0 L ∧ h = h0) := by
  refine own_body (plainFor_of_name pn_java_lang_Double) ?_
  intro p e s m below meth c s₁ hx hby hml hZ hown hnm hlk hret X0 e0
  have N0 := Fr.nil n0
  have D := @hb _ _ hby
  refine Go.st (T' := s₁) (f' := (mkF m 0 #[.val (.double (FP.l2d 1)), .second] [])) (fun _ k => castTop (by first | (simp [entryFrame, mkF, argsToLocals, Value.category]; done) | rfl) k) ?_
  refine Go.st (f' := (mkF m 1 #[.val (.double (FP.l2d 1)), .second] [(.double (FP.l2d 1))])) (fun _ k => XS.dloadN X0.here hx rfl (D d7_0) rfl k) ?_
  obtain ⟨T1, X1, e1, st1⟩ := natS X0 hx hZ hown (y := mq1) (ww hw 43 rfl) (ww hw 44 rfl) (ww hw 45 rfl) (ww hw 46 rfl) (by decide) e0 (W := 0) (F := fun a' => a' = #[.double (FP.l2d 1)] ∧ Jvm.Free.Fl.NoNaN64 (FP.l2d 1)) (val := .double ((FP.l2d 1) &&& 0x7fffffffffffffff)) (val' := .double (FP.l2d 1)) (fun hc => Jvm.Free.Fl.Abs.absD_pays (FP.l2d 1) hc (by decide) (by decide)) (g := (mkF m 1 #[.val (.double (FP.l2d 1)), .second] [(.double (FP.l2d 1))])) rfl (by rw [hml]; rfl) (argsL := [.double (FP.l2d 1)]) (rest := []) (lenOf pd__D_D rfl) rfl (by show 2 * 0 + _ ≤ _; exact Nat.le_of_eq rfl) (D d7_1) (by decide) (by decide) ⟨rfl, nn_w rfl⟩ (congrArg Value.double (abs_w (by decide)))
  refine zst 4 #[.val (.double (FP.l2d 1)), .second] [(.double (FP.l2d 1))] st1 ?_
  refine Go.st (f' := (mkF m 7 #[.val (.double (FP.l2d 1)), .second] [(.double (9218868437227405311 : UInt64)), (.double (FP.l2d 1))])) (fun _ k => X1.ldc2DoubleC hx hown (mvT hZ (ww hw 47 rfl)) (g := (mkF m 4 #[.val (.double (FP.l2d 1)), .second] [(.double (FP.l2d 1))])) rfl (D d7_4) _ k) ?_
  refine Go.st (f' := (mkF m 8 #[.val (.double (FP.l2d 1)), .second] [(.int (-1))])) (fun _ k => XS.dcmpS X1.here hx rfl (D d7_7) rfl (by decide +kernel) k) ?_
  refine zfy 15 X1 hx (D d7_8) (by decide) ?_
  refine zic 16 0 X1 hx (D d7_15) ?_
  refine Go.retB X1 hlk hx (t := .boolean) hret (by simp) (D d7_16) e1 ?_ (by decide) (by decide)
  exact ⟨rfl, N0, rfl⟩
theorem pn_com_example_kinetic_city_kineticcity_engine_TransitLine : plainName "com/example/kinetic_city/kineticcity/engine/TransitLine" = true := by first | (simp [plainName, overriddenIn]; done) | decide +kernel
theorem d6_0 : decode prog_22_method_1_code 0 = .ok (.aload_n 0, 1) := by decide +kernel
theorem d6_1 : decode prog_22_method_1_code 1 = .ok (.invokespecial 1, 3) := by decide +kernel
theorem d6_4 : decode prog_22_method_1_code 4 = .ok (.aload_n 1, 1) := by decide +kernel
theorem d6_5 : decode prog_22_method_1_code 5 = .ok (.arraylength, 1) := by decide +kernel
theorem d6_6 : decode prog_22_method_1_code 6 = .ok (.iconst 2, 1) := by decide +kernel
theorem d6_7 : decode prog_22_method_1_code 7 = .ok (.if_icmp .ge 18, 3) := by decide +kernel
theorem d6_25 : decode prog_22_method_1_code 25 = .ok (.aload_n 2, 1) := by decide +kernel
theorem d6_26 : decode prog_22_method_1_code 26 = .ok (.arraylength, 1) := by decide +kernel
theorem d6_27 : decode prog_22_method_1_code 27 = .ok (.aload_n 1, 1) := by decide +kernel
theorem d6_28 : decode prog_22_method_1_code 28 = .ok (.arraylength, 1) := by decide +kernel
theorem d6_29 : decode prog_22_method_1_code 29 = .ok (.iconst 1, 1) := by decide +kernel
theorem d6_30 : decode prog_22_method_1_code 30 = .ok (.isub, 1) := by decide +kernel
theorem d6_31 : decode prog_22_method_1_code 31 = .ok (.if_icmp .eq 22, 3) := by decide +kernel
theorem d6_53 : decode prog_22_method_1_code 53 = .ok (.aload_n 1, 1) := by decide +kernel
theorem d6_54 : decode prog_22_method_1_code 54 = .ok (.astore 5, 2) := by decide +kernel
theorem d6_56 : decode prog_22_method_1_code 56 = .ok (.aload 5, 2) := by decide +kernel
theorem d6_58 : decode prog_22_method_1_code 58 = .ok (.arraylength, 1) := by decide +kernel
theorem d6_59 : decode prog_22_method_1_code 59 = .ok (.istore 6, 2) := by decide +kernel
theorem d6_61 : decode prog_22_method_1_code 61 = .ok (.iconst 0, 1) := by decide +kernel
theorem d6_62 : decode prog_22_method_1_code 62 = .ok (.istore 7, 2) := by decide +kernel
theorem d6_64 : decode prog_22_method_1_code 64 = .ok (.iload 7, 2) := by decide +kernel
theorem d6_66 : decode prog_22_method_1_code 66 = .ok (.iload 6, 2) := by decide +kernel
theorem d6_68 : decode prog_22_method_1_code 68 = .ok (.if_icmp .ge 37, 3) := by decide +kernel
theorem d6_71 : decode prog_22_method_1_code 71 = .ok (.aload 5, 2) := by decide +kernel
theorem d6_73 : decode prog_22_method_1_code 73 = .ok (.iload 7, 2) := by decide +kernel
theorem d6_75 : decode prog_22_method_1_code 75 = .ok (.iaload, 1) := by decide +kernel
theorem d6_76 : decode prog_22_method_1_code 76 = .ok (.istore 8, 2) := by decide +kernel
theorem d6_78 : decode prog_22_method_1_code 78 = .ok (.iload 8, 2) := by decide +kernel
theorem d6_80 : decode prog_22_method_1_code 80 = .ok (.iconst 1, 1) := by decide +kernel
theorem d6_81 : decode prog_22_method_1_code 81 = .ok (.if_icmp .ge 18, 3) := by decide +kernel
theorem d6_99 : decode prog_22_method_1_code 99 = .ok (.iinc 7 1, 3) := by decide +kernel
theorem d6_102 : decode prog_22_method_1_code 102 = .ok (.goto (-38), 3) := by decide +kernel
theorem d6_105 : decode prog_22_method_1_code 105 = .ok (.aload_n 2, 1) := by decide +kernel
theorem d6_106 : decode prog_22_method_1_code 106 = .ok (.astore 5, 2) := by decide +kernel
theorem d6_108 : decode prog_22_method_1_code 108 = .ok (.aload 5, 2) := by decide +kernel
theorem d6_110 : decode prog_22_method_1_code 110 = .ok (.arraylength, 1) := by decide +kernel
theorem d6_111 : decode prog_22_method_1_code 111 = .ok (.istore 6, 2) := by decide +kernel
theorem d6_113 : decode prog_22_method_1_code 113 = .ok (.iconst 0, 1) := by decide +kernel
theorem d6_114 : decode prog_22_method_1_code 114 = .ok (.istore 7, 2) := by decide +kernel
theorem d6_116 : decode prog_22_method_1_code 116 = .ok (.iload 7, 2) := by decide +kernel
theorem d6_118 : decode prog_22_method_1_code 118 = .ok (.iload 6, 2) := by decide +kernel
theorem d6_120 : decode prog_22_method_1_code 120 = .ok (.if_icmp .ge 46, 3) := by decide +kernel
theorem d6_123 : decode prog_22_method_1_code 123 = .ok (.aload 5, 2) := by decide +kernel
theorem d6_125 : decode prog_22_method_1_code 125 = .ok (.iload 7, 2) := by decide +kernel
theorem d6_127 : decode prog_22_method_1_code 127 = .ok (.daload, 1) := by decide +kernel
theorem d6_128 : decode prog_22_method_1_code 128 = .ok (.dstore 8, 2) := by decide +kernel
theorem d6_130 : decode prog_22_method_1_code 130 = .ok (.dload 8, 2) := by decide +kernel
theorem d6_132 : decode prog_22_method_1_code 132 = .ok (.dconst 0, 1) := by decide +kernel
theorem d6_133 : decode prog_22_method_1_code 133 = .ok (.dcmp .l, 1) := by decide +kernel
theorem d6_134 : decode prog_22_method_1_code 134 = .ok (.ifCond .lt 11, 3) := by decide +kernel
theorem d6_137 : decode prog_22_method_1_code 137 = .ok (.dload 8, 2) := by decide +kernel
theorem d6_139 : decode prog_22_method_1_code 139 = .ok (.invokestatic 20, 3) := by decide +kernel
theorem pd__D_Z : parseMethodDescriptor "(D)Z" = some ⟨[.double], some .boolean⟩ := by decide +kernel
theorem d6_142 : decode prog_22_method_1_code 142 = .ok (.ifCond .eq 18, 3) := by decide +kernel
theorem d6_160 : decode prog_22_method_1_code 160 = .ok (.iinc 7 1, 3) := by decide +kernel
theorem d6_163 : decode prog_22_method_1_code 163 = .ok (.goto (-47), 3) := by decide +kernel
theorem d6_166 : decode prog_22_method_1_code 166 = .ok (.dload_n 3, 1) := by decide +kernel
theorem d6_167 : decode prog_22_method_1_code 167 = .ok (.dconst 0, 1) := by decide +kernel
theorem d6_168 : decode prog_22_method_1_code 168 = .ok (.dcmp .l, 1) := by decide +kernel
theorem d6_169 : decode prog_22_method_1_code 169 = .ok (.ifCond .lt 10, 3) := by decide +kernel
theorem d6_172 : decode prog_22_method_1_code 172 = .ok (.dload_n 3, 1) := by decide +kernel
theorem d6_173 : decode prog_22_method_1_code 173 = .ok (.invokestatic 20, 3) := by decide +kernel
theorem d6_176 : decode prog_22_method_1_code 176 = .ok (.ifCond .eq 17, 3) := by decide +kernel
theorem d6_193 : decode prog_22_method_1_code 193 = .ok (.aload_n 0, 1) := by decide +kernel
theorem d6_194 : decode prog_22_method_1_code 194 = .ok (.aload_n 1, 1) := by decide +kernel
theorem d6_195 : decode prog_22_method_1_code 195 = .ok (.invokevirtual 30, 3) := by decide +kernel
theorem d6_198 : decode prog_22_method_1_code 198 = .ok (.checkcast 31, 3) := by decide +kernel
theorem d6_201 : decode prog_22_method_1_code 201 = .ok (.putfield 36, 3) := by decide +kernel
theorem d6_204 : decode prog_22_method_1_code 204 = .ok (.aload_n 0, 1) := by decide +kernel
theorem d6_205 : decode prog_22_method_1_code 205 = .ok (.aload_n 2, 1) := by decide +kernel
theorem d6_206 : decode prog_22_method_1_code 206 = .ok (.invokevirtual 41, 3) := by decide +kernel
theorem d6_209 : decode prog_22_method_1_code 209 = .ok (.checkcast 42, 3) := by decide +kernel
theorem d6_212 : decode prog_22_method_1_code 212 = .ok (.putfield 44, 3) := by decide +kernel
theorem d6_215 : decode prog_22_method_1_code 215 = .ok (.aload_n 0, 1) := by decide +kernel
theorem d6_216 : decode prog_22_method_1_code 216 = .ok (.dload_n 3, 1) := by decide +kernel
theorem d6_217 : decode prog_22_method_1_code 217 = .ok (.putfield 47, 3) := by decide +kernel
theorem d6_220 : decode prog_22_method_1_code 220 = .ok (.return_, 1) := by decide +kernel
set_option maxRecDepth 65536 in
set_option maxHeartbeats 40000000 in
theorem rmTL (l : Launch) (Z : State) (a0 : Array Value) (hw : ∀ d ∈ tables_1, d.before a0 Z = true) (ws : List Jvm.Cond) (a1 : Addr) (sa : Addr) (sk : ClassId) (da : Addr) (dk : ClassId) (n : Int32) (mm : Int32) (es : List Value) (ds : List Value) (h0 : Heap) (n0 : Nat) (O0 : Old Z n0 h0) (ln : Ln n es) (lm : Ln mm ds) (a1s : AllE (.int 1) es) (a0s : AllE (.double (FP.l2d 0)) ds) (h2 : 2 ≤ n.toInt) (h5 : n.toInt ≤ 5) (hm : mm = (n - (1 : Int32))) (g_a1 : n0 ≤ a1) (E_a1 : Exa Z h0 a1 "com/example/kinetic_city/kineticcity/engine/TransitLine") (F_a1_frequency : Fld Z h0 a1 "com/example/kinetic_city/kineticcity/engine/TransitLine" "frequency" "D" (.double (FP.l2d 0))) (F_a1_segmentSeconds : Fld Z h0 a1 "com/example/kinetic_city/kineticcity/engine/TransitLine" "segmentSeconds" "[D" .null) (F_a1_stops : Fld Z h0 a1 "com/example/kinetic_city/kineticcity/engine/TransitLine" "stops" "[I" .null) (E_sa : Exa Z h0 sa "[I") (E_da : Exa Z h0 da "[D") (V_sa : Arv Z h0 sa sk .int n es (.int 0)) (V_da : Arv Z h0 da dk .double mm ds (.double (FP.l2d 0))) :
    Con l Z mq2 prog_22_method_1_code 10 none ws ({ frames := 2, cells := 2, slots := 9, locals := 26 } : Room) #[(.ref a1), (.ref sa), (.ref da), (.double (FP.l2d 1))] h0 (fun v h L => v = none ∧ Fr n0 L ∧ Keep h0 h [a1] ∧ Exa Z h a1 "com/example/kinetic_city/kineticcity/engine/TransitLine" ∧ ∃ (st : Addr) (ks : ClassId), h0.size ≤ st ∧ Fld Z h a1 "com/example/kinetic_city/kineticcity/engine/TransitLine" "stops" "[I" (.ref st) ∧ Arv Z h st ks .int n es (.int 0)) := by
  refine own_body (plainFor_of_name pn_com_example_kinetic_city_kineticcity_engine_TransitLine) ?_
  intro p e s m below meth c s₁ hx hby hml hZ hown hnm hlk hret X0 e0
  have N0 := Fr.nil n0
  have D := @hb _ _ hby
  have K0 : Keep h0 h0 [a1] := Keep.refl _ _
  refine Go.st (T' := s₁) (f' := (mkF m 0 #[rv a1, rv sa, rv da, .val (.double (FP.l2d 1)), .second, .unset, .unset, .unset, .unset, .unset] [])) (fun _ k => castTop (by first | (simp [entryFrame, mkF, argsToLocals, Value.category]; done) | rfl) k) ?_
  have z0 : (0 : Int32).toInt = 0 := by decide
  have z1 : (1 : Int32).toInt = 1 := by decide
  have z2 : (2 : Int32).toInt = 2 := by decide
  have em : mm.toInt = n.toInt - 1 := by have q := c_isub n 1; have r := rng32 (n - 1); rw [hm]; omega
  have lt_a1 := E_a1.lt
  have lt_sa := V_sa.lt
  have lt_da := V_da.lt
  have nt_a1_sa : a1 ≠ sa := Exa.neArv E_a1 V_sa (ww hw 31 rfl)
  have nt_da_sa : da ≠ sa := own_neArv V_da V_sa (by decide)
  have nt_a1_da : a1 ≠ da := Exa.neArv E_a1 V_da (ww hw 31 rfl)
  refine zan 1 X0 hx (D d6_0) rfl rfl ?_
  obtain ⟨T1, X1, e1, st1⟩ := initO X0 hx hZ hown (ww hw 38 rfl) (ww hw 19 rfl) (ww hw 20 rfl) e0 (g := (mkF m 1 #[rv a1, rv sa, rv da, .val (.double (FP.l2d 1)), .second, .unset, .unset, .unset, .unset, .unset] [(.ref a1)])) rfl (by rw [hml]; rfl) rfl (D d6_1) (by decide) (W := 0) (by show 2 * 0 + _ ≤ _; exact Nat.le_of_eq rfl) (by decide)
  refine zst 4 #[rv a1, rv sa, rv da, .val (.double (FP.l2d 1)), .second, .unset, .unset, .unset, .unset, .unset] [] st1 ?_
  refine zan 5 X1 hx (D d6_4) rfl rfl ?_
  obtain ⟨cl2, Ar2, -, S2, Nx2, -, -⟩ := id V_sa
  refine Go.st (T' := T1) (f' := (mkF m 6 #[rv a1, rv sa, rv da, .val (.double (FP.l2d 1)), .second, .unset, .unset, .unset, .unset, .unset] [(.int n)])) (fun _ k => X1.arraylength hx (by rw [e1]; exact Ar2.1) (State.isArrayOf_alike hZ.alike Ar2.2.1) (g := (mkF m 5 #[rv a1, rv sa, rv da, .val (.double (FP.l2d 1)), .second, .unset, .unset, .unset, .unset, .unset] [(.ref sa)])) rfl rfl (D d6_5) _ (by rw [len_of S2 Nx2]; exact k)) ?_
  refine zic 7 2 X1 hx (D d6_6) ?_
  refine zcy 25 X1 hx (D d6_7) (flt (i_nlt (by omega))).2.1 ?_
  refine zan 26 X1 hx (D d6_25) rfl rfl ?_
  obtain ⟨cl3, Ar3, -, S3, Nx3, -, -⟩ := id V_da
  refine Go.st (T' := T1) (f' := (mkF m 27 #[rv a1, rv sa, rv da, .val (.double (FP.l2d 1)), .second, .unset, .unset, .unset, .unset, .unset] [(.int mm)])) (fun _ k => X1.arraylength hx (by rw [e1]; exact Ar3.1) (State.isArrayOf_alike hZ.alike Ar3.2.1) (g := (mkF m 26 #[rv a1, rv sa, rv da, .val (.double (FP.l2d 1)), .second, .unset, .unset, .unset, .unset, .unset] [(.ref da)])) rfl rfl (D d6_26) _ (by rw [len_of S3 Nx3]; exact k)) ?_
  refine zan 28 X1 hx (D d6_27) rfl rfl ?_
  obtain ⟨cl4, Ar4, -, S4, Nx4, -, -⟩ := id V_sa
  refine Go.st (T' := T1) (f' := (mkF m 29 #[rv a1, rv sa, rv da, .val (.double (FP.l2d 1)), .second, .unset, .unset, .unset, .unset, .unset] [(.int n), (.int mm)])) (fun _ k => X1.arraylength hx (by rw [e1]; exact Ar4.1) (State.isArrayOf_alike hZ.alike Ar4.2.1) (g := (mkF m 28 #[rv a1, rv sa, rv da, .val (.double (FP.l2d 1)), .second, .unset, .unset, .unset, .unset, .unset] [(.ref sa), (.int mm)])) rfl rfl (D d6_28) _ (by rw [len_of S4 Nx4]; exact k)) ?_
  refine zic 30 1 X1 hx (D d6_29) ?_
  refine zsb 31 X1 hx (D d6_30) ?_
  refine zcy 53 X1 hx (D d6_31) (teq hm).1 ?_
  refine zan 54 X1 hx (D d6_53) rfl rfl ?_
  refine zrl 56 #[rv a1, rv sa, rv da, .val (.double (FP.l2d 1)), .second, rv sa, .unset, .unset, .unset, .unset] X1 hx (D d6_54) rfl ?_
  refine zal 58 X1 hx (D d6_56) rfl rfl ?_
  obtain ⟨cl5, Ar5, -, S5, Nx5, -, -⟩ := id V_sa
  refine Go.st (T' := T1) (f' := (mkF m 59 #[rv a1, rv sa, rv da, .val (.double (FP.l2d 1)), .second, rv sa, .unset, .unset, .unset, .unset] [(.int n)])) (fun _ k => X1.arraylength hx (by rw [e1]; exact Ar5.1) (State.isArrayOf_alike hZ.alike Ar5.2.1) (g := (mkF m 58 #[rv a1, rv sa, rv da, .val (.double (FP.l2d 1)), .second, rv sa, .unset, .unset, .unset, .unset] [(.ref sa)])) rfl rfl (D d6_58) _ (by rw [len_of S5 Nx5]; exact k)) ?_
  refine zsl 61 #[rv a1, rv sa, rv da, .val (.double (FP.l2d 1)), .second, rv sa, iv n, .unset, .unset, .unset] X1 hx (D d6_59) ?_
  refine zic 62 0 X1 hx (D d6_61) ?_
  refine zsl 64 #[rv a1, rv sa, rv da, .val (.double (FP.l2d 1)), .second, rv sa, iv n, iv 0, .unset, .unset] X1 hx (D d6_62) ?_
  refine zil 66 X1 hx (D d6_64) rfl ?_
  refine zil 68 X1 hx (D d6_66) rfl ?_
  refine zcn 71 X1 hx (D d6_68) (tlt (i_lt (by omega))).2.1 ?_
  refine zal 73 X1 hx (D d6_71) rfl rfl ?_
  refine zil 75 X1 hx (D d6_73) rfl ?_
  obtain ⟨cl6, Ar6, -, S6, -, H6, -⟩ := id V_sa
  have hin6 : ¬ ((0 : Int32) < 0 ∨ cl6.slots.size ≤ ((0 : Int32)).toNatClampNeg) := inb_of S6 ⟨(by decide), (i_lt (by omega))⟩
  have hat6 : cl6.slots[((0 : Int32)).toNatClampNeg]? = some (.int (1 : Int32)) := H6.at hin6 (own_g a1s ln (by decide) (i_lt (by omega)))
  refine Go.st (f' := (mkF m 76 #[rv a1, rv sa, rv da, .val (.double (FP.l2d 1)), .second, rv sa, iv n, iv 0, .unset, .unset] [(.int 1)])) (fun _ k => X1.iaload hx (j := (0 : Int32)) (v := (.int (1 : Int32))) (by rw [e1]; exact Ar6.1) (State.isArrayOf_alike hZ.alike Ar6.2.1) Ar6.2.2 hin6 hat6 (g := (mkF m 75 #[rv a1, rv sa, rv da, .val (.double (FP.l2d 1)), .second, rv sa, iv n, iv 0, .unset, .unset] [(.int 0), (.ref sa)])) rfl rfl (D d6_75) _ k) ?_
  refine zsl 78 #[rv a1, rv sa, rv da, .val (.double (FP.l2d 1)), .second, rv sa, iv n, iv 0, iv 1, .unset] X1 hx (D d6_76) ?_
  refine zil 80 X1 hx (D d6_78) rfl ?_
  refine zic 81 1 X1 hx (D d6_80) ?_
  refine zcy 99 X1 hx (D d6_81) (by decide) ?_
  refine zii 102 #[rv a1, rv sa, rv da, .val (.double (FP.l2d 1)), .second, rv sa, iv n, iv 1, iv 1, .unset] X1 hx (D d6_99) rfl ?_
  refine zgo 64 X1 hx (D d6_102) ?_
  have LA : ∀ (fuel : Nat) (TJ7 : State) (hJ7 : Heap) (LJ7 : List Loc) (i : Int32), (Stand p l e ({ frames := 2, cells := 2, slots := 9, locals := 26 } : Room) s m #[(.ref a1), (.ref sa), (.ref da), (.double (FP.l2d 1))] below meth c TJ7 LJ7 0 0) → (TJ7.heap = hJ7) → (Old Z n0 hJ7) → (Fr n0 LJ7) → (Keep h0 hJ7 [a1]) → (Exa Z hJ7 a1 "com/example/kinetic_city/kineticcity/engine/TransitLine") → (Fld Z hJ7 a1 "com/example/kinetic_city/kineticcity/engine/TransitLine" "frequency" "D" (.double (FP.l2d 0))) → (Fld Z hJ7 a1 "com/example/kinetic_city/kineticcity/engine/TransitLine" "segmentSeconds" "[D" .null) → (Fld Z hJ7 a1 "com/example/kinetic_city/kineticcity/engine/TransitLine" "stops" "[I" .null) → (a1 < hJ7.size) → (Arv Z hJ7 sa sk .int n es (.int (0 : Int32))) → (sa < hJ7.size) → (Arv Z hJ7 da dk .double mm ds (.double (FP.l2d 0))) → (da < hJ7.size) → (Exa Z hJ7 sa "[I") → (Exa Z hJ7 da "[D") → (1 ≤ i.toInt) → (i.toInt + (fuel : Int) = n.toInt) → Go p e below (Done s (fun v h L => v = none ∧ Fr n0 L ∧ Keep h0 h [a1] ∧ Exa Z h a1 "com/example/kinetic_city/kineticcity/engine/TransitLine" ∧ ∃ (st : Addr) (ks : ClassId), h0.size ≤ st ∧ Fld Z h a1 "com/example/kinetic_city/kineticcity/engine/TransitLine" "stops" "[I" (.ref st) ∧ Arv Z h st ks .int n es (.int (0 : Int32))) ({ frames := 2, cells := 2, slots := 9, locals := 26 } : Room).cells ({ frames := 2, cells := 2, slots := 9, locals := 26 } : Room).slots) TJ7 (mkF m 64 #[rv a1, rv sa, rv da, .val (.double (FP.l2d 1)), .second, rv sa, iv n, iv i, iv 1, .unset] []) := by
   intro fuel
   induction fuel with
   | zero =>
    intro TJ7 hJ7 LJ7 i XJ7 eJ7 OJ7 NJ7 KJ7 cyJ7_0 cyJ7_1 cyJ7_2 cyJ7_3 cyJ7_4 cyJ7_5 cyJ7_6 cyJ7_7 cyJ7_8 cyJ7_9 cyJ7_10 hi0 hi1
    have hge : ¬ i < n := i_nlt (by omega)
    refine zil 66 XJ7 hx (D d6_64) rfl ?_
    refine zil 68 XJ7 hx (D d6_66) rfl ?_
    refine zcy 105 XJ7 hx (D d6_68) (flt hge).2.1 ?_
    refine zan 106 XJ7 hx (D d6_105) rfl rfl ?_
    refine zrl 108 #[rv a1, rv sa, rv da, .val (.double (FP.l2d 1)), .second, rv da, iv n, iv i, iv 1, .unset] XJ7 hx (D d6_106) rfl ?_
    refine zal 110 XJ7 hx (D d6_108) rfl rfl ?_
    obtain ⟨cl8, Ar8, -, S8, Nx8, -, -⟩ := id cyJ7_7
    refine Go.st (T' := TJ7) (f' := (mkF m 111 #[rv a1, rv sa, rv da, .val (.double (FP.l2d 1)), .second, rv da, iv n, iv i, iv 1, .unset] [(.int mm)])) (fun _ k => XJ7.arraylength hx (by rw [eJ7]; exact Ar8.1) (State.isArrayOf_alike hZ.alike Ar8.2.1) (g := (mkF m 110 #[rv a1, rv sa, rv da, .val (.double (FP.l2d 1)), .second, rv da, iv n, iv i, iv 1, .unset] [(.ref da)])) rfl rfl (D d6_110) _ (by rw [len_of S8 Nx8]; exact k)) ?_
    refine zsl 113 #[rv a1, rv sa, rv da, .val (.double (FP.l2d 1)), .second, rv da, iv mm, iv i, iv 1, .unset] XJ7 hx (D d6_111) ?_
    refine zic 114 0 XJ7 hx (D d6_113) ?_
    refine zsl 116 #[rv a1, rv sa, rv da, .val (.double (FP.l2d 1)), .second, rv da, iv mm, iv 0, iv 1, .unset] XJ7 hx (D d6_114) ?_
    refine zil 118 XJ7 hx (D d6_116) rfl ?_
    refine zil 120 XJ7 hx (D d6_118) rfl ?_
    refine zcn 123 XJ7 hx (D d6_120) (tlt (i_lt (by omega))).2.1 ?_
    refine zal 125 XJ7 hx (D d6_123) rfl rfl ?_
    refine zil 127 XJ7 hx (D d6_125) rfl ?_
    obtain ⟨cl9, Ar9, -, S9, -, H9, -⟩ := id cyJ7_7
    have hin9 : ¬ ((0 : Int32) < 0 ∨ cl9.slots.size ≤ ((0 : Int32)).toNatClampNeg) := inb_of S9 ⟨(by decide), (i_lt (by omega))⟩
    have hat9 : cl9.slots[((0 : Int32)).toNatClampNeg]? = some (.double (FP.l2d 0)) := H9.at hin9 (own_g a0s lm (by decide) (i_lt (by omega)))
    refine Go.st (f' := (mkF m 128 #[rv a1, rv sa, rv da, .val (.double (FP.l2d 1)), .second, rv da, iv mm, iv 0, iv 1, .unset] [(.double (FP.l2d 0))])) (fun _ k => XJ7.daload hx (j := (0 : Int32)) (v := (.double (FP.l2d 0))) (by rw [eJ7]; exact Ar9.1) (State.isArrayOf_alike hZ.alike Ar9.2.1) Ar9.2.2 hin9 hat9 (g := (mkF m 127 #[rv a1, rv sa, rv da, .val (.double (FP.l2d 1)), .second, rv da, iv mm, iv 0, iv 1, .unset] [(.int 0), (.ref da)])) rfl rfl (D d6_127) _ k) ?_
    refine Go.st (f' := (mkF m 130 #[rv a1, rv sa, rv da, .val (.double (FP.l2d 1)), .second, rv da, iv mm, iv 0, .val (.double (FP.l2d 0)), .second] [])) (fun _ k => XS.dstore XJ7.here hx rfl (D d6_128) rfl (l' := #[rv a1, rv sa, rv da, .val (.double (FP.l2d 1)), .second, rv da, iv mm, iv 0, .val (.double (FP.l2d 0)), .second]) rfl k) ?_
    refine Go.st (f' := (mkF m 132 #[rv a1, rv sa, rv da, .val (.double (FP.l2d 1)), .second, rv da, iv mm, iv 0, .val (.double (FP.l2d 0)), .second] [(.double (FP.l2d 0))])) (fun _ k => XS.dload XJ7.here hx rfl (D d6_130) rfl k) ?_
    refine Go.st (f' := (mkF m 133 #[rv a1, rv sa, rv da, .val (.double (FP.l2d 1)), .second, rv da, iv mm, iv 0, .val (.double (FP.l2d 0)), .second] [(.double (FP.l2d 0)), (.double (FP.l2d 0))])) (fun _ k => XS.dconst0 XJ7.here hx rfl (D d6_132) (by decide +kernel) k) ?_
    refine Go.st (f' := (mkF m 134 #[rv a1, rv sa, rv da, .val (.double (FP.l2d 1)), .second, rv da, iv mm, iv 0, .val (.double (FP.l2d 0)), .second] [(.int (lcmpW 0 0))])) (fun _ k => XS.dcmpS XJ7.here hx rfl (D d6_133) rfl (dcmpV_w (b53 (by decide) (by decide)) (b53 (by decide) (by decide)) _) k) ?_
    refine zfn 137 XJ7 hx (D d6_134) (by decide) ?_
    refine Go.st (f' := (mkF m 139 #[rv a1, rv sa, rv da, .val (.double (FP.l2d 1)), .second, rv da, iv mm, iv 0, .val (.double (FP.l2d 0)), .second] [(.double (FP.l2d 0))])) (fun _ k => XS.dload XJ7.here hx rfl (D d6_137) rfl k) ?_
    refine gS 142 0 0 0 XJ7 NJ7 hx hZ (y := mq0) hown hml (ww hw 39 rfl) (ww hw 40 rfl) (ww hw 41 rfl) (isInf0 l Z a0 hw [] hJ7 n0 OJ7) (ww hw 42 rfl) eJ7 [(.double (FP.l2d 0))] [] (lenOf pd__D_Z rfl) (D d6_139) ?_
    rintro T10 L10 M10 _ X10 uu10 ⟨rfl, Nq10, kq10⟩
    have N10 := uu10 Nq10
    refine zsk [(.int 0)] ?_
    refine zfy 160 X10 hx (D d6_142) (by decide) ?_
    refine zii 163 #[rv a1, rv sa, rv da, .val (.double (FP.l2d 1)), .second, rv da, iv mm, iv 1, .val (.double (FP.l2d 0)), .second] X10 hx (D d6_160) rfl ?_
    refine zgo 116 X10 hx (D d6_163) ?_
    have LB : ∀ (fuel : Nat) (TJ11 : State) (hJ11 : Heap) (LJ11 : List Loc) (i : Int32), (Stand p l e ({ frames := 2, cells := 2, slots := 9, locals := 26 } : Room) s m #[(.ref a1), (.ref sa), (.ref da), (.double (FP.l2d 1))] below meth c TJ11 LJ11 0 0) → (TJ11.heap = hJ11) → (Old Z n0 hJ11) → (Fr n0 LJ11) → (Keep h0 hJ11 [a1]) → (Exa Z hJ11 a1 "com/example/kinetic_city/kineticcity/engine/TransitLine") → (Fld Z hJ11 a1 "com/example/kinetic_city/kineticcity/engine/TransitLine" "frequency" "D" (.double (FP.l2d 0))) → (Fld Z hJ11 a1 "com/example/kinetic_city/kineticcity/engine/TransitLine" "segmentSeconds" "[D" .null) → (Fld Z hJ11 a1 "com/example/kinetic_city/kineticcity/engine/TransitLine" "stops" "[I" .null) → (a1 < hJ11.size) → (Arv Z hJ11 sa sk .int n es (.int (0 : Int32))) → (sa < hJ11.size) → (Arv Z hJ11 da dk .double mm ds (.double (FP.l2d 0))) → (da < hJ11.size) → (Exa Z hJ11 sa "[I") → (Exa Z hJ11 da "[D") → (1 ≤ i.toInt) → (i.toInt + (fuel : Int) = mm.toInt) → Go p e below (Done s (fun v h L => v = none ∧ Fr n0 L ∧ Keep h0 h [a1] ∧ Exa Z h a1 "com/example/kinetic_city/kineticcity/engine/TransitLine" ∧ ∃ (st : Addr) (ks : ClassId), h0.size ≤ st ∧ Fld Z h a1 "com/example/kinetic_city/kineticcity/engine/TransitLine" "stops" "[I" (.ref st) ∧ Arv Z h st ks .int n es (.int (0 : Int32))) ({ frames := 2, cells := 2, slots := 9, locals := 26 } : Room).cells ({ frames := 2, cells := 2, slots := 9, locals := 26 } : Room).slots) TJ11 (mkF m 116 #[rv a1, rv sa, rv da, .val (.double (FP.l2d 1)), .second, rv da, iv mm, iv i, .val (.double (FP.l2d 0)), .second] []) := by
     intro fuel
     induction fuel with
     | zero =>
      intro TJ11 hJ11 LJ11 i XJ11 eJ11 OJ11 NJ11 KJ11 cyJ11_0 cyJ11_1 cyJ11_2 cyJ11_3 cyJ11_4 cyJ11_5 cyJ11_6 cyJ11_7 cyJ11_8 cyJ11_9 cyJ11_10 hi0 hi1
      have hge : ¬ i < mm := i_nlt (by omega)
      refine zil 118 XJ11 hx (D d6_116) rfl ?_
      refine zil 120 XJ11 hx (D d6_118) rfl ?_
      refine zcy 166 XJ11 hx (D d6_120) (flt hge).2.1 ?_
      refine Go.st (f' := (mkF m 167 #[rv a1, rv sa, rv da, .val (.double (FP.l2d 1)), .second, rv da, iv mm, iv i, .val (.double (FP.l2d 0)), .second] [(.double (FP.l2d 1))])) (fun _ k => XS.dloadN XJ11.here hx rfl (D d6_166) rfl k) ?_
      refine Go.st (f' := (mkF m 168 #[rv a1, rv sa, rv da, .val (.double (FP.l2d 1)), .second, rv da, iv mm, iv i, .val (.double (FP.l2d 0)), .second] [(.double (FP.l2d 0)), (.double (FP.l2d 1))])) (fun _ k => XS.dconst0 XJ11.here hx rfl (D d6_167) (by decide +kernel) k) ?_
      refine Go.st (f' := (mkF m 169 #[rv a1, rv sa, rv da, .val (.double (FP.l2d 1)), .second, rv da, iv mm, iv i, .val (.double (FP.l2d 0)), .second] [(.int (lcmpW 1 0))])) (fun _ k => XS.dcmpS XJ11.here hx rfl (D d6_168) rfl (dcmpV_w (b53 (by decide) (by decide)) (b53 (by decide) (by decide)) _) k) ?_
      refine zfn 172 XJ11 hx (D d6_169) (by decide) ?_
      refine Go.st (f' := (mkF m 173 #[rv a1, rv sa, rv da, .val (.double (FP.l2d 1)), .second, rv da, iv mm, iv i, .val (.double (FP.l2d 0)), .second] [(.double (FP.l2d 1))])) (fun _ k => XS.dloadN XJ11.here hx rfl (D d6_172) rfl k) ?_
      refine gS 176 0 0 0 XJ11 NJ11 hx hZ (y := mq0) hown hml (ww hw 39 rfl) (ww hw 40 rfl) (ww hw 41 rfl) (isInf1 l Z a0 hw [] hJ11 n0 OJ11) (ww hw 42 rfl) eJ11 [(.double (FP.l2d 1))] [] (lenOf pd__D_Z rfl) (D d6_173) ?_
      rintro T12 L12 M12 _ X12 uu12 ⟨rfl, Nq12, kq12⟩
      have N12 := uu12 Nq12
      refine zsk [(.int 0)] ?_
      refine zfy 193 X12 hx (D d6_176) (by decide) ?_
      refine zan 194 X12 hx (D d6_193) rfl rfl ?_
      refine zan 195 X12 hx (D d6_194) rfl rfl ?_
      obtain ⟨T14, h14, X14, e14, E14, V14, A14, st14⟩ := cloneH X12 hx hZ hown (ww hw 48 rfl) (ww hw 49 rfl) (ww hw 53 rfl) (ww hw 51 rfl) (ww hw 52 rfl) (ww hw 54 rfl) kq12 (Arv.arh cyJ11_5) cyJ11_9 (g := (mkF m 195 #[rv a1, rv sa, rv da, .val (.double (FP.l2d 1)), .second, rv da, iv mm, iv i, .val (.double (FP.l2d 0)), .second] [(.ref sa), (.ref a1)])) rfl (by rw [hml]; rfl) rfl (D d6_195) (by decide) (W := 1) (by show 2 * 0 + _ ≤ _; exact Nat.le_of_eq rfl) (by decide) (cap := 5) (i_cap (n := 5) (by omega)) (by decide) (by decide)
      obtain ⟨b14, g14⟩ : ∃ z, z = hJ11.size := ⟨_, rfl⟩
      rw [← g14] at V14 A14 st14
      have ne_a1_b14 : a1 ≠ b14 := Nat.ne_of_lt (lteq cyJ11_4 g14.symm)
      have ne_sa_b14 : sa ≠ b14 := Nat.ne_of_lt (lteq cyJ11_6 g14.symm)
      have ne_da_b14 : da ≠ b14 := Nat.ne_of_lt (lteq cyJ11_8 g14.symm)
      have g_b14 : n0 ≤ b14 := Nat.le_trans (OJ11.1 ▸ OJ11.2.1) (Nat.le_of_eq g14.symm)
      have O14 : Old Z n0 h14 := OJ11.ext E14
      have sz_b14 : h0.size ≤ b14 := Nat.le_trans KJ11.1 (Nat.le_of_eq g14.symm)
      have K14 : Keep h0 h14 [a1] := KJ11.ext E14
      have V_b14 : Arv Z h14 b14 sk .int n es (.int (0 : Int32)) := V14
      have lt_b14 := A14.lt
      refine zst 198 #[rv a1, rv sa, rv da, .val (.double (FP.l2d 1)), .second, rv da, iv mm, iv i, .val (.double (FP.l2d 0)), .second] [(.ref b14), (.ref a1)] st14 ?_
      obtain ⟨T15, X15, e15, st15⟩ := castY X14 hx hZ hown (ww hw 55 rfl) e14 (Ins.self A14) (g := (mkF m 198 #[rv a1, rv sa, rv da, .val (.double (FP.l2d 1)), .second, rv da, iv mm, iv i, .val (.double (FP.l2d 0)), .second] [(.ref b14), (.ref a1)])) rfl rfl (D d6_198)
      refine zst 201 #[rv a1, rv sa, rv da, .val (.double (FP.l2d 1)), .second, rv da, iv mm, iv i, .val (.double (FP.l2d 0)), .second] [(.ref b14), (.ref a1)] st15 ?_
      have ft16 := (cyJ11_0.ext E14)
      have ft17 := (cyJ11_3.ext E14)
      obtain ⟨T18, h18, X18, e18, W18, st18⟩ := putF X15 hx hZ hown (host := "") (Or.inl (ww hw 57 rfl)) Via.refl e15 ft17 ft16 (Or.inr ⟨(ww hw 58 rfl), rfl, hnm⟩) (ww hw 31 rfl) (ty := (.array .int)) (by decide) rfl rfl (g := (mkF m 201 #[rv a1, rv sa, rv da, .val (.double (FP.l2d 1)), .second, rv da, iv mm, iv i, .val (.double (FP.l2d 0)), .second] [(.ref b14), (.ref a1)])) rfl rfl (D d6_201)
      have N18 := Fr.snoc X18 N12 g_a1
      have O18 : Old Z n0 h18 := O14.wr W18 g_a1
      have K18 : Keep h0 h18 [a1] := K14.wr W18 (Or.inl (List.mem_of_getElem? (i := 0) rfl))
      have Fw18 := ft17.same W18
      refine zst 204 #[rv a1, rv sa, rv da, .val (.double (FP.l2d 1)), .second, rv da, iv mm, iv i, .val (.double (FP.l2d 0)), .second] [] st18 ?_
      refine zan 205 X18 hx (D d6_204) rfl rfl ?_
      refine zan 206 X18 hx (D d6_205) rfl rfl ?_
      have ft20 := ((cyJ11_7.ext E14).other W18 (Ne.symm nt_a1_da))
      have ft21 := ((cyJ11_10.ext E14).wr W18)
      obtain ⟨T22, h22, X22, e22, E22, V22, A22, st22⟩ := cloneH X18 hx hZ hown (ww hw 59 rfl) (ww hw 60 rfl) (ww hw 53 rfl) (ww hw 51 rfl) (ww hw 61 rfl) (ww hw 62 rfl) e18 (Arv.arh ft20) ft21 (g := (mkF m 206 #[rv a1, rv sa, rv da, .val (.double (FP.l2d 1)), .second, rv da, iv mm, iv i, .val (.double (FP.l2d 0)), .second] [(.ref da), (.ref a1)])) rfl (by rw [hml]; rfl) rfl (D d6_206) (by decide) (W := 1) (by show 2 * 0 + _ ≤ _; exact Nat.le_of_eq rfl) (by decide) (cap := 4) (i_cap (n := 4) (by omega)) (by decide) (by decide)
      obtain ⟨b22, g22⟩ : ∃ z, z = h18.size := ⟨_, rfl⟩
      rw [← g22] at V22 A22 st22
      have ft23 := (lteq (ltle cyJ11_4 E14.1) W18.size.symm)
      have ne_a1_b22 : a1 ≠ b22 := Nat.ne_of_lt (lteq ft23 g22.symm)
      have ft24 := (lteq (ltle cyJ11_6 E14.1) W18.size.symm)
      have ne_sa_b22 : sa ≠ b22 := Nat.ne_of_lt (lteq ft24 g22.symm)
      have ft25 := (lteq (ltle cyJ11_8 E14.1) W18.size.symm)
      have ne_da_b22 : da ≠ b22 := Nat.ne_of_lt (lteq ft25 g22.symm)
      have ft26 := (lteq lt_b14 W18.size.symm)
      have ne_b14_b22 : b14 ≠ b22 := Nat.ne_of_lt (lteq ft26 g22.symm)
      have g_b22 : n0 ≤ b22 := Nat.le_trans (O18.1 ▸ O18.2.1) (Nat.le_of_eq g22.symm)
      have O22 : Old Z n0 h22 := O18.ext E22
      have sz_b22 : h0.size ≤ b22 := Nat.le_trans K18.1 (Nat.le_of_eq g22.symm)
      have K22 : Keep h0 h22 [a1] := K18.ext E22
      have V_b22 : Arv Z h22 b22 dk .double mm ds (.double (FP.l2d 0)) := V22
      have lt_b22 := A22.lt
      refine zst 209 #[rv a1, rv sa, rv da, .val (.double (FP.l2d 1)), .second, rv da, iv mm, iv i, .val (.double (FP.l2d 0)), .second] [(.ref b22), (.ref a1)] st22 ?_
      obtain ⟨T27, X27, e27, st27⟩ := castY X22 hx hZ hown (ww hw 63 rfl) e22 (Ins.self A22) (g := (mkF m 209 #[rv a1, rv sa, rv da, .val (.double (FP.l2d 1)), .second, rv da, iv mm, iv i, .val (.double (FP.l2d 0)), .second] [(.ref b22), (.ref a1)])) rfl rfl (D d6_209)
      refine zst 212 #[rv a1, rv sa, rv da, .val (.double (FP.l2d 1)), .second, rv da, iv mm, iv i, .val (.double (FP.l2d 0)), .second] [(.ref b22), (.ref a1)] st27 ?_
      have ft28 := ((ft16.wr W18).ext E22)
      have ft29 := (((cyJ11_2.ext E14).other W18 (Or.inr (slot_ne (Or.inr (ww hw 66 rfl)) (Or.inr (ww hw 58 rfl)) (by decide) (t := (.array .double)) (t' := (.array .int)) (by decide) (by decide)))).ext E22)
      obtain ⟨T30, h30, X30, e30, W30, st30⟩ := putF X27 hx hZ hown (host := "") (Or.inl (ww hw 65 rfl)) Via.refl e27 ft29 ft28 (Or.inr ⟨(ww hw 66 rfl), rfl, hnm⟩) (ww hw 31 rfl) (ty := (.array .double)) (by decide) rfl rfl (g := (mkF m 212 #[rv a1, rv sa, rv da, .val (.double (FP.l2d 1)), .second, rv da, iv mm, iv i, .val (.double (FP.l2d 0)), .second] [(.ref b22), (.ref a1)])) rfl rfl (D d6_212)
      have N30 := Fr.snoc X30 N18 g_a1
      have O30 : Old Z n0 h30 := O22.wr W30 g_a1
      have K30 : Keep h0 h30 [a1] := K22.wr W30 (Or.inl (List.mem_of_getElem? (i := 0) rfl))
      have Fw30 := ft29.same W30
      refine zst 215 #[rv a1, rv sa, rv da, .val (.double (FP.l2d 1)), .second, rv da, iv mm, iv i, .val (.double (FP.l2d 0)), .second] [] st30 ?_
      refine zan 216 X30 hx (D d6_215) rfl rfl ?_
      refine Go.st (f' := (mkF m 217 #[rv a1, rv sa, rv da, .val (.double (FP.l2d 1)), .second, rv da, iv mm, iv i, .val (.double (FP.l2d 0)), .second] [(.double (FP.l2d 1)), (.ref a1)])) (fun _ k => XS.dloadN X30.here hx rfl (D d6_216) rfl k) ?_
      have ft31 := (ft28.wr W30)
      have ft32 := ((((cyJ11_1.ext E14).other W18 (Or.inr (slot_ne (Or.inr (ww hw 68 rfl)) (Or.inr (ww hw 58 rfl)) (by decide) (t := .double) (t' := (.array .int)) (by decide) (by decide)))).ext E22).other W30 (Or.inr (slot_ne (Or.inr (ww hw 68 rfl)) (Or.inr (ww hw 66 rfl)) (by decide) (t := .double) (t' := (.array .double)) (by decide) (by decide))))
      obtain ⟨T33, h33, X33, e33, W33, st33⟩ := putF X30 hx hZ hown (host := "") (Or.inl (ww hw 67 rfl)) Via.refl e30 ft32 ft31 (Or.inr ⟨(ww hw 68 rfl), rfl, hnm⟩) (ww hw 31 rfl) (ty := .double) (by decide) rfl rfl (g := (mkF m 217 #[rv a1, rv sa, rv da, .val (.double (FP.l2d 1)), .second, rv da, iv mm, iv i, .val (.double (FP.l2d 0)), .second] [(.double (FP.l2d 1)), (.ref a1)])) rfl rfl (D d6_217)
      have N33 := Fr.snoc X33 N30 g_a1
      have O33 : Old Z n0 h33 := O30.wr W33 g_a1
      have K33 : Keep h0 h33 [a1] := K30.wr W33 (Or.inl (List.mem_of_getElem? (i := 0) rfl))
      have Fw33 := ft32.same W33
      refine zst 220 #[rv a1, rv sa, rv da, .val (.double (FP.l2d 1)), .second, rv da, iv mm, iv i, .val (.double (FP.l2d 0)), .second] [] st33 ?_
      refine Go.ret0 X33 hlk hx hret (D d6_220) e33 ?_ (by decide) (by decide)
      have ft34 := (ft31.wr W33)
      have ft35 := (((Fw18.ext E22).other W30 (Or.inr (slot_ne (Or.inr (ww hw 58 rfl)) (Or.inr (ww hw 66 rfl)) (by decide) (t := (.array .int)) (t' := (.array .double)) (by decide) (by decide)))).other W33 (Or.inr (slot_ne (Or.inr (ww hw 58 rfl)) (Or.inr (ww hw 68 rfl)) (by decide) (t := (.array .int)) (t' := .double) (by decide) (by decide))))
      have ft36 := ((((V_b14.other W18 (Ne.symm ne_a1_b14)).ext E22).other W30 (Ne.symm ne_a1_b14)).other W33 (Ne.symm ne_a1_b14))
      exact ⟨rfl, N33, K33, ft34, b14, sk, sz_b14, ft35, ft36⟩
     | succ fuel ih =>
      intro TJ11 hJ11 LJ11 i XJ11 eJ11 OJ11 NJ11 KJ11 cyJ11_0 cyJ11_1 cyJ11_2 cyJ11_3 cyJ11_4 cyJ11_5 cyJ11_6 cyJ11_7 cyJ11_8 cyJ11_9 cyJ11_10 hi0 hi1
      have hlt : i < mm := i_lt (by omega)
      have hnn : ¬ i < (0 : Int32) := i_ge0 (by omega)
      refine zil 118 XJ11 hx (D d6_116) rfl ?_
      refine zil 120 XJ11 hx (D d6_118) rfl ?_
      refine zcn 123 XJ11 hx (D d6_120) (tlt hlt).2.1 ?_
      refine zal 125 XJ11 hx (D d6_123) rfl rfl ?_
      refine zil 127 XJ11 hx (D d6_125) rfl ?_
      obtain ⟨cl37, Ar37, -, S37, -, H37, -⟩ := id cyJ11_7
      have hin37 : ¬ (i < 0 ∨ cl37.slots.size ≤ (i).toNatClampNeg) := inb_of S37 ⟨hnn, hlt⟩
      have hat37 : cl37.slots[(i).toNatClampNeg]? = some (.double (FP.l2d 0)) := H37.at hin37 (own_g a0s lm hnn hlt)
      refine Go.st (f' := (mkF m 128 #[rv a1, rv sa, rv da, .val (.double (FP.l2d 1)), .second, rv da, iv mm, iv i, .val (.double (FP.l2d 0)), .second] [(.double (FP.l2d 0))])) (fun _ k => XJ11.daload hx (j := i) (v := (.double (FP.l2d 0))) (by rw [eJ11]; exact Ar37.1) (State.isArrayOf_alike hZ.alike Ar37.2.1) Ar37.2.2 hin37 hat37 (g := (mkF m 127 #[rv a1, rv sa, rv da, .val (.double (FP.l2d 1)), .second, rv da, iv mm, iv i, .val (.double (FP.l2d 0)), .second] [(.int i), (.ref da)])) rfl rfl (D d6_127) _ k) ?_
      refine Go.st (f' := (mkF m 130 #[rv a1, rv sa, rv da, .val (.double (FP.l2d 1)), .second, rv da, iv mm, iv i, .val (.double (FP.l2d 0)), .second] [])) (fun _ k => XS.dstore XJ11.here hx rfl (D d6_128) rfl (l' := #[rv a1, rv sa, rv da, .val (.double (FP.l2d 1)), .second, rv da, iv mm, iv i, .val (.double (FP.l2d 0)), .second]) rfl k) ?_
      refine Go.st (f' := (mkF m 132 #[rv a1, rv sa, rv da, .val (.double (FP.l2d 1)), .second, rv da, iv mm, iv i, .val (.double (FP.l2d 0)), .second] [(.double (FP.l2d 0))])) (fun _ k => XS.dload XJ11.here hx rfl (D d6_130) rfl k) ?_
      refine Go.st (f' := (mkF m 133 #[rv a1, rv sa, rv da, .val (.double (FP.l2d 1)), .second, rv da, iv mm, iv i, .val (.double (FP.l2d 0)), .second] [(.double (FP.l2d 0)), (.double (FP.l2d 0))])) (fun _ k => XS.dconst0 XJ11.here hx rfl (D d6_132) (by decide +kernel) k) ?_
      refine Go.st (f' := (mkF m 134 #[rv a1, rv sa, rv da, .val (.double (FP.l2d 1)), .second, rv da, iv mm, iv i, .val (.double (FP.l2d 0)), .second] [(.int (lcmpW 0 0))])) (fun _ k => XS.dcmpS XJ11.here hx rfl (D d6_133) rfl (dcmpV_w (b53 (by decide) (by decide)) (b53 (by decide) (by decide)) _) k) ?_
      refine zfn 137 XJ11 hx (D d6_134) (by decide) ?_
      refine Go.st (f' := (mkF m 139 #[rv a1, rv sa, rv da, .val (.double (FP.l2d 1)), .second, rv da, iv mm, iv i, .val (.double (FP.l2d 0)), .second] [(.double (FP.l2d 0))])) (fun _ k => XS.dload XJ11.here hx rfl (D d6_137) rfl k) ?_
      refine gS 142 0 0 0 XJ11 NJ11 hx hZ (y := mq0) hown hml (ww hw 39 rfl) (ww hw 40 rfl) (ww hw 41 rfl) (isInf0 l Z a0 hw [] hJ11 n0 OJ11) (ww hw 42 rfl) eJ11 [(.double (FP.l2d 0))] [] (lenOf pd__D_Z rfl) (D d6_139) ?_
      rintro T38 L38 M38 _ X38 uu38 ⟨rfl, Nq38, kq38⟩
      have N38 := uu38 Nq38
      refine zsk [(.int 0)] ?_
      refine zfy 160 X38 hx (D d6_142) (by decide) ?_
      refine zii 163 #[rv a1, rv sa, rv da, .val (.double (FP.l2d 1)), .second, rv da, iv mm, .val (.int (i + (1 : Int32))), .val (.double (FP.l2d 0)), .second] X38 hx (D d6_160) rfl ?_
      refine zgo 116 X38 hx (D d6_163) ?_
      have hinc := i_inc (i := i) (n := mm) (by omega) (by omega)
      exact ih _ hJ11 _ (i + (1 : Int32)) X38 kq38 OJ11 N38 KJ11 cyJ11_0 cyJ11_1 cyJ11_2 cyJ11_3 cyJ11_4 cyJ11_5 cyJ11_6 cyJ11_7 cyJ11_8 cyJ11_9 cyJ11_10 (by omega) (by omega)
    exact LB (mm.toInt - 1).toNat _ hJ7 _ (1 : Int32) X10 kq10 OJ7 N10 KJ7 cyJ7_0 cyJ7_1 cyJ7_2 cyJ7_3 cyJ7_4 cyJ7_5 cyJ7_6 cyJ7_7 cyJ7_8 cyJ7_9 cyJ7_10 (by omega) (by omega)
   | succ fuel ih =>
    intro TJ7 hJ7 LJ7 i XJ7 eJ7 OJ7 NJ7 KJ7 cyJ7_0 cyJ7_1 cyJ7_2 cyJ7_3 cyJ7_4 cyJ7_5 cyJ7_6 cyJ7_7 cyJ7_8 cyJ7_9 cyJ7_10 hi0 hi1
    have hlt : i < n := i_lt (by omega)
    have hnn : ¬ i < (0 : Int32) := i_ge0 (by omega)
    refine zil 66 XJ7 hx (D d6_64) rfl ?_
    refine zil 68 XJ7 hx (D d6_66) rfl ?_
    refine zcn 71 XJ7 hx (D d6_68) (tlt hlt).2.1 ?_
    refine zal 73 XJ7 hx (D d6_71) rfl rfl ?_
    refine zil 75 XJ7 hx (D d6_73) rfl ?_
    obtain ⟨cl39, Ar39, -, S39, -, H39, -⟩ := id cyJ7_5
    have hin39 : ¬ (i < 0 ∨ cl39.slots.size ≤ (i).toNatClampNeg) := inb_of S39 ⟨hnn, hlt⟩
    have hat39 : cl39.slots[(i).toNatClampNeg]? = some (.int (1 : Int32)) := H39.at hin39 (own_g a1s ln hnn hlt)
    refine Go.st (f' := (mkF m 76 #[rv a1, rv sa, rv da, .val (.double (FP.l2d 1)), .second, rv sa, iv n, iv i, iv 1, .unset] [(.int 1)])) (fun _ k => XJ7.iaload hx (j := i) (v := (.int (1 : Int32))) (by rw [eJ7]; exact Ar39.1) (State.isArrayOf_alike hZ.alike Ar39.2.1) Ar39.2.2 hin39 hat39 (g := (mkF m 75 #[rv a1, rv sa, rv da, .val (.double (FP.l2d 1)), .second, rv sa, iv n, iv i, iv 1, .unset] [(.int i), (.ref sa)])) rfl rfl (D d6_75) _ k) ?_
    refine zsl 78 #[rv a1, rv sa, rv da, .val (.double (FP.l2d 1)), .second, rv sa, iv n, iv i, iv 1, .unset] XJ7 hx (D d6_76) ?_
    refine zil 80 XJ7 hx (D d6_78) rfl ?_
    refine zic 81 1 XJ7 hx (D d6_80) ?_
    refine zcy 99 XJ7 hx (D d6_81) (by decide) ?_
    refine zii 102 #[rv a1, rv sa, rv da, .val (.double (FP.l2d 1)), .second, rv sa, iv n, .val (.int (i + (1 : Int32))), iv 1, .unset] XJ7 hx (D d6_99) rfl ?_
    refine zgo 64 XJ7 hx (D d6_102) ?_
    have hinc := i_inc (i := i) (n := n) (by omega) (by omega)
    exact ih _ hJ7 _ (i + (1 : Int32)) XJ7 eJ7 OJ7 NJ7 KJ7 cyJ7_0 cyJ7_1 cyJ7_2 cyJ7_3 cyJ7_4 cyJ7_5 cyJ7_6 cyJ7_7 cyJ7_8 cyJ7_9 cyJ7_10 (by omega) (by omega)
  exact LA (n.toInt - 1).toNat _ h0 _ (1 : Int32) X1 e1 O0 N0 K0 E_a1 F_a1_frequency F_a1_segmentSeconds F_a1_stops lt_a1 V_sa lt_sa V_da lt_da E_sa E_da (by omega) (by omega)
theorem own_n5 {n : Int32} (h2 : 2 ≤ n.toInt) (h5 : n.toInt ≤ 5) (c2 : ¬ n = (2 : Int32)) (c3 : ¬ n = (3 : Int32)) (c4 : ¬ n = (4 : Int32)) : n = (5 : Int32) := by
  rw [← Int32.toInt_inj] at c2 c3 c4 ⊢
  have e : (2 : Int32).toInt = 2 ∧ (3 : Int32).toInt = 3 ∧ (4 : Int32).toInt = 4 ∧ (5 : Int32).toInt = 5 := by decide
  omega
theorem pn_com_example_kinetic_city_kineticcity_engine_TransitNetworkArrivingSegmentPinLaw : plainName "com/example/kinetic_city/kineticcity/engine/TransitNetworkArrivingSegmentPinLaw" = true := by first | (simp [plainName, overriddenIn]; done) | decide +kernel
theorem d5_0 : decode method_2_code 0 = .ok (.iload_n 0, 1) := by decide +kernel
theorem d5_1 : decode method_2_code 1 = .ok (.iconst 2, 1) := by decide +kernel
theorem d5_2 : decode method_2_code 2 = .ok (.if_icmp .ne 30, 3) := by decide +kernel
theorem d5_5 : decode method_2_code 5 = .ok (.new 7, 3) := by decide +kernel
theorem d5_8 : decode method_2_code 8 = .ok (.dup, 1) := by decide +kernel
theorem d5_9 : decode method_2_code 9 = .ok (.iconst 2, 1) := by decide +kernel
theorem d5_10 : decode method_2_code 10 = .ok (.newarray .int, 2) := by decide +kernel
theorem d5_12 : decode method_2_code 12 = .ok (.dup, 1) := by decide +kernel
theorem d5_13 : decode method_2_code 13 = .ok (.iconst 0, 1) := by decide +kernel
theorem d5_14 : decode method_2_code 14 = .ok (.iconst 1, 1) := by decide +kernel
theorem d5_15 : decode method_2_code 15 = .ok (.iastore, 1) := by decide +kernel
theorem d5_16 : decode method_2_code 16 = .ok (.dup, 1) := by decide +kernel
theorem d5_17 : decode method_2_code 17 = .ok (.iconst 1, 1) := by decide +kernel
theorem d5_18 : decode method_2_code 18 = .ok (.iconst 1, 1) := by decide +kernel
theorem d5_19 : decode method_2_code 19 = .ok (.iastore, 1) := by decide +kernel
theorem d5_20 : decode method_2_code 20 = .ok (.iconst 1, 1) := by decide +kernel
theorem d5_21 : decode method_2_code 21 = .ok (.newarray .double, 2) := by decide +kernel
theorem d5_23 : decode method_2_code 23 = .ok (.dup, 1) := by decide +kernel
theorem d5_24 : decode method_2_code 24 = .ok (.iconst 0, 1) := by decide +kernel
theorem d5_25 : decode method_2_code 25 = .ok (.dconst 0, 1) := by decide +kernel
theorem d5_26 : decode method_2_code 26 = .ok (.dastore, 1) := by decide +kernel
theorem d5_27 : decode method_2_code 27 = .ok (.dconst 1, 1) := by decide +kernel
theorem d5_28 : decode method_2_code 28 = .ok (.invokespecial 9, 3) := by decide +kernel
theorem pd___I_DD_V : parseMethodDescriptor "([I[DD)V" = some ⟨[(.array .int), (.array .double), .double], none⟩ := by decide +kernel
theorem d5_31 : decode method_2_code 31 = .ok (.areturn, 1) := by decide +kernel
theorem d5_32 : decode method_2_code 32 = .ok (.iload_n 0, 1) := by decide +kernel
theorem d5_33 : decode method_2_code 33 = .ok (.iconst 3, 1) := by decide +kernel
theorem d5_34 : decode method_2_code 34 = .ok (.if_icmp .ne 38, 3) := by decide +kernel
theorem d5_37 : decode method_2_code 37 = .ok (.new 7, 3) := by decide +kernel
theorem d5_40 : decode method_2_code 40 = .ok (.dup, 1) := by decide +kernel
theorem d5_41 : decode method_2_code 41 = .ok (.iconst 3, 1) := by decide +kernel
theorem d5_42 : decode method_2_code 42 = .ok (.newarray .int, 2) := by decide +kernel
theorem d5_44 : decode method_2_code 44 = .ok (.dup, 1) := by decide +kernel
theorem d5_45 : decode method_2_code 45 = .ok (.iconst 0, 1) := by decide +kernel
theorem d5_46 : decode method_2_code 46 = .ok (.iconst 1, 1) := by decide +kernel
theorem d5_47 : decode method_2_code 47 = .ok (.iastore, 1) := by decide +kernel
theorem d5_48 : decode method_2_code 48 = .ok (.dup, 1) := by decide +kernel
theorem d5_49 : decode method_2_code 49 = .ok (.iconst 1, 1) := by decide +kernel
theorem d5_50 : decode method_2_code 50 = .ok (.iconst 1, 1) := by decide +kernel
theorem d5_51 : decode method_2_code 51 = .ok (.iastore, 1) := by decide +kernel
theorem d5_52 : decode method_2_code 52 = .ok (.dup, 1) := by decide +kernel
theorem d5_53 : decode method_2_code 53 = .ok (.iconst 2, 1) := by decide +kernel
theorem d5_54 : decode method_2_code 54 = .ok (.iconst 1, 1) := by decide +kernel
theorem d5_55 : decode method_2_code 55 = .ok (.iastore, 1) := by decide +kernel
theorem d5_56 : decode method_2_code 56 = .ok (.iconst 2, 1) := by decide +kernel
theorem d5_57 : decode method_2_code 57 = .ok (.newarray .double, 2) := by decide +kernel
theorem d5_59 : decode method_2_code 59 = .ok (.dup, 1) := by decide +kernel
theorem d5_60 : decode method_2_code 60 = .ok (.iconst 0, 1) := by decide +kernel
theorem d5_61 : decode method_2_code 61 = .ok (.dconst 0, 1) := by decide +kernel
theorem d5_62 : decode method_2_code 62 = .ok (.dastore, 1) := by decide +kernel
theorem d5_63 : decode method_2_code 63 = .ok (.dup, 1) := by decide +kernel
theorem d5_64 : decode method_2_code 64 = .ok (.iconst 1, 1) := by decide +kernel
theorem d5_65 : decode method_2_code 65 = .ok (.dconst 0, 1) := by decide +kernel
theorem d5_66 : decode method_2_code 66 = .ok (.dastore, 1) := by decide +kernel
theorem d5_67 : decode method_2_code 67 = .ok (.dconst 1, 1) := by decide +kernel
theorem d5_68 : decode method_2_code 68 = .ok (.invokespecial 9, 3) := by decide +kernel
theorem d5_71 : decode method_2_code 71 = .ok (.areturn, 1) := by decide +kernel
theorem d5_72 : decode method_2_code 72 = .ok (.iload_n 0, 1) := by decide +kernel
theorem d5_73 : decode method_2_code 73 = .ok (.iconst 4, 1) := by decide +kernel
theorem d5_74 : decode method_2_code 74 = .ok (.if_icmp .ne 46, 3) := by decide +kernel
theorem d5_77 : decode method_2_code 77 = .ok (.new 7, 3) := by decide +kernel
theorem d5_80 : decode method_2_code 80 = .ok (.dup, 1) := by decide +kernel
theorem d5_81 : decode method_2_code 81 = .ok (.iconst 4, 1) := by decide +kernel
theorem d5_82 : decode method_2_code 82 = .ok (.newarray .int, 2) := by decide +kernel
theorem d5_84 : decode method_2_code 84 = .ok (.dup, 1) := by decide +kernel
theorem d5_85 : decode method_2_code 85 = .ok (.iconst 0, 1) := by decide +kernel
theorem d5_86 : decode method_2_code 86 = .ok (.iconst 1, 1) := by decide +kernel
theorem d5_87 : decode method_2_code 87 = .ok (.iastore, 1) := by decide +kernel
theorem d5_88 : decode method_2_code 88 = .ok (.dup, 1) := by decide +kernel
theorem d5_89 : decode method_2_code 89 = .ok (.iconst 1, 1) := by decide +kernel
theorem d5_90 : decode method_2_code 90 = .ok (.iconst 1, 1) := by decide +kernel
theorem d5_91 : decode method_2_code 91 = .ok (.iastore, 1) := by decide +kernel
theorem d5_92 : decode method_2_code 92 = .ok (.dup, 1) := by decide +kernel
theorem d5_93 : decode method_2_code 93 = .ok (.iconst 2, 1) := by decide +kernel
theorem d5_94 : decode method_2_code 94 = .ok (.iconst 1, 1) := by decide +kernel
theorem d5_95 : decode method_2_code 95 = .ok (.iastore, 1) := by decide +kernel
theorem d5_96 : decode method_2_code 96 = .ok (.dup, 1) := by decide +kernel
theorem d5_97 : decode method_2_code 97 = .ok (.iconst 3, 1) := by decide +kernel
theorem d5_98 : decode method_2_code 98 = .ok (.iconst 1, 1) := by decide +kernel
theorem d5_99 : decode method_2_code 99 = .ok (.iastore, 1) := by decide +kernel
theorem d5_100 : decode method_2_code 100 = .ok (.iconst 3, 1) := by decide +kernel
theorem d5_101 : decode method_2_code 101 = .ok (.newarray .double, 2) := by decide +kernel
theorem d5_103 : decode method_2_code 103 = .ok (.dup, 1) := by decide +kernel
theorem d5_104 : decode method_2_code 104 = .ok (.iconst 0, 1) := by decide +kernel
theorem d5_105 : decode method_2_code 105 = .ok (.dconst 0, 1) := by decide +kernel
theorem d5_106 : decode method_2_code 106 = .ok (.dastore, 1) := by decide +kernel
theorem d5_107 : decode method_2_code 107 = .ok (.dup, 1) := by decide +kernel
theorem d5_108 : decode method_2_code 108 = .ok (.iconst 1, 1) := by decide +kernel
theorem d5_109 : decode method_2_code 109 = .ok (.dconst 0, 1) := by decide +kernel
theorem d5_110 : decode method_2_code 110 = .ok (.dastore, 1) := by decide +kernel
theorem d5_111 : decode method_2_code 111 = .ok (.dup, 1) := by decide +kernel
theorem d5_112 : decode method_2_code 112 = .ok (.iconst 2, 1) := by decide +kernel
theorem d5_113 : decode method_2_code 113 = .ok (.dconst 0, 1) := by decide +kernel
theorem d5_114 : decode method_2_code 114 = .ok (.dastore, 1) := by decide +kernel
theorem d5_115 : decode method_2_code 115 = .ok (.dconst 1, 1) := by decide +kernel
theorem d5_116 : decode method_2_code 116 = .ok (.invokespecial 9, 3) := by decide +kernel
theorem d5_119 : decode method_2_code 119 = .ok (.areturn, 1) := by decide +kernel
theorem d5_120 : decode method_2_code 120 = .ok (.new 7, 3) := by decide +kernel
theorem d5_123 : decode method_2_code 123 = .ok (.dup, 1) := by decide +kernel
theorem d5_124 : decode method_2_code 124 = .ok (.iconst 5, 1) := by decide +kernel
theorem d5_125 : decode method_2_code 125 = .ok (.newarray .int, 2) := by decide +kernel
theorem d5_127 : decode method_2_code 127 = .ok (.dup, 1) := by decide +kernel
theorem d5_128 : decode method_2_code 128 = .ok (.iconst 0, 1) := by decide +kernel
theorem d5_129 : decode method_2_code 129 = .ok (.iconst 1, 1) := by decide +kernel
theorem d5_130 : decode method_2_code 130 = .ok (.iastore, 1) := by decide +kernel
theorem d5_131 : decode method_2_code 131 = .ok (.dup, 1) := by decide +kernel
theorem d5_132 : decode method_2_code 132 = .ok (.iconst 1, 1) := by decide +kernel
theorem d5_133 : decode method_2_code 133 = .ok (.iconst 1, 1) := by decide +kernel
theorem d5_134 : decode method_2_code 134 = .ok (.iastore, 1) := by decide +kernel
theorem d5_135 : decode method_2_code 135 = .ok (.dup, 1) := by decide +kernel
theorem d5_136 : decode method_2_code 136 = .ok (.iconst 2, 1) := by decide +kernel
theorem d5_137 : decode method_2_code 137 = .ok (.iconst 1, 1) := by decide +kernel
theorem d5_138 : decode method_2_code 138 = .ok (.iastore, 1) := by decide +kernel
theorem d5_139 : decode method_2_code 139 = .ok (.dup, 1) := by decide +kernel
theorem d5_140 : decode method_2_code 140 = .ok (.iconst 3, 1) := by decide +kernel
theorem d5_141 : decode method_2_code 141 = .ok (.iconst 1, 1) := by decide +kernel
theorem d5_142 : decode method_2_code 142 = .ok (.iastore, 1) := by decide +kernel
theorem d5_143 : decode method_2_code 143 = .ok (.dup, 1) := by decide +kernel
theorem d5_144 : decode method_2_code 144 = .ok (.iconst 4, 1) := by decide +kernel
theorem d5_145 : decode method_2_code 145 = .ok (.iconst 1, 1) := by decide +kernel
theorem d5_146 : decode method_2_code 146 = .ok (.iastore, 1) := by decide +kernel
theorem d5_147 : decode method_2_code 147 = .ok (.iconst 4, 1) := by decide +kernel
theorem d5_148 : decode method_2_code 148 = .ok (.newarray .double, 2) := by decide +kernel
theorem d5_150 : decode method_2_code 150 = .ok (.dup, 1) := by decide +kernel
theorem d5_151 : decode method_2_code 151 = .ok (.iconst 0, 1) := by decide +kernel
theorem d5_152 : decode method_2_code 152 = .ok (.dconst 0, 1) := by decide +kernel
theorem d5_153 : decode method_2_code 153 = .ok (.dastore, 1) := by decide +kernel
theorem d5_154 : decode method_2_code 154 = .ok (.dup, 1) := by decide +kernel
theorem d5_155 : decode method_2_code 155 = .ok (.iconst 1, 1) := by decide +kernel
theorem d5_156 : decode method_2_code 156 = .ok (.dconst 0, 1) := by decide +kernel
theorem d5_157 : decode method_2_code 157 = .ok (.dastore, 1) := by decide +kernel
theorem d5_158 : decode method_2_code 158 = .ok (.dup, 1) := by decide +kernel
theorem d5_159 : decode method_2_code 159 = .ok (.iconst 2, 1) := by decide +kernel
theorem d5_160 : decode method_2_code 160 = .ok (.dconst 0, 1) := by decide +kernel
theorem d5_161 : decode method_2_code 161 = .ok (.dastore, 1) := by decide +kernel
theorem d5_162 : decode method_2_code 162 = .ok (.dup, 1) := by decide +kernel
theorem d5_163 : decode method_2_code 163 = .ok (.iconst 3, 1) := by decide +kernel
theorem d5_164 : decode method_2_code 164 = .ok (.dconst 0, 1) := by decide +kernel
theorem d5_165 : decode method_2_code 165 = .ok (.dastore, 1) := by decide +kernel
theorem d5_166 : decode method_2_code 166 = .ok (.dconst 1, 1) := by decide +kernel
theorem d5_167 : decode method_2_code 167 = .ok (.invokespecial 9, 3) := by decide +kernel
theorem d5_170 : decode method_2_code 170 = .ok (.areturn, 1) := by decide +kernel
set_option maxRecDepth 65536 in
set_option maxHeartbeats 40000000 in
theorem rmML (l : Launch) (Z : State) (a0 : Array Value) (hw : ∀ d ∈ tables_1, d.before a0 Z = true) (ws : List Jvm.Cond) (n : Int32) (h0 : Heap) (n0 : Nat) (O0 : Old Z n0 h0) (h2 : 2 ≤ n.toInt) (h5 : n.toInt ≤ 5) :
    Con l Z mq3 method_2_code 1 (some (.object "com/example/kinetic_city/kineticcity/engine/TransitLine")) ws ({ frames := 3, cells := 5, slots := 21, locals := 48 } : Room) #[(.int n)] h0 (fun v h L => ∃ (b st : Addr) (ks : ClassId) (es : List Value), v = some (.ref b) ∧ Fr n0 L ∧ h0.size ≤ b ∧ h0.size ≤ st ∧ Keep h0 h [] ∧ Exa Z h b "com/example/kinetic_city/kineticcity/engine/TransitLine" ∧ Fld Z h b "com/example/kinetic_city/kineticcity/engine/TransitLine" "stops" "[I" (.ref st) ∧ Arv Z h st ks .int n es (.int 0) ∧ Ln n es ∧ AllE (.int 1) es) := by
  refine own_body (plainFor_of_name pn_com_example_kinetic_city_kineticcity_engine_TransitNetworkArrivingSegmentPinLaw) ?_
  intro p e s m below meth c s₁ hx hby hml hZ hown hnm hlk hret X0 e0
  have N0 := Fr.nil n0
  have D := @hb _ _ hby
  have K0 : Keep h0 h0 [] := Keep.refl _ _
  refine Go.st (T' := s₁) (f' := (mkF m 0 #[iv n] [])) (fun _ k => castTop (by first | (simp [entryFrame, mkF, argsToLocals, Value.category]; done) | rfl) k) ?_
  refine zin 1 X0 hx (D d5_0) rfl ?_
  refine zic 2 2 X0 hx (D d5_1) ?_
  by_cases cd1 : n = (2 : Int32)
  · refine zcn 5 X0 hx (D d5_2) (teq cd1).2 ?_
    obtain ⟨T2, h2, X2, e2, E2, A2, D2, -, st2⟩ := newO X0 hx hZ hown (ww hw 30 rfl) (ww hw 31 rfl) (ww hw 32 rfl) e0 (g := (mkF m 5 #[iv n] [])) rfl (D d5_5) (by decide) (by decide)
    obtain ⟨b2, g2⟩ : ∃ z, z = h0.size := ⟨_, rfl⟩
    rw [← g2] at A2 D2 st2
    have g_b2 : n0 ≤ b2 := Nat.le_trans (O0.1 ▸ O0.2.1) (Nat.le_of_eq g2.symm)
    have O2 : Old Z n0 h2 := O0.ext E2
    have sz_b2 : h0.size ≤ b2 := Nat.le_trans K0.1 (Nat.le_of_eq g2.symm)
    have K2 : Keep h0 h2 [] := K0.ext E2
    have lt_b2 := A2.lt
    have F_stops_b2 : Fld Z h2 b2 "com/example/kinetic_city/kineticcity/engine/TransitLine" "stops" "[I" .null := D2 (Or.inr (ww hw 58 rfl)) (ty := (.array .int)) (by decide)
    have F_segmentSeconds_b2 : Fld Z h2 b2 "com/example/kinetic_city/kineticcity/engine/TransitLine" "segmentSeconds" "[D" .null := D2 (Or.inr (ww hw 66 rfl)) (ty := (.array .double)) (by decide)
    have F_frequency_b2 : Fld Z h2 b2 "com/example/kinetic_city/kineticcity/engine/TransitLine" "frequency" "D" (.double 0) := D2 (Or.inr (ww hw 68 rfl)) (ty := .double) (by decide)
    refine zst 8 #[iv n] [(.ref b2)] st2 ?_
    refine Go.st (f' := (mkF m 9 #[iv n] [(.ref b2), (.ref b2)])) (fun _ k => XS.dup X2.here hx rfl (D d5_8) rfl rfl k) ?_
    refine zic 10 2 X2 hx (D d5_9) ?_
    obtain ⟨T3, h3, kc3, X3, e3, E3, A3, Ex3, st3⟩ := newPE X2 hx hZ (ww hw 33 rfl) e2 (g := (mkF m 10 #[iv n] [(.int 2), (.ref b2), (.ref b2)])) rfl (D d5_10) rfl (by decide) (cap := 2) (by decide) (by decide) (by decide) (by decide) rfl
    obtain ⟨b3, g3⟩ : ∃ z, z = h2.size := ⟨_, rfl⟩
    rw [← g3] at A3 Ex3 st3
    have ne_b2_b3 : b2 ≠ b3 := Nat.ne_of_lt (lteq lt_b2 g3.symm)
    have g_b3 : n0 ≤ b3 := Nat.le_trans (O2.1 ▸ O2.2.1) (Nat.le_of_eq g3.symm)
    have O3 : Old Z n0 h3 := O2.ext E3
    have sz_b3 : h0.size ≤ b3 := Nat.le_trans K2.1 (Nat.le_of_eq g3.symm)
    have K3 : Keep h0 h3 [] := K2.ext E3
    have V_b3 : Arv Z h3 b3 kc3 .int (2 : Int32) [(.int (0 : Int32)), (.int (0 : Int32))] (.int (0 : Int32)) := (Arv.new A3 (by decide)).pad (pad_rep [] (.int (0 : Int32)) 2)
    have lt_b3 := V_b3.lt
    refine zst 12 #[iv n] [(.ref b3), (.ref b2), (.ref b2)] st3 ?_
    refine Go.st (f' := (mkF m 13 #[iv n] [(.ref b3), (.ref b3), (.ref b2), (.ref b2)])) (fun _ k => XS.dup X3.here hx rfl (D d5_12) rfl rfl k) ?_
    refine zic 14 0 X3 hx (D d5_13) ?_
    refine zic 15 1 X3 hx (D d5_14) ?_
    obtain ⟨cl4, Ar4, q4, S4, Nx4, H4, G4⟩ := id V_b3
    have hin4 : ¬ ((0 : Int32) < 0 ∨ cl4.slots.size ≤ ((0 : Int32)).toNatClampNeg) := inb_of S4 ⟨by decide, by decide⟩
    obtain ⟨T5, h5, X5, e5, W5, st5⟩ := stI X3 hx hZ e3 Ar4 (j := (0 : Int32)) hin4 (g := (mkF m 15 #[iv n] [(.int 1), (.int 0), (.ref b3), (.ref b3), (.ref b2), (.ref b2)])) rfl rfl (D d5_15)
    have V_b3_5 : Arv Z h5 b3 kc3 .int (2 : Int32) [(.int (1 : Int32)), (.int (0 : Int32))] (.int (0 : Int32)) := Arv.set Ar4 q4 S4 Nx4 H4 G4 rfl W5 0 rfl (Nat.le_of_ble_eq_true rfl)
    have N5 := Fr.snoc X5 N0 g_b3
    have O5 : Old Z n0 h5 := O3.wr W5 g_b3
    have K5 : Keep h0 h5 [] := K3.wr W5 (Or.inr sz_b3)
    refine zst 16 #[iv n] [(.ref b3), (.ref b2), (.ref b2)] st5 ?_
    refine Go.st (f' := (mkF m 17 #[iv n] [(.ref b3), (.ref b3), (.ref b2), (.ref b2)])) (fun _ k => XS.dup X5.here hx rfl (D d5_16) rfl rfl k) ?_
    refine zic 18 1 X5 hx (D d5_17) ?_
    refine zic 19 1 X5 hx (D d5_18) ?_
    obtain ⟨cl6, Ar6, q6, S6, Nx6, H6, G6⟩ := id V_b3_5
    have hin6 : ¬ ((1 : Int32) < 0 ∨ cl6.slots.size ≤ ((1 : Int32)).toNatClampNeg) := inb_of S6 ⟨by decide, by decide⟩
    obtain ⟨T7, h7, X7, e7, W7, st7⟩ := stI X5 hx hZ e5 Ar6 (j := (1 : Int32)) hin6 (g := (mkF m 19 #[iv n] [(.int 1), (.int 1), (.ref b3), (.ref b3), (.ref b2), (.ref b2)])) rfl rfl (D d5_19)
    have V_b3_7 : Arv Z h7 b3 kc3 .int (2 : Int32) [(.int (1 : Int32)), (.int (1 : Int32))] (.int (0 : Int32)) := Arv.set Ar6 q6 S6 Nx6 H6 G6 rfl W7 1 rfl (Nat.le_of_ble_eq_true rfl)
    have N7 := Fr.snoc X7 N5 g_b3
    have O7 : Old Z n0 h7 := O5.wr W7 g_b3
    have K7 : Keep h0 h7 [] := K5.wr W7 (Or.inr sz_b3)
    refine zst 20 #[iv n] [(.ref b3), (.ref b2), (.ref b2)] st7 ?_
    refine zic 21 1 X7 hx (D d5_20) ?_
    obtain ⟨T8, h8, kc8, X8, e8, E8, A8, Ex8, st8⟩ := newPE X7 hx hZ (ww hw 34 rfl) e7 (g := (mkF m 21 #[iv n] [(.int 1), (.ref b3), (.ref b2), (.ref b2)])) rfl (D d5_21) rfl (by decide) (cap := 1) (by decide) (by decide) (by decide) (by decide) rfl
    obtain ⟨b8, g8⟩ : ∃ z, z = h7.size := ⟨_, rfl⟩
    rw [← g8] at A8 Ex8 st8
    have ft9 := (lteq (lteq (ltle lt_b2 E3.1) W5.size.symm) W7.size.symm)
    have ne_b2_b8 : b2 ≠ b8 := Nat.ne_of_lt (lteq ft9 g8.symm)
    have ft10 := (lteq (lteq lt_b3 W5.size.symm) W7.size.symm)
    have ne_b3_b8 : b3 ≠ b8 := Nat.ne_of_lt (lteq ft10 g8.symm)
    have g_b8 : n0 ≤ b8 := Nat.le_trans (O7.1 ▸ O7.2.1) (Nat.le_of_eq g8.symm)
    have O8 : Old Z n0 h8 := O7.ext E8
    have sz_b8 : h0.size ≤ b8 := Nat.le_trans K7.1 (Nat.le_of_eq g8.symm)
    have K8 : Keep h0 h8 [] := K7.ext E8
    have V_b8 : Arv Z h8 b8 kc8 .double (1 : Int32) [(.double (FP.l2d 0))] (.double (FP.l2d 0)) := (Arv.newD A8 (by decide)).pad (pad_rep [] (.double (FP.l2d 0)) 1)
    have lt_b8 := V_b8.lt
    refine zst 23 #[iv n] [(.ref b8), (.ref b3), (.ref b2), (.ref b2)] st8 ?_
    refine Go.st (f' := (mkF m 24 #[iv n] [(.ref b8), (.ref b8), (.ref b3), (.ref b2), (.ref b2)])) (fun _ k => XS.dup X8.here hx rfl (D d5_23) rfl rfl k) ?_
    refine zic 25 0 X8 hx (D d5_24) ?_
    refine Go.st (f' := (mkF m 26 #[iv n] [(.double (FP.l2d 0)), (.int 0), (.ref b8), (.ref b8), (.ref b3), (.ref b2), (.ref b2)])) (fun _ k => XS.dconst0 X8.here hx rfl (D d5_25) (by decide +kernel) k) ?_
    obtain ⟨cl11, Ar11, q11, S11, Nx11, H11, G11⟩ := id V_b8
    have hin11 : ¬ ((0 : Int32) < 0 ∨ cl11.slots.size ≤ ((0 : Int32)).toNatClampNeg) := inb_of S11 ⟨by decide, by decide⟩
    obtain ⟨T12, h12, X12, e12, W12, st12⟩ := stD X8 hx hZ e8 Ar11 (j := (0 : Int32)) hin11 (g := (mkF m 26 #[iv n] [(.double (FP.l2d 0)), (.int 0), (.ref b8), (.ref b8), (.ref b3), (.ref b2), (.ref b2)])) rfl rfl (D d5_26)
    have V_b8_12 : Arv Z h12 b8 kc8 .double (1 : Int32) [(.double (FP.l2d 0))] (.double (FP.l2d 0)) := Arv.set Ar11 q11 S11 Nx11 H11 G11 rfl W12 0 rfl (Nat.le_of_ble_eq_true rfl)
    have N12 := Fr.snoc X12 N7 g_b8
    have O12 : Old Z n0 h12 := O8.wr W12 g_b8
    have K12 : Keep h0 h12 [] := K8.wr W12 (Or.inr sz_b8)
    refine zst 27 #[iv n] [(.ref b8), (.ref b3), (.ref b2), (.ref b2)] st12 ?_
    refine Go.st (f' := (mkF m 28 #[iv n] [(.double (FP.l2d 1)), (.ref b8), (.ref b3), (.ref b2), (.ref b2)])) (fun _ k => XS.dconst1 X12.here hx rfl (D d5_27) (by decide +kernel) k) ?_
    have ft14 := (((((F_frequency_b2.ext E3).other W5 (Or.inl ne_b2_b3)).other W7 (Or.inl ne_b2_b3)).ext E8).other W12 (Or.inl ne_b2_b8))
    have ft15 := (((((A2.ext E3).wr W5).wr W7).ext E8).wr W12)
    have ft16 := (((((F_segmentSeconds_b2.ext E3).other W5 (Or.inl ne_b2_b3)).other W7 (Or.inl ne_b2_b3)).ext E8).other W12 (Or.inl ne_b2_b8))
    have ft17 := (((((F_stops_b2.ext E3).other W5 (Or.inl ne_b2_b3)).other W7 (Or.inl ne_b2_b3)).ext E8).other W12 (Or.inl ne_b2_b8))
    have ft18 := ((((Ex3.wr W5).wr W7).ext E8).wr W12)
    have ft19 := (Ex8.wr W12)
    have ft20 := ((V_b3_7.ext E8).other W12 ne_b3_b8)
    obtain ⟨_, _, ⟨T13, L13, kk13, nn13⟩, -, X13, ⟨Lc13, hQ13, lq13, yq13, zz13⟩, st13⟩ := X12.specialBack hx (y := mq2) rfl hown (mvT hZ (ww hw 35 rfl)) (mvT hZ (ww hw 36 rfl)) (mvT hZ (ww hw 37 rfl)) (by decide) (own_back (W := 1) (rmTL l Z a0 hw [] b2 b3 kc3 b8 kc8 (2 : Int32) (1 : Int32) [(.int (1 : Int32)), (.int (1 : Int32))] [(.double (FP.l2d 0))] h12 n0 O12 ⟨by decide, by decide⟩ ⟨by decide, by show _ = ((1 : Nat) : Int); decide⟩ (by simp [AllE]) (by simp [AllE]) (by decide) (by decide) (by decide) g_b2 ft15 (Fld.zeroD ft14) ft16 ft17 ft18 ft19 ft20 V_b8_12) hZ (ww hw 37 rfl) (ww hw 32 rfl) (by decide) (by decide)) (g := (mkF m 28 #[iv n] [(.double (FP.l2d 1)), (.ref b8), (.ref b3), (.ref b2), (.ref b2)])) rfl (by rw [hml]; rfl) (Steps.refl _) (a := b2) (argsL := [(.ref b3), (.ref b8), (.double (FP.l2d 1))]) (rest := [(.ref b2)]) (lenOf pd___I_DD_V rfl) rfl (by show 2 * 0 + _ ≤ _; exact Nat.le_of_eq rfl) (D d5_28) (fun _ _ => ⟨rfl, e12, (by decide : 3 + 2 ≤ _), (by decide : 6 + 9 ≤ _)⟩)
    dsimp only [Pt.U, Pt.locs, Pt.cells, Pt.slots] at X13 lq13 yq13 zz13 st13 hQ13
    subst lq13 yq13 zz13
    obtain ⟨rfl, Nq13, kq13, eq13, tt13, kt13, zq13, fq13, vq13⟩ := hQ13
    have N13 := Fr.app N12 Nq13
    have ft21 := (lteq (ltle ft9 E8.1) W12.size.symm)
    have ne_b2_tt13 : b2 ≠ tt13 := Nat.ne_of_lt (ltle ft21 zq13)
    have ft22 := (lteq (ltle ft10 E8.1) W12.size.symm)
    have ne_b3_tt13 : b3 ≠ tt13 := Nat.ne_of_lt (ltle ft22 zq13)
    have ft23 := (lteq lt_b8 W12.size.symm)
    have ne_b8_tt13 : b8 ≠ tt13 := Nat.ne_of_lt (ltle ft23 zq13)
    have g_tt13 : n0 ≤ tt13 := Nat.le_trans (O12.1 ▸ O12.2.1) zq13
    have sz_tt13 : h0.size ≤ tt13 := Nat.le_trans K12.1 zq13
    have O13 : Old Z n0 T13.heap := O12.keep kq13 (allS g_b2 all0)
    have K13 : Keep h0 T13.heap [] := K12.trans kq13 (allS (Or.inr sz_b2) all0)
    refine Go.tr (f' := (mkF m 31 #[iv n] [(.ref b2)])) st13 ?_
    refine Go.retV X13 hlk hx (t := (.object "com/example/kinetic_city/kineticcity/engine/TransitLine")) hret rfl (Or.inr (Or.inr (Or.inr (Or.inr ⟨rfl, rfl, rfl⟩)))) (D d5_31) rfl ?_ (by decide) (by decide)
    have en : n = (2 : Int32) := cd1
    rw [en]
    exact ⟨b2, tt13, kt13, [(.int (1 : Int32)), (.int (1 : Int32))], rfl, N13, sz_b2, sz_tt13, K13, eq13, fq13, vq13, ⟨by decide, by decide⟩, by simp [AllE]⟩
  · refine zcy 32 X0 hx (D d5_2) (feq cd1).2 ?_
    refine zin 33 X0 hx (D d5_32) rfl ?_
    refine zic 34 3 X0 hx (D d5_33) ?_
    by_cases cd24 : n = (3 : Int32)
    · refine zcn 37 X0 hx (D d5_34) (teq cd24).2 ?_
      obtain ⟨T25, h25, X25, e25, E25, A25, D25, -, st25⟩ := newO X0 hx hZ hown (ww hw 30 rfl) (ww hw 31 rfl) (ww hw 32 rfl) e0 (g := (mkF m 37 #[iv n] [])) rfl (D d5_37) (by decide) (by decide)
      obtain ⟨b25, g25⟩ : ∃ z, z = h0.size := ⟨_, rfl⟩
      rw [← g25] at A25 D25 st25
      have g_b25 : n0 ≤ b25 := Nat.le_trans (O0.1 ▸ O0.2.1) (Nat.le_of_eq g25.symm)
      have O25 : Old Z n0 h25 := O0.ext E25
      have sz_b25 : h0.size ≤ b25 := Nat.le_trans K0.1 (Nat.le_of_eq g25.symm)
      have K25 : Keep h0 h25 [] := K0.ext E25
      have lt_b25 := A25.lt
      have F_stops_b25 : Fld Z h25 b25 "com/example/kinetic_city/kineticcity/engine/TransitLine" "stops" "[I" .null := D25 (Or.inr (ww hw 58 rfl)) (ty := (.array .int)) (by decide)
      have F_segmentSeconds_b25 : Fld Z h25 b25 "com/example/kinetic_city/kineticcity/engine/TransitLine" "segmentSeconds" "[D" .null := D25 (Or.inr (ww hw 66 rfl)) (ty := (.array .double)) (by decide)
      have F_frequency_b25 : Fld Z h25 b25 "com/example/kinetic_city/kineticcity/engine/TransitLine" "frequency" "D" (.double 0) := D25 (Or.inr (ww hw 68 rfl)) (ty := .double) (by decide)
      refine zst 40 #[iv n] [(.ref b25)] st25 ?_
      refine Go.st (f' := (mkF m 41 #[iv n] [(.ref b25), (.ref b25)])) (fun _ k => XS.dup X25.here hx rfl (D d5_40) rfl rfl k) ?_
      refine zic 42 3 X25 hx (D d5_41) ?_
      obtain ⟨T26, h26, kc26, X26, e26, E26, A26, Ex26, st26⟩ := newPE X25 hx hZ (ww hw 33 rfl) e25 (g := (mkF m 42 #[iv n] [(.int 3), (.ref b25), (.ref b25)])) rfl (D d5_42) rfl (by decide) (cap := 3) (by decide) (by decide) (by decide) (by decide) rfl
      obtain ⟨b26, g26⟩ : ∃ z, z = h25.size := ⟨_, rfl⟩
      rw [← g26] at A26 Ex26 st26
      have ne_b25_b26 : b25 ≠ b26 := Nat.ne_of_lt (lteq lt_b25 g26.symm)
      have g_b26 : n0 ≤ b26 := Nat.le_trans (O25.1 ▸ O25.2.1) (Nat.le_of_eq g26.symm)
      have O26 : Old Z n0 h26 := O25.ext E26
      have sz_b26 : h0.size ≤ b26 := Nat.le_trans K25.1 (Nat.le_of_eq g26.symm)
      have K26 : Keep h0 h26 [] := K25.ext E26
      have V_b26 : Arv Z h26 b26 kc26 .int (3 : Int32) [(.int (0 : Int32)), (.int (0 : Int32)), (.int (0 : Int32))] (.int (0 : Int32)) := (Arv.new A26 (by decide)).pad (pad_rep [] (.int (0 : Int32)) 3)
      have lt_b26 := V_b26.lt
      refine zst 44 #[iv n] [(.ref b26), (.ref b25), (.ref b25)] st26 ?_
      refine Go.st (f' := (mkF m 45 #[iv n] [(.ref b26), (.ref b26), (.ref b25), (.ref b25)])) (fun _ k => XS.dup X26.here hx rfl (D d5_44) rfl rfl k) ?_
      refine zic 46 0 X26 hx (D d5_45) ?_
      refine zic 47 1 X26 hx (D d5_46) ?_
      obtain ⟨cl27, Ar27, q27, S27, Nx27, H27, G27⟩ := id V_b26
      have hin27 : ¬ ((0 : Int32) < 0 ∨ cl27.slots.size ≤ ((0 : Int32)).toNatClampNeg) := inb_of S27 ⟨by decide, by decide⟩
      obtain ⟨T28, h28, X28, e28, W28, st28⟩ := stI X26 hx hZ e26 Ar27 (j := (0 : Int32)) hin27 (g := (mkF m 47 #[iv n] [(.int 1), (.int 0), (.ref b26), (.ref b26), (.ref b25), (.ref b25)])) rfl rfl (D d5_47)
      have V_b26_28 : Arv Z h28 b26 kc26 .int (3 : Int32) [(.int (1 : Int32)), (.int (0 : Int32)), (.int (0 : Int32))] (.int (0 : Int32)) := Arv.set Ar27 q27 S27 Nx27 H27 G27 rfl W28 0 rfl (Nat.le_of_ble_eq_true rfl)
      have N28 := Fr.snoc X28 N0 g_b26
      have O28 : Old Z n0 h28 := O26.wr W28 g_b26
      have K28 : Keep h0 h28 [] := K26.wr W28 (Or.inr sz_b26)
      refine zst 48 #[iv n] [(.ref b26), (.ref b25), (.ref b25)] st28 ?_
      refine Go.st (f' := (mkF m 49 #[iv n] [(.ref b26), (.ref b26), (.ref b25), (.ref b25)])) (fun _ k => XS.dup X28.here hx rfl (D d5_48) rfl rfl k) ?_
      refine zic 50 1 X28 hx (D d5_49) ?_
      refine zic 51 1 X28 hx (D d5_50) ?_
      obtain ⟨cl29, Ar29, q29, S29, Nx29, H29, G29⟩ := id V_b26_28
      have hin29 : ¬ ((1 : Int32) < 0 ∨ cl29.slots.size ≤ ((1 : Int32)).toNatClampNeg) := inb_of S29 ⟨by decide, by decide⟩
      obtain ⟨T30, h30, X30, e30, W30, st30⟩ := stI X28 hx hZ e28 Ar29 (j := (1 : Int32)) hin29 (g := (mkF m 51 #[iv n] [(.int 1), (.int 1), (.ref b26), (.ref b26), (.ref b25), (.ref b25)])) rfl rfl (D d5_51)
      have V_b26_30 : Arv Z h30 b26 kc26 .int (3 : Int32) [(.int (1 : Int32)), (.int (1 : Int32)), (.int (0 : Int32))] (.int (0 : Int32)) := Arv.set Ar29 q29 S29 Nx29 H29 G29 rfl W30 1 rfl (Nat.le_of_ble_eq_true rfl)
      have N30 := Fr.snoc X30 N28 g_b26
      have O30 : Old Z n0 h30 := O28.wr W30 g_b26
      have K30 : Keep h0 h30 [] := K28.wr W30 (Or.inr sz_b26)
      refine zst 52 #[iv n] [(.ref b26), (.ref b25), (.ref b25)] st30 ?_
      refine Go.st (f' := (mkF m 53 #[iv n] [(.ref b26), (.ref b26), (.ref b25), (.ref b25)])) (fun _ k => XS.dup X30.here hx rfl (D d5_52) rfl rfl k) ?_
      refine zic 54 2 X30 hx (D d5_53) ?_
      refine zic 55 1 X30 hx (D d5_54) ?_
      obtain ⟨cl31, Ar31, q31, S31, Nx31, H31, G31⟩ := id V_b26_30
      have hin31 : ¬ ((2 : Int32) < 0 ∨ cl31.slots.size ≤ ((2 : Int32)).toNatClampNeg) := inb_of S31 ⟨by decide, by decide⟩
      obtain ⟨T32, h32, X32, e32, W32, st32⟩ := stI X30 hx hZ e30 Ar31 (j := (2 : Int32)) hin31 (g := (mkF m 55 #[iv n] [(.int 1), (.int 2), (.ref b26), (.ref b26), (.ref b25), (.ref b25)])) rfl rfl (D d5_55)
      have V_b26_32 : Arv Z h32 b26 kc26 .int (3 : Int32) [(.int (1 : Int32)), (.int (1 : Int32)), (.int (1 : Int32))] (.int (0 : Int32)) := Arv.set Ar31 q31 S31 Nx31 H31 G31 rfl W32 2 rfl (Nat.le_of_ble_eq_true rfl)
      have N32 := Fr.snoc X32 N30 g_b26
      have O32 : Old Z n0 h32 := O30.wr W32 g_b26
      have K32 : Keep h0 h32 [] := K30.wr W32 (Or.inr sz_b26)
      refine zst 56 #[iv n] [(.ref b26), (.ref b25), (.ref b25)] st32 ?_
      refine zic 57 2 X32 hx (D d5_56) ?_
      obtain ⟨T33, h33, kc33, X33, e33, E33, A33, Ex33, st33⟩ := newPE X32 hx hZ (ww hw 34 rfl) e32 (g := (mkF m 57 #[iv n] [(.int 2), (.ref b26), (.ref b25), (.ref b25)])) rfl (D d5_57) rfl (by decide) (cap := 2) (by decide) (by decide) (by decide) (by decide) rfl
      obtain ⟨b33, g33⟩ : ∃ z, z = h32.size := ⟨_, rfl⟩
      rw [← g33] at A33 Ex33 st33
      have ft34 := (lteq (lteq (lteq (ltle lt_b25 E26.1) W28.size.symm) W30.size.symm) W32.size.symm)
      have ne_b25_b33 : b25 ≠ b33 := Nat.ne_of_lt (lteq ft34 g33.symm)
      have ft35 := (lteq (lteq (lteq lt_b26 W28.size.symm) W30.size.symm) W32.size.symm)
      have ne_b26_b33 : b26 ≠ b33 := Nat.ne_of_lt (lteq ft35 g33.symm)
      have g_b33 : n0 ≤ b33 := Nat.le_trans (O32.1 ▸ O32.2.1) (Nat.le_of_eq g33.symm)
      have O33 : Old Z n0 h33 := O32.ext E33
      have sz_b33 : h0.size ≤ b33 := Nat.le_trans K32.1 (Nat.le_of_eq g33.symm)
      have K33 : Keep h0 h33 [] := K32.ext E33
      have V_b33 : Arv Z h33 b33 kc33 .double (2 : Int32) [(.double (FP.l2d 0)), (.double (FP.l2d 0))] (.double (FP.l2d 0)) := (Arv.newD A33 (by decide)).pad (pad_rep [] (.double (FP.l2d 0)) 2)
      have lt_b33 := V_b33.lt
      refine zst 59 #[iv n] [(.ref b33), (.ref b26), (.ref b25), (.ref b25)] st33 ?_
      refine Go.st (f' := (mkF m 60 #[iv n] [(.ref b33), (.ref b33), (.ref b26), (.ref b25), (.ref b25)])) (fun _ k => XS.dup X33.here hx rfl (D d5_59) rfl rfl k) ?_
      refine zic 61 0 X33 hx (D d5_60) ?_
      refine Go.st (f' := (mkF m 62 #[iv n] [(.double (FP.l2d 0)), (.int 0), (.ref b33), (.ref b33), (.ref b26), (.ref b25), (.ref b25)])) (fun _ k => XS.dconst0 X33.here hx rfl (D d5_61) (by decide +kernel) k) ?_
      obtain ⟨cl36, Ar36, q36, S36, Nx36, H36, G36⟩ := id V_b33
      have hin36 : ¬ ((0 : Int32) < 0 ∨ cl36.slots.size ≤ ((0 : Int32)).toNatClampNeg) := inb_of S36 ⟨by decide, by decide⟩
      obtain ⟨T37, h37, X37, e37, W37, st37⟩ := stD X33 hx hZ e33 Ar36 (j := (0 : Int32)) hin36 (g := (mkF m 62 #[iv n] [(.double (FP.l2d 0)), (.int 0), (.ref b33), (.ref b33), (.ref b26), (.ref b25), (.ref b25)])) rfl rfl (D d5_62)
      have V_b33_37 : Arv Z h37 b33 kc33 .double (2 : Int32) [(.double (FP.l2d 0)), (.double (FP.l2d 0))] (.double (FP.l2d 0)) := Arv.set Ar36 q36 S36 Nx36 H36 G36 rfl W37 0 rfl (Nat.le_of_ble_eq_true rfl)
      have N37 := Fr.snoc X37 N32 g_b33
      have O37 : Old Z n0 h37 := O33.wr W37 g_b33
      have K37 : Keep h0 h37 [] := K33.wr W37 (Or.inr sz_b33)
      refine zst 63 #[iv n] [(.ref b33), (.ref b26), (.ref b25), (.ref b25)] st37 ?_
      refine Go.st (f' := (mkF m 64 #[iv n] [(.ref b33), (.ref b33), (.ref b26), (.ref b25), (.ref b25)])) (fun _ k => XS.dup X37.here hx rfl (D d5_63) rfl rfl k) ?_
      refine zic 65 1 X37 hx (D d5_64) ?_
      refine Go.st (f' := (mkF m 66 #[iv n] [(.double (FP.l2d 0)), (.int 1), (.ref b33), (.ref b33), (.ref b26), (.ref b25), (.ref b25)])) (fun _ k => XS.dconst0 X37.here hx rfl (D d5_65) (by decide +kernel) k) ?_
      obtain ⟨cl38, Ar38, q38, S38, Nx38, H38, G38⟩ := id V_b33_37
      have hin38 : ¬ ((1 : Int32) < 0 ∨ cl38.slots.size ≤ ((1 : Int32)).toNatClampNeg) := inb_of S38 ⟨by decide, by decide⟩
      obtain ⟨T39, h39, X39, e39, W39, st39⟩ := stD X37 hx hZ e37 Ar38 (j := (1 : Int32)) hin38 (g := (mkF m 66 #[iv n] [(.double (FP.l2d 0)), (.int 1), (.ref b33), (.ref b33), (.ref b26), (.ref b25), (.ref b25)])) rfl rfl (D d5_66)
      have V_b33_39 : Arv Z h39 b33 kc33 .double (2 : Int32) [(.double (FP.l2d 0)), (.double (FP.l2d 0))] (.double (FP.l2d 0)) := Arv.set Ar38 q38 S38 Nx38 H38 G38 rfl W39 1 rfl (Nat.le_of_ble_eq_true rfl)
      have N39 := Fr.snoc X39 N37 g_b33
      have O39 : Old Z n0 h39 := O37.wr W39 g_b33
      have K39 : Keep h0 h39 [] := K37.wr W39 (Or.inr sz_b33)
      refine zst 67 #[iv n] [(.ref b33), (.ref b26), (.ref b25), (.ref b25)] st39 ?_
      refine Go.st (f' := (mkF m 68 #[iv n] [(.double (FP.l2d 1)), (.ref b33), (.ref b26), (.ref b25), (.ref b25)])) (fun _ k => XS.dconst1 X39.here hx rfl (D d5_67) (by decide +kernel) k) ?_
      have ft41 := (((((((F_frequency_b25.ext E26).other W28 (Or.inl ne_b25_b26)).other W30 (Or.inl ne_b25_b26)).other W32 (Or.inl ne_b25_b26)).ext E33).other W37 (Or.inl ne_b25_b33)).other W39 (Or.inl ne_b25_b33))
      have ft42 := (((((((A25.ext E26).wr W28).wr W30).wr W32).ext E33).wr W37).wr W39)
      have ft43 := (((((((F_segmentSeconds_b25.ext E26).other W28 (Or.inl ne_b25_b26)).other W30 (Or.inl ne_b25_b26)).other W32 (Or.inl ne_b25_b26)).ext E33).other W37 (Or.inl ne_b25_b33)).other W39 (Or.inl ne_b25_b33))
      have ft44 := (((((((F_stops_b25.ext E26).other W28 (Or.inl ne_b25_b26)).other W30 (Or.inl ne_b25_b26)).other W32 (Or.inl ne_b25_b26)).ext E33).other W37 (Or.inl ne_b25_b33)).other W39 (Or.inl ne_b25_b33))
      have ft45 := ((((((Ex26.wr W28).wr W30).wr W32).ext E33).wr W37).wr W39)
      have ft46 := ((Ex33.wr W37).wr W39)
      have ft47 := (((V_b26_32.ext E33).other W37 ne_b26_b33).other W39 ne_b26_b33)
      obtain ⟨_, _, ⟨T40, L40, kk40, nn40⟩, -, X40, ⟨Lc40, hQ40, lq40, yq40, zz40⟩, st40⟩ := X39.specialBack hx (y := mq2) rfl hown (mvT hZ (ww hw 35 rfl)) (mvT hZ (ww hw 36 rfl)) (mvT hZ (ww hw 37 rfl)) (by decide) (own_back (W := 1) (rmTL l Z a0 hw [] b25 b26 kc26 b33 kc33 (3 : Int32) (2 : Int32) [(.int (1 : Int32)), (.int (1 : Int32)), (.int (1 : Int32))] [(.double (FP.l2d 0)), (.double (FP.l2d 0))] h39 n0 O39 ⟨by decide, by decide⟩ ⟨by decide, by show _ = ((2 : Nat) : Int); decide⟩ (by simp [AllE]) (by simp [AllE]) (by decide) (by decide) (by decide) g_b25 ft42 (Fld.zeroD ft41) ft43 ft44 ft45 ft46 ft47 V_b33_39) hZ (ww hw 37 rfl) (ww hw 32 rfl) (by decide) (by decide)) (g := (mkF m 68 #[iv n] [(.double (FP.l2d 1)), (.ref b33), (.ref b26), (.ref b25), (.ref b25)])) rfl (by rw [hml]; rfl) (Steps.refl _) (a := b25) (argsL := [(.ref b26), (.ref b33), (.double (FP.l2d 1))]) (rest := [(.ref b25)]) (lenOf pd___I_DD_V rfl) rfl (by show 2 * 0 + _ ≤ _; exact Nat.le_of_eq rfl) (D d5_68) (fun _ _ => ⟨rfl, e39, (by decide : 3 + 2 ≤ _), (by decide : 8 + 9 ≤ _)⟩)
      dsimp only [Pt.U, Pt.locs, Pt.cells, Pt.slots] at X40 lq40 yq40 zz40 st40 hQ40
      subst lq40 yq40 zz40
      obtain ⟨rfl, Nq40, kq40, eq40, tt40, kt40, zq40, fq40, vq40⟩ := hQ40
      have N40 := Fr.app N39 Nq40
      have ft48 := (lteq (lteq (ltle ft34 E33.1) W37.size.symm) W39.size.symm)
      have ne_b25_tt40 : b25 ≠ tt40 := Nat.ne_of_lt (ltle ft48 zq40)
      have ft49 := (lteq (lteq (ltle ft35 E33.1) W37.size.symm) W39.size.symm)
      have ne_b26_tt40 : b26 ≠ tt40 := Nat.ne_of_lt (ltle ft49 zq40)
      have ft50 := (lteq (lteq lt_b33 W37.size.symm) W39.size.symm)
      have ne_b33_tt40 : b33 ≠ tt40 := Nat.ne_of_lt (ltle ft50 zq40)
      have g_tt40 : n0 ≤ tt40 := Nat.le_trans (O39.1 ▸ O39.2.1) zq40
      have sz_tt40 : h0.size ≤ tt40 := Nat.le_trans K39.1 zq40
      have O40 : Old Z n0 T40.heap := O39.keep kq40 (allS g_b25 all0)
      have K40 : Keep h0 T40.heap [] := K39.trans kq40 (allS (Or.inr sz_b25) all0)
      refine Go.tr (f' := (mkF m 71 #[iv n] [(.ref b25)])) st40 ?_
      refine Go.retV X40 hlk hx (t := (.object "com/example/kinetic_city/kineticcity/engine/TransitLine")) hret rfl (Or.inr (Or.inr (Or.inr (Or.inr ⟨rfl, rfl, rfl⟩)))) (D d5_71) rfl ?_ (by decide) (by decide)
      have en : n = (3 : Int32) := cd24
      rw [en]
      exact ⟨b25, tt40, kt40, [(.int (1 : Int32)), (.int (1 : Int32)), (.int (1 : Int32))], rfl, N40, sz_b25, sz_tt40, K40, eq40, fq40, vq40, ⟨by decide, by decide⟩, by simp [AllE]⟩
    · refine zcy 72 X0 hx (D d5_34) (feq cd24).2 ?_
      refine zin 73 X0 hx (D d5_72) rfl ?_
      refine zic 74 4 X0 hx (D d5_73) ?_
      by_cases cd51 : n = (4 : Int32)
      · refine zcn 77 X0 hx (D d5_74) (teq cd51).2 ?_
        obtain ⟨T52, h52, X52, e52, E52, A52, D52, -, st52⟩ := newO X0 hx hZ hown (ww hw 30 rfl) (ww hw 31 rfl) (ww hw 32 rfl) e0 (g := (mkF m 77 #[iv n] [])) rfl (D d5_77) (by decide) (by decide)
        obtain ⟨b52, g52⟩ : ∃ z, z = h0.size := ⟨_, rfl⟩
        rw [← g52] at A52 D52 st52
        have g_b52 : n0 ≤ b52 := Nat.le_trans (O0.1 ▸ O0.2.1) (Nat.le_of_eq g52.symm)
        have O52 : Old Z n0 h52 := O0.ext E52
        have sz_b52 : h0.size ≤ b52 := Nat.le_trans K0.1 (Nat.le_of_eq g52.symm)
        have K52 : Keep h0 h52 [] := K0.ext E52
        have lt_b52 := A52.lt
        have F_stops_b52 : Fld Z h52 b52 "com/example/kinetic_city/kineticcity/engine/TransitLine" "stops" "[I" .null := D52 (Or.inr (ww hw 58 rfl)) (ty := (.array .int)) (by decide)
        have F_segmentSeconds_b52 : Fld Z h52 b52 "com/example/kinetic_city/kineticcity/engine/TransitLine" "segmentSeconds" "[D" .null := D52 (Or.inr (ww hw 66 rfl)) (ty := (.array .double)) (by decide)
        have F_frequency_b52 : Fld Z h52 b52 "com/example/kinetic_city/kineticcity/engine/TransitLine" "frequency" "D" (.double 0) := D52 (Or.inr (ww hw 68 rfl)) (ty := .double) (by decide)
        refine zst 80 #[iv n] [(.ref b52)] st52 ?_
        refine Go.st (f' := (mkF m 81 #[iv n] [(.ref b52), (.ref b52)])) (fun _ k => XS.dup X52.here hx rfl (D d5_80) rfl rfl k) ?_
        refine zic 82 4 X52 hx (D d5_81) ?_
        obtain ⟨T53, h53, kc53, X53, e53, E53, A53, Ex53, st53⟩ := newPE X52 hx hZ (ww hw 33 rfl) e52 (g := (mkF m 82 #[iv n] [(.int 4), (.ref b52), (.ref b52)])) rfl (D d5_82) rfl (by decide) (cap := 4) (by decide) (by decide) (by decide) (by decide) rfl
        obtain ⟨b53, g53⟩ : ∃ z, z = h52.size := ⟨_, rfl⟩
        rw [← g53] at A53 Ex53 st53
        have ne_b52_b53 : b52 ≠ b53 := Nat.ne_of_lt (lteq lt_b52 g53.symm)
        have g_b53 : n0 ≤ b53 := Nat.le_trans (O52.1 ▸ O52.2.1) (Nat.le_of_eq g53.symm)
        have O53 : Old Z n0 h53 := O52.ext E53
        have sz_b53 : h0.size ≤ b53 := Nat.le_trans K52.1 (Nat.le_of_eq g53.symm)
        have K53 : Keep h0 h53 [] := K52.ext E53
        have V_b53 : Arv Z h53 b53 kc53 .int (4 : Int32) [(.int (0 : Int32)), (.int (0 : Int32)), (.int (0 : Int32)), (.int (0 : Int32))] (.int (0 : Int32)) := (Arv.new A53 (by decide)).pad (pad_rep [] (.int (0 : Int32)) 4)
        have lt_b53 := V_b53.lt
        refine zst 84 #[iv n] [(.ref b53), (.ref b52), (.ref b52)] st53 ?_
        refine Go.st (f' := (mkF m 85 #[iv n] [(.ref b53), (.ref b53), (.ref b52), (.ref b52)])) (fun _ k => XS.dup X53.here hx rfl (D d5_84) rfl rfl k) ?_
        refine zic 86 0 X53 hx (D d5_85) ?_
        refine zic 87 1 X53 hx (D d5_86) ?_
        obtain ⟨cl54, Ar54, q54, S54, Nx54, H54, G54⟩ := id V_b53
        have hin54 : ¬ ((0 : Int32) < 0 ∨ cl54.slots.size ≤ ((0 : Int32)).toNatClampNeg) := inb_of S54 ⟨by decide, by decide⟩
        obtain ⟨T55, h55, X55, e55, W55, st55⟩ := stI X53 hx hZ e53 Ar54 (j := (0 : Int32)) hin54 (g := (mkF m 87 #[iv n] [(.int 1), (.int 0), (.ref b53), (.ref b53), (.ref b52), (.ref b52)])) rfl rfl (D d5_87)
        have V_b53_55 : Arv Z h55 b53 kc53 .int (4 : Int32) [(.int (1 : Int32)), (.int (0 : Int32)), (.int (0 : Int32)), (.int (0 : Int32))] (.int (0 : Int32)) := Arv.set Ar54 q54 S54 Nx54 H54 G54 rfl W55 0 rfl (Nat.le_of_ble_eq_true rfl)
        have N55 := Fr.snoc X55 N0 g_b53
        have O55 : Old Z n0 h55 := O53.wr W55 g_b53
        have K55 : Keep h0 h55 [] := K53.wr W55 (Or.inr sz_b53)
        refine zst 88 #[iv n] [(.ref b53), (.ref b52), (.ref b52)] st55 ?_
        refine Go.st (f' := (mkF m 89 #[iv n] [(.ref b53), (.ref b53), (.ref b52), (.ref b52)])) (fun _ k => XS.dup X55.here hx rfl (D d5_88) rfl rfl k) ?_
        refine zic 90 1 X55 hx (D d5_89) ?_
        refine zic 91 1 X55 hx (D d5_90) ?_
        obtain ⟨cl56, Ar56, q56, S56, Nx56, H56, G56⟩ := id V_b53_55
        have hin56 : ¬ ((1 : Int32) < 0 ∨ cl56.slots.size ≤ ((1 : Int32)).toNatClampNeg) := inb_of S56 ⟨by decide, by decide⟩
        obtain ⟨T57, h57, X57, e57, W57, st57⟩ := stI X55 hx hZ e55 Ar56 (j := (1 : Int32)) hin56 (g := (mkF m 91 #[iv n] [(.int 1), (.int 1), (.ref b53), (.ref b53), (.ref b52), (.ref b52)])) rfl rfl (D d5_91)
        have V_b53_57 : Arv Z h57 b53 kc53 .int (4 : Int32) [(.int (1 : Int32)), (.int (1 : Int32)), (.int (0 : Int32)), (.int (0 : Int32))] (.int (0 : Int32)) := Arv.set Ar56 q56 S56 Nx56 H56 G56 rfl W57 1 rfl (Nat.le_of_ble_eq_true rfl)
        have N57 := Fr.snoc X57 N55 g_b53
        have O57 : Old Z n0 h57 := O55.wr W57 g_b53
        have K57 : Keep h0 h57 [] := K55.wr W57 (Or.inr sz_b53)
        refine zst 92 #[iv n] [(.ref b53), (.ref b52), (.ref b52)] st57 ?_
        refine Go.st (f' := (mkF m 93 #[iv n] [(.ref b53), (.ref b53), (.ref b52), (.ref b52)])) (fun _ k => XS.dup X57.here hx rfl (D d5_92) rfl rfl k) ?_
        refine zic 94 2 X57 hx (D d5_93) ?_
        refine zic 95 1 X57 hx (D d5_94) ?_
        obtain ⟨cl58, Ar58, q58, S58, Nx58, H58, G58⟩ := id V_b53_57
        have hin58 : ¬ ((2 : Int32) < 0 ∨ cl58.slots.size ≤ ((2 : Int32)).toNatClampNeg) := inb_of S58 ⟨by decide, by decide⟩
        obtain ⟨T59, h59, X59, e59, W59, st59⟩ := stI X57 hx hZ e57 Ar58 (j := (2 : Int32)) hin58 (g := (mkF m 95 #[iv n] [(.int 1), (.int 2), (.ref b53), (.ref b53), (.ref b52), (.ref b52)])) rfl rfl (D d5_95)
        have V_b53_59 : Arv Z h59 b53 kc53 .int (4 : Int32) [(.int (1 : Int32)), (.int (1 : Int32)), (.int (1 : Int32)), (.int (0 : Int32))] (.int (0 : Int32)) := Arv.set Ar58 q58 S58 Nx58 H58 G58 rfl W59 2 rfl (Nat.le_of_ble_eq_true rfl)
        have N59 := Fr.snoc X59 N57 g_b53
        have O59 : Old Z n0 h59 := O57.wr W59 g_b53
        have K59 : Keep h0 h59 [] := K57.wr W59 (Or.inr sz_b53)
        refine zst 96 #[iv n] [(.ref b53), (.ref b52), (.ref b52)] st59 ?_
        refine Go.st (f' := (mkF m 97 #[iv n] [(.ref b53), (.ref b53), (.ref b52), (.ref b52)])) (fun _ k => XS.dup X59.here hx rfl (D d5_96) rfl rfl k) ?_
        refine zic 98 3 X59 hx (D d5_97) ?_
        refine zic 99 1 X59 hx (D d5_98) ?_
        obtain ⟨cl60, Ar60, q60, S60, Nx60, H60, G60⟩ := id V_b53_59
        have hin60 : ¬ ((3 : Int32) < 0 ∨ cl60.slots.size ≤ ((3 : Int32)).toNatClampNeg) := inb_of S60 ⟨by decide, by decide⟩
        obtain ⟨T61, h61, X61, e61, W61, st61⟩ := stI X59 hx hZ e59 Ar60 (j := (3 : Int32)) hin60 (g := (mkF m 99 #[iv n] [(.int 1), (.int 3), (.ref b53), (.ref b53), (.ref b52), (.ref b52)])) rfl rfl (D d5_99)
        have V_b53_61 : Arv Z h61 b53 kc53 .int (4 : Int32) [(.int (1 : Int32)), (.int (1 : Int32)), (.int (1 : Int32)), (.int (1 : Int32))] (.int (0 : Int32)) := Arv.set Ar60 q60 S60 Nx60 H60 G60 rfl W61 3 rfl (Nat.le_of_ble_eq_true rfl)
        have N61 := Fr.snoc X61 N59 g_b53
        have O61 : Old Z n0 h61 := O59.wr W61 g_b53
        have K61 : Keep h0 h61 [] := K59.wr W61 (Or.inr sz_b53)
        refine zst 100 #[iv n] [(.ref b53), (.ref b52), (.ref b52)] st61 ?_
        refine zic 101 3 X61 hx (D d5_100) ?_
        obtain ⟨T62, h62, kc62, X62, e62, E62, A62, Ex62, st62⟩ := newPE X61 hx hZ (ww hw 34 rfl) e61 (g := (mkF m 101 #[iv n] [(.int 3), (.ref b53), (.ref b52), (.ref b52)])) rfl (D d5_101) rfl (by decide) (cap := 3) (by decide) (by decide) (by decide) (by decide) rfl
        obtain ⟨b62, g62⟩ : ∃ z, z = h61.size := ⟨_, rfl⟩
        rw [← g62] at A62 Ex62 st62
        have ft63 := (lteq (lteq (lteq (lteq (ltle lt_b52 E53.1) W55.size.symm) W57.size.symm) W59.size.symm) W61.size.symm)
        have ne_b52_b62 : b52 ≠ b62 := Nat.ne_of_lt (lteq ft63 g62.symm)
        have ft64 := (lteq (lteq (lteq (lteq lt_b53 W55.size.symm) W57.size.symm) W59.size.symm) W61.size.symm)
        have ne_b53_b62 : b53 ≠ b62 := Nat.ne_of_lt (lteq ft64 g62.symm)
        have g_b62 : n0 ≤ b62 := Nat.le_trans (O61.1 ▸ O61.2.1) (Nat.le_of_eq g62.symm)
        have O62 : Old Z n0 h62 := O61.ext E62
        have sz_b62 : h0.size ≤ b62 := Nat.le_trans K61.1 (Nat.le_of_eq g62.symm)
        have K62 : Keep h0 h62 [] := K61.ext E62
        have V_b62 : Arv Z h62 b62 kc62 .double (3 : Int32) [(.double (FP.l2d 0)), (.double (FP.l2d 0)), (.double (FP.l2d 0))] (.double (FP.l2d 0)) := (Arv.newD A62 (by decide)).pad (pad_rep [] (.double (FP.l2d 0)) 3)
        have lt_b62 := V_b62.lt
        refine zst 103 #[iv n] [(.ref b62), (.ref b53), (.ref b52), (.ref b52)] st62 ?_
        refine Go.st (f' := (mkF m 104 #[iv n] [(.ref b62), (.ref b62), (.ref b53), (.ref b52), (.ref b52)])) (fun _ k => XS.dup X62.here hx rfl (D d5_103) rfl rfl k) ?_
        refine zic 105 0 X62 hx (D d5_104) ?_
        refine Go.st (f' := (mkF m 106 #[iv n] [(.double (FP.l2d 0)), (.int 0), (.ref b62), (.ref b62), (.ref b53), (.ref b52), (.ref b52)])) (fun _ k => XS.dconst0 X62.here hx rfl (D d5_105) (by decide +kernel) k) ?_
        obtain ⟨cl65, Ar65, q65, S65, Nx65, H65, G65⟩ := id V_b62
        have hin65 : ¬ ((0 : Int32) < 0 ∨ cl65.slots.size ≤ ((0 : Int32)).toNatClampNeg) := inb_of S65 ⟨by decide, by decide⟩
        obtain ⟨T66, h66, X66, e66, W66, st66⟩ := stD X62 hx hZ e62 Ar65 (j := (0 : Int32)) hin65 (g := (mkF m 106 #[iv n] [(.double (FP.l2d 0)), (.int 0), (.ref b62), (.ref b62), (.ref b53), (.ref b52), (.ref b52)])) rfl rfl (D d5_106)
        have V_b62_66 : Arv Z h66 b62 kc62 .double (3 : Int32) [(.double (FP.l2d 0)), (.double (FP.l2d 0)), (.double (FP.l2d 0))] (.double (FP.l2d 0)) := Arv.set Ar65 q65 S65 Nx65 H65 G65 rfl W66 0 rfl (Nat.le_of_ble_eq_true rfl)
        have N66 := Fr.snoc X66 N61 g_b62
        have O66 : Old Z n0 h66 := O62.wr W66 g_b62
        have K66 : Keep h0 h66 [] := K62.wr W66 (Or.inr sz_b62)
        refine zst 107 #[iv n] [(.ref b62), (.ref b53), (.ref b52), (.ref b52)] st66 ?_
        refine Go.st (f' := (mkF m 108 #[iv n] [(.ref b62), (.ref b62), (.ref b53), (.ref b52), (.ref b52)])) (fun _ k => XS.dup X66.here hx rfl (D d5_107) rfl rfl k) ?_
        refine zic 109 1 X66 hx (D d5_108) ?_
        refine Go.st (f' := (mkF m 110 #[iv n] [(.double (FP.l2d 0)), (.int 1), (.ref b62), (.ref b62), (.ref b53), (.ref b52), (.ref b52)])) (fun _ k => XS.dconst0 X66.here hx rfl (D d5_109) (by decide +kernel) k) ?_
        obtain ⟨cl67, Ar67, q67, S67, Nx67, H67, G67⟩ := id V_b62_66
        have hin67 : ¬ ((1 : Int32) < 0 ∨ cl67.slots.size ≤ ((1 : Int32)).toNatClampNeg) := inb_of S67 ⟨by decide, by decide⟩
        obtain ⟨T68, h68, X68, e68, W68, st68⟩ := stD X66 hx hZ e66 Ar67 (j := (1 : Int32)) hin67 (g := (mkF m 110 #[iv n] [(.double (FP.l2d 0)), (.int 1), (.ref b62), (.ref b62), (.ref b53), (.ref b52), (.ref b52)])) rfl rfl (D d5_110)
        have V_b62_68 : Arv Z h68 b62 kc62 .double (3 : Int32) [(.double (FP.l2d 0)), (.double (FP.l2d 0)), (.double (FP.l2d 0))] (.double (FP.l2d 0)) := Arv.set Ar67 q67 S67 Nx67 H67 G67 rfl W68 1 rfl (Nat.le_of_ble_eq_true rfl)
        have N68 := Fr.snoc X68 N66 g_b62
        have O68 : Old Z n0 h68 := O66.wr W68 g_b62
        have K68 : Keep h0 h68 [] := K66.wr W68 (Or.inr sz_b62)
        refine zst 111 #[iv n] [(.ref b62), (.ref b53), (.ref b52), (.ref b52)] st68 ?_
        refine Go.st (f' := (mkF m 112 #[iv n] [(.ref b62), (.ref b62), (.ref b53), (.ref b52), (.ref b52)])) (fun _ k => XS.dup X68.here hx rfl (D d5_111) rfl rfl k) ?_
        refine zic 113 2 X68 hx (D d5_112) ?_
        refine Go.st (f' := (mkF m 114 #[iv n] [(.double (FP.l2d 0)), (.int 2), (.ref b62), (.ref b62), (.ref b53), (.ref b52), (.ref b52)])) (fun _ k => XS.dconst0 X68.here hx rfl (D d5_113) (by decide +kernel) k) ?_
        obtain ⟨cl69, Ar69, q69, S69, Nx69, H69, G69⟩ := id V_b62_68
        have hin69 : ¬ ((2 : Int32) < 0 ∨ cl69.slots.size ≤ ((2 : Int32)).toNatClampNeg) := inb_of S69 ⟨by decide, by decide⟩
        obtain ⟨T70, h70, X70, e70, W70, st70⟩ := stD X68 hx hZ e68 Ar69 (j := (2 : Int32)) hin69 (g := (mkF m 114 #[iv n] [(.double (FP.l2d 0)), (.int 2), (.ref b62), (.ref b62), (.ref b53), (.ref b52), (.ref b52)])) rfl rfl (D d5_114)
        have V_b62_70 : Arv Z h70 b62 kc62 .double (3 : Int32) [(.double (FP.l2d 0)), (.double (FP.l2d 0)), (.double (FP.l2d 0))] (.double (FP.l2d 0)) := Arv.set Ar69 q69 S69 Nx69 H69 G69 rfl W70 2 rfl (Nat.le_of_ble_eq_true rfl)
        have N70 := Fr.snoc X70 N68 g_b62
        have O70 : Old Z n0 h70 := O68.wr W70 g_b62
        have K70 : Keep h0 h70 [] := K68.wr W70 (Or.inr sz_b62)
        refine zst 115 #[iv n] [(.ref b62), (.ref b53), (.ref b52), (.ref b52)] st70 ?_
        refine Go.st (f' := (mkF m 116 #[iv n] [(.double (FP.l2d 1)), (.ref b62), (.ref b53), (.ref b52), (.ref b52)])) (fun _ k => XS.dconst1 X70.here hx rfl (D d5_115) (by decide +kernel) k) ?_
        have ft72 := (((((((((F_frequency_b52.ext E53).other W55 (Or.inl ne_b52_b53)).other W57 (Or.inl ne_b52_b53)).other W59 (Or.inl ne_b52_b53)).other W61 (Or.inl ne_b52_b53)).ext E62).other W66 (Or.inl ne_b52_b62)).other W68 (Or.inl ne_b52_b62)).other W70 (Or.inl ne_b52_b62))
        have ft73 := (((((((((A52.ext E53).wr W55).wr W57).wr W59).wr W61).ext E62).wr W66).wr W68).wr W70)
        have ft74 := (((((((((F_segmentSeconds_b52.ext E53).other W55 (Or.inl ne_b52_b53)).other W57 (Or.inl ne_b52_b53)).other W59 (Or.inl ne_b52_b53)).other W61 (Or.inl ne_b52_b53)).ext E62).other W66 (Or.inl ne_b52_b62)).other W68 (Or.inl ne_b52_b62)).other W70 (Or.inl ne_b52_b62))
        have ft75 := (((((((((F_stops_b52.ext E53).other W55 (Or.inl ne_b52_b53)).other W57 (Or.inl ne_b52_b53)).other W59 (Or.inl ne_b52_b53)).other W61 (Or.inl ne_b52_b53)).ext E62).other W66 (Or.inl ne_b52_b62)).other W68 (Or.inl ne_b52_b62)).other W70 (Or.inl ne_b52_b62))
        have ft76 := ((((((((Ex53.wr W55).wr W57).wr W59).wr W61).ext E62).wr W66).wr W68).wr W70)
        have ft77 := (((Ex62.wr W66).wr W68).wr W70)
        have ft78 := ((((V_b53_61.ext E62).other W66 ne_b53_b62).other W68 ne_b53_b62).other W70 ne_b53_b62)
        obtain ⟨_, _, ⟨T71, L71, kk71, nn71⟩, -, X71, ⟨Lc71, hQ71, lq71, yq71, zz71⟩, st71⟩ := X70.specialBack hx (y := mq2) rfl hown (mvT hZ (ww hw 35 rfl)) (mvT hZ (ww hw 36 rfl)) (mvT hZ (ww hw 37 rfl)) (by decide) (own_back (W := 1) (rmTL l Z a0 hw [] b52 b53 kc53 b62 kc62 (4 : Int32) (3 : Int32) [(.int (1 : Int32)), (.int (1 : Int32)), (.int (1 : Int32)), (.int (1 : Int32))] [(.double (FP.l2d 0)), (.double (FP.l2d 0)), (.double (FP.l2d 0))] h70 n0 O70 ⟨by decide, by decide⟩ ⟨by decide, by show _ = ((3 : Nat) : Int); decide⟩ (by simp [AllE]) (by simp [AllE]) (by decide) (by decide) (by decide) g_b52 ft73 (Fld.zeroD ft72) ft74 ft75 ft76 ft77 ft78 V_b62_70) hZ (ww hw 37 rfl) (ww hw 32 rfl) (by decide) (by decide)) (g := (mkF m 116 #[iv n] [(.double (FP.l2d 1)), (.ref b62), (.ref b53), (.ref b52), (.ref b52)])) rfl (by rw [hml]; rfl) (Steps.refl _) (a := b52) (argsL := [(.ref b53), (.ref b62), (.double (FP.l2d 1))]) (rest := [(.ref b52)]) (lenOf pd___I_DD_V rfl) rfl (by show 2 * 0 + _ ≤ _; exact Nat.le_of_eq rfl) (D d5_116) (fun _ _ => ⟨rfl, e70, (by decide : 3 + 2 ≤ _), (by decide : 10 + 9 ≤ _)⟩)
        dsimp only [Pt.U, Pt.locs, Pt.cells, Pt.slots] at X71 lq71 yq71 zz71 st71 hQ71
        subst lq71 yq71 zz71
        obtain ⟨rfl, Nq71, kq71, eq71, tt71, kt71, zq71, fq71, vq71⟩ := hQ71
        have N71 := Fr.app N70 Nq71
        have ft79 := (lteq (lteq (lteq (ltle ft63 E62.1) W66.size.symm) W68.size.symm) W70.size.symm)
        have ne_b52_tt71 : b52 ≠ tt71 := Nat.ne_of_lt (ltle ft79 zq71)
        have ft80 := (lteq (lteq (lteq (ltle ft64 E62.1) W66.size.symm) W68.size.symm) W70.size.symm)
        have ne_b53_tt71 : b53 ≠ tt71 := Nat.ne_of_lt (ltle ft80 zq71)
        have ft81 := (lteq (lteq (lteq lt_b62 W66.size.symm) W68.size.symm) W70.size.symm)
        have ne_b62_tt71 : b62 ≠ tt71 := Nat.ne_of_lt (ltle ft81 zq71)
        have g_tt71 : n0 ≤ tt71 := Nat.le_trans (O70.1 ▸ O70.2.1) zq71
        have sz_tt71 : h0.size ≤ tt71 := Nat.le_trans K70.1 zq71
        have O71 : Old Z n0 T71.heap := O70.keep kq71 (allS g_b52 all0)
        have K71 : Keep h0 T71.heap [] := K70.trans kq71 (allS (Or.inr sz_b52) all0)
        refine Go.tr (f' := (mkF m 119 #[iv n] [(.ref b52)])) st71 ?_
        refine Go.retV X71 hlk hx (t := (.object "com/example/kinetic_city/kineticcity/engine/TransitLine")) hret rfl (Or.inr (Or.inr (Or.inr (Or.inr ⟨rfl, rfl, rfl⟩)))) (D d5_119) rfl ?_ (by decide) (by decide)
        have en : n = (4 : Int32) := cd51
        rw [en]
        exact ⟨b52, tt71, kt71, [(.int (1 : Int32)), (.int (1 : Int32)), (.int (1 : Int32)), (.int (1 : Int32))], rfl, N71, sz_b52, sz_tt71, K71, eq71, fq71, vq71, ⟨by decide, by decide⟩, by simp [AllE]⟩
      · refine zcy 120 X0 hx (D d5_74) (feq cd51).2 ?_
        obtain ⟨T82, h82, X82, e82, E82, A82, D82, -, st82⟩ := newO X0 hx hZ hown (ww hw 30 rfl) (ww hw 31 rfl) (ww hw 32 rfl) e0 (g := (mkF m 120 #[iv n] [])) rfl (D d5_120) (by decide) (by decide)
        obtain ⟨b82, g82⟩ : ∃ z, z = h0.size := ⟨_, rfl⟩
        rw [← g82] at A82 D82 st82
        have g_b82 : n0 ≤ b82 := Nat.le_trans (O0.1 ▸ O0.2.1) (Nat.le_of_eq g82.symm)
        have O82 : Old Z n0 h82 := O0.ext E82
        have sz_b82 : h0.size ≤ b82 := Nat.le_trans K0.1 (Nat.le_of_eq g82.symm)
        have K82 : Keep h0 h82 [] := K0.ext E82
        have lt_b82 := A82.lt
        have F_stops_b82 : Fld Z h82 b82 "com/example/kinetic_city/kineticcity/engine/TransitLine" "stops" "[I" .null := D82 (Or.inr (ww hw 58 rfl)) (ty := (.array .int)) (by decide)
        have F_segmentSeconds_b82 : Fld Z h82 b82 "com/example/kinetic_city/kineticcity/engine/TransitLine" "segmentSeconds" "[D" .null := D82 (Or.inr (ww hw 66 rfl)) (ty := (.array .double)) (by decide)
        have F_frequency_b82 : Fld Z h82 b82 "com/example/kinetic_city/kineticcity/engine/TransitLine" "frequency" "D" (.double 0) := D82 (Or.inr (ww hw 68 rfl)) (ty := .double) (by decide)
        refine zst 123 #[iv n] [(.ref b82)] st82 ?_
        refine Go.st (f' := (mkF m 124 #[iv n] [(.ref b82), (.ref b82)])) (fun _ k => XS.dup X82.here hx rfl (D d5_123) rfl rfl k) ?_
        refine zic 125 5 X82 hx (D d5_124) ?_
        obtain ⟨T83, h83, kc83, X83, e83, E83, A83, Ex83, st83⟩ := newPE X82 hx hZ (ww hw 33 rfl) e82 (g := (mkF m 125 #[iv n] [(.int 5), (.ref b82), (.ref b82)])) rfl (D d5_125) rfl (by decide) (cap := 5) (by decide) (by decide) (by decide) (by decide) rfl
        obtain ⟨b83, g83⟩ : ∃ z, z = h82.size := ⟨_, rfl⟩
        rw [← g83] at A83 Ex83 st83
        have ne_b82_b83 : b82 ≠ b83 := Nat.ne_of_lt (lteq lt_b82 g83.symm)
        have g_b83 : n0 ≤ b83 := Nat.le_trans (O82.1 ▸ O82.2.1) (Nat.le_of_eq g83.symm)
        have O83 : Old Z n0 h83 := O82.ext E83
        have sz_b83 : h0.size ≤ b83 := Nat.le_trans K82.1 (Nat.le_of_eq g83.symm)
        have K83 : Keep h0 h83 [] := K82.ext E83
        have V_b83 : Arv Z h83 b83 kc83 .int (5 : Int32) [(.int (0 : Int32)), (.int (0 : Int32)), (.int (0 : Int32)), (.int (0 : Int32)), (.int (0 : Int32))] (.int (0 : Int32)) := (Arv.new A83 (by decide)).pad (pad_rep [] (.int (0 : Int32)) 5)
        have lt_b83 := V_b83.lt
        refine zst 127 #[iv n] [(.ref b83), (.ref b82), (.ref b82)] st83 ?_
        refine Go.st (f' := (mkF m 128 #[iv n] [(.ref b83), (.ref b83), (.ref b82), (.ref b82)])) (fun _ k => XS.dup X83.here hx rfl (D d5_127) rfl rfl k) ?_
        refine zic 129 0 X83 hx (D d5_128) ?_
        refine zic 130 1 X83 hx (D d5_129) ?_
        obtain ⟨cl84, Ar84, q84, S84, Nx84, H84, G84⟩ := id V_b83
        have hin84 : ¬ ((0 : Int32) < 0 ∨ cl84.slots.size ≤ ((0 : Int32)).toNatClampNeg) := inb_of S84 ⟨by decide, by decide⟩
        obtain ⟨T85, h85, X85, e85, W85, st85⟩ := stI X83 hx hZ e83 Ar84 (j := (0 : Int32)) hin84 (g := (mkF m 130 #[iv n] [(.int 1), (.int 0), (.ref b83), (.ref b83), (.ref b82), (.ref b82)])) rfl rfl (D d5_130)
        have V_b83_85 : Arv Z h85 b83 kc83 .int (5 : Int32) [(.int (1 : Int32)), (.int (0 : Int32)), (.int (0 : Int32)), (.int (0 : Int32)), (.int (0 : Int32))] (.int (0 : Int32)) := Arv.set Ar84 q84 S84 Nx84 H84 G84 rfl W85 0 rfl (Nat.le_of_ble_eq_true rfl)
        have N85 := Fr.snoc X85 N0 g_b83
        have O85 : Old Z n0 h85 := O83.wr W85 g_b83
        have K85 : Keep h0 h85 [] := K83.wr W85 (Or.inr sz_b83)
        refine zst 131 #[iv n] [(.ref b83), (.ref b82), (.ref b82)] st85 ?_
        refine Go.st (f' := (mkF m 132 #[iv n] [(.ref b83), (.ref b83), (.ref b82), (.ref b82)])) (fun _ k => XS.dup X85.here hx rfl (D d5_131) rfl rfl k) ?_
        refine zic 133 1 X85 hx (D d5_132) ?_
        refine zic 134 1 X85 hx (D d5_133) ?_
        obtain ⟨cl86, Ar86, q86, S86, Nx86, H86, G86⟩ := id V_b83_85
        have hin86 : ¬ ((1 : Int32) < 0 ∨ cl86.slots.size ≤ ((1 : Int32)).toNatClampNeg) := inb_of S86 ⟨by decide, by decide⟩
        obtain ⟨T87, h87, X87, e87, W87, st87⟩ := stI X85 hx hZ e85 Ar86 (j := (1 : Int32)) hin86 (g := (mkF m 134 #[iv n] [(.int 1), (.int 1), (.ref b83), (.ref b83), (.ref b82), (.ref b82)])) rfl rfl (D d5_134)
        have V_b83_87 : Arv Z h87 b83 kc83 .int (5 : Int32) [(.int (1 : Int32)), (.int (1 : Int32)), (.int (0 : Int32)), (.int (0 : Int32)), (.int (0 : Int32))] (.int (0 : Int32)) := Arv.set Ar86 q86 S86 Nx86 H86 G86 rfl W87 1 rfl (Nat.le_of_ble_eq_true rfl)
        have N87 := Fr.snoc X87 N85 g_b83
        have O87 : Old Z n0 h87 := O85.wr W87 g_b83
        have K87 : Keep h0 h87 [] := K85.wr W87 (Or.inr sz_b83)
        refine zst 135 #[iv n] [(.ref b83), (.ref b82), (.ref b82)] st87 ?_
        refine Go.st (f' := (mkF m 136 #[iv n] [(.ref b83), (.ref b83), (.ref b82), (.ref b82)])) (fun _ k => XS.dup X87.here hx rfl (D d5_135) rfl rfl k) ?_
        refine zic 137 2 X87 hx (D d5_136) ?_
        refine zic 138 1 X87 hx (D d5_137) ?_
        obtain ⟨cl88, Ar88, q88, S88, Nx88, H88, G88⟩ := id V_b83_87
        have hin88 : ¬ ((2 : Int32) < 0 ∨ cl88.slots.size ≤ ((2 : Int32)).toNatClampNeg) := inb_of S88 ⟨by decide, by decide⟩
        obtain ⟨T89, h89, X89, e89, W89, st89⟩ := stI X87 hx hZ e87 Ar88 (j := (2 : Int32)) hin88 (g := (mkF m 138 #[iv n] [(.int 1), (.int 2), (.ref b83), (.ref b83), (.ref b82), (.ref b82)])) rfl rfl (D d5_138)
        have V_b83_89 : Arv Z h89 b83 kc83 .int (5 : Int32) [(.int (1 : Int32)), (.int (1 : Int32)), (.int (1 : Int32)), (.int (0 : Int32)), (.int (0 : Int32))] (.int (0 : Int32)) := Arv.set Ar88 q88 S88 Nx88 H88 G88 rfl W89 2 rfl (Nat.le_of_ble_eq_true rfl)
        have N89 := Fr.snoc X89 N87 g_b83
        have O89 : Old Z n0 h89 := O87.wr W89 g_b83
        have K89 : Keep h0 h89 [] := K87.wr W89 (Or.inr sz_b83)
        refine zst 139 #[iv n] [(.ref b83), (.ref b82), (.ref b82)] st89 ?_
        refine Go.st (f' := (mkF m 140 #[iv n] [(.ref b83), (.ref b83), (.ref b82), (.ref b82)])) (fun _ k => XS.dup X89.here hx rfl (D d5_139) rfl rfl k) ?_
        refine zic 141 3 X89 hx (D d5_140) ?_
        refine zic 142 1 X89 hx (D d5_141) ?_
        obtain ⟨cl90, Ar90, q90, S90, Nx90, H90, G90⟩ := id V_b83_89
        have hin90 : ¬ ((3 : Int32) < 0 ∨ cl90.slots.size ≤ ((3 : Int32)).toNatClampNeg) := inb_of S90 ⟨by decide, by decide⟩
        obtain ⟨T91, h91, X91, e91, W91, st91⟩ := stI X89 hx hZ e89 Ar90 (j := (3 : Int32)) hin90 (g := (mkF m 142 #[iv n] [(.int 1), (.int 3), (.ref b83), (.ref b83), (.ref b82), (.ref b82)])) rfl rfl (D d5_142)
        have V_b83_91 : Arv Z h91 b83 kc83 .int (5 : Int32) [(.int (1 : Int32)), (.int (1 : Int32)), (.int (1 : Int32)), (.int (1 : Int32)), (.int (0 : Int32))] (.int (0 : Int32)) := Arv.set Ar90 q90 S90 Nx90 H90 G90 rfl W91 3 rfl (Nat.le_of_ble_eq_true rfl)
        have N91 := Fr.snoc X91 N89 g_b83
        have O91 : Old Z n0 h91 := O89.wr W91 g_b83
        have K91 : Keep h0 h91 [] := K89.wr W91 (Or.inr sz_b83)
        refine zst 143 #[iv n] [(.ref b83), (.ref b82), (.ref b82)] st91 ?_
        refine Go.st (f' := (mkF m 144 #[iv n] [(.ref b83), (.ref b83), (.ref b82), (.ref b82)])) (fun _ k => XS.dup X91.here hx rfl (D d5_143) rfl rfl k) ?_
        refine zic 145 4 X91 hx (D d5_144) ?_
        refine zic 146 1 X91 hx (D d5_145) ?_
        obtain ⟨cl92, Ar92, q92, S92, Nx92, H92, G92⟩ := id V_b83_91
        have hin92 : ¬ ((4 : Int32) < 0 ∨ cl92.slots.size ≤ ((4 : Int32)).toNatClampNeg) := inb_of S92 ⟨by decide, by decide⟩
        obtain ⟨T93, h93, X93, e93, W93, st93⟩ := stI X91 hx hZ e91 Ar92 (j := (4 : Int32)) hin92 (g := (mkF m 146 #[iv n] [(.int 1), (.int 4), (.ref b83), (.ref b83), (.ref b82), (.ref b82)])) rfl rfl (D d5_146)
        have V_b83_93 : Arv Z h93 b83 kc83 .int (5 : Int32) [(.int (1 : Int32)), (.int (1 : Int32)), (.int (1 : Int32)), (.int (1 : Int32)), (.int (1 : Int32))] (.int (0 : Int32)) := Arv.set Ar92 q92 S92 Nx92 H92 G92 rfl W93 4 rfl (Nat.le_of_ble_eq_true rfl)
        have N93 := Fr.snoc X93 N91 g_b83
        have O93 : Old Z n0 h93 := O91.wr W93 g_b83
        have K93 : Keep h0 h93 [] := K91.wr W93 (Or.inr sz_b83)
        refine zst 147 #[iv n] [(.ref b83), (.ref b82), (.ref b82)] st93 ?_
        refine zic 148 4 X93 hx (D d5_147) ?_
        obtain ⟨T94, h94, kc94, X94, e94, E94, A94, Ex94, st94⟩ := newPE X93 hx hZ (ww hw 34 rfl) e93 (g := (mkF m 148 #[iv n] [(.int 4), (.ref b83), (.ref b82), (.ref b82)])) rfl (D d5_148) rfl (by decide) (cap := 4) (by decide) (by decide) (by decide) (by decide) rfl
        obtain ⟨b94, g94⟩ : ∃ z, z = h93.size := ⟨_, rfl⟩
        rw [← g94] at A94 Ex94 st94
        have ft95 := (lteq (lteq (lteq (lteq (lteq (ltle lt_b82 E83.1) W85.size.symm) W87.size.symm) W89.size.symm) W91.size.symm) W93.size.symm)
        have ne_b82_b94 : b82 ≠ b94 := Nat.ne_of_lt (lteq ft95 g94.symm)
        have ft96 := (lteq (lteq (lteq (lteq (lteq lt_b83 W85.size.symm) W87.size.symm) W89.size.symm) W91.size.symm) W93.size.symm)
        have ne_b83_b94 : b83 ≠ b94 := Nat.ne_of_lt (lteq ft96 g94.symm)
        have g_b94 : n0 ≤ b94 := Nat.le_trans (O93.1 ▸ O93.2.1) (Nat.le_of_eq g94.symm)
        have O94 : Old Z n0 h94 := O93.ext E94
        have sz_b94 : h0.size ≤ b94 := Nat.le_trans K93.1 (Nat.le_of_eq g94.symm)
        have K94 : Keep h0 h94 [] := K93.ext E94
        have V_b94 : Arv Z h94 b94 kc94 .double (4 : Int32) [(.double (FP.l2d 0)), (.double (FP.l2d 0)), (.double (FP.l2d 0)), (.double (FP.l2d 0))] (.double (FP.l2d 0)) := (Arv.newD A94 (by decide)).pad (pad_rep [] (.double (FP.l2d 0)) 4)
        have lt_b94 := V_b94.lt
        refine zst 150 #[iv n] [(.ref b94), (.ref b83), (.ref b82), (.ref b82)] st94 ?_
        refine Go.st (f' := (mkF m 151 #[iv n] [(.ref b94), (.ref b94), (.ref b83), (.ref b82), (.ref b82)])) (fun _ k => XS.dup X94.here hx rfl (D d5_150) rfl rfl k) ?_
        refine zic 152 0 X94 hx (D d5_151) ?_
        refine Go.st (f' := (mkF m 153 #[iv n] [(.double (FP.l2d 0)), (.int 0), (.ref b94), (.ref b94), (.ref b83), (.ref b82), (.ref b82)])) (fun _ k => XS.dconst0 X94.here hx rfl (D d5_152) (by decide +kernel) k) ?_
        obtain ⟨cl97, Ar97, q97, S97, Nx97, H97, G97⟩ := id V_b94
        have hin97 : ¬ ((0 : Int32) < 0 ∨ cl97.slots.size ≤ ((0 : Int32)).toNatClampNeg) := inb_of S97 ⟨by decide, by decide⟩
        obtain ⟨T98, h98, X98, e98, W98, st98⟩ := stD X94 hx hZ e94 Ar97 (j := (0 : Int32)) hin97 (g := (mkF m 153 #[iv n] [(.double (FP.l2d 0)), (.int 0), (.ref b94), (.ref b94), (.ref b83), (.ref b82), (.ref b82)])) rfl rfl (D d5_153)
        have V_b94_98 : Arv Z h98 b94 kc94 .double (4 : Int32) [(.double (FP.l2d 0)), (.double (FP.l2d 0)), (.double (FP.l2d 0)), (.double (FP.l2d 0))] (.double (FP.l2d 0)) := Arv.set Ar97 q97 S97 Nx97 H97 G97 rfl W98 0 rfl (Nat.le_of_ble_eq_true rfl)
        have N98 := Fr.snoc X98 N93 g_b94
        have O98 : Old Z n0 h98 := O94.wr W98 g_b94
        have K98 : Keep h0 h98 [] := K94.wr W98 (Or.inr sz_b94)
        refine zst 154 #[iv n] [(.ref b94), (.ref b83), (.ref b82), (.ref b82)] st98 ?_
        refine Go.st (f' := (mkF m 155 #[iv n] [(.ref b94), (.ref b94), (.ref b83), (.ref b82), (.ref b82)])) (fun _ k => XS.dup X98.here hx rfl (D d5_154) rfl rfl k) ?_
        refine zic 156 1 X98 hx (D d5_155) ?_
        refine Go.st (f' := (mkF m 157 #[iv n] [(.double (FP.l2d 0)), (.int 1), (.ref b94), (.ref b94), (.ref b83), (.ref b82), (.ref b82)])) (fun _ k => XS.dconst0 X98.here hx rfl (D d5_156) (by decide +kernel) k) ?_
        obtain ⟨cl99, Ar99, q99, S99, Nx99, H99, G99⟩ := id V_b94_98
        have hin99 : ¬ ((1 : Int32) < 0 ∨ cl99.slots.size ≤ ((1 : Int32)).toNatClampNeg) := inb_of S99 ⟨by decide, by decide⟩
        obtain ⟨T100, h100, X100, e100, W100, st100⟩ := stD X98 hx hZ e98 Ar99 (j := (1 : Int32)) hin99 (g := (mkF m 157 #[iv n] [(.double (FP.l2d 0)), (.int 1), (.ref b94), (.ref b94), (.ref b83), (.ref b82), (.ref b82)])) rfl rfl (D d5_157)
        have V_b94_100 : Arv Z h100 b94 kc94 .double (4 : Int32) [(.double (FP.l2d 0)), (.double (FP.l2d 0)), (.double (FP.l2d 0)), (.double (FP.l2d 0))] (.double (FP.l2d 0)) := Arv.set Ar99 q99 S99 Nx99 H99 G99 rfl W100 1 rfl (Nat.le_of_ble_eq_true rfl)
        have N100 := Fr.snoc X100 N98 g_b94
        have O100 : Old Z n0 h100 := O98.wr W100 g_b94
        have K100 : Keep h0 h100 [] := K98.wr W100 (Or.inr sz_b94)
        refine zst 158 #[iv n] [(.ref b94), (.ref b83), (.ref b82), (.ref b82)] st100 ?_
        refine Go.st (f' := (mkF m 159 #[iv n] [(.ref b94), (.ref b94), (.ref b83), (.ref b82), (.ref b82)])) (fun _ k => XS.dup X100.here hx rfl (D d5_158) rfl rfl k) ?_
        refine zic 160 2 X100 hx (D d5_159) ?_
        refine Go.st (f' := (mkF m 161 #[iv n] [(.double (FP.l2d 0)), (.int 2), (.ref b94), (.ref b94), (.ref b83), (.ref b82), (.ref b82)])) (fun _ k => XS.dconst0 X100.here hx rfl (D d5_160) (by decide +kernel) k) ?_
        obtain ⟨cl101, Ar101, q101, S101, Nx101, H101, G101⟩ := id V_b94_100
        have hin101 : ¬ ((2 : Int32) < 0 ∨ cl101.slots.size ≤ ((2 : Int32)).toNatClampNeg) := inb_of S101 ⟨by decide, by decide⟩
        obtain ⟨T102, h102, X102, e102, W102, st102⟩ := stD X100 hx hZ e100 Ar101 (j := (2 : Int32)) hin101 (g := (mkF m 161 #[iv n] [(.double (FP.l2d 0)), (.int 2), (.ref b94), (.ref b94), (.ref b83), (.ref b82), (.ref b82)])) rfl rfl (D d5_161)
        have V_b94_102 : Arv Z h102 b94 kc94 .double (4 : Int32) [(.double (FP.l2d 0)), (.double (FP.l2d 0)), (.double (FP.l2d 0)), (.double (FP.l2d 0))] (.double (FP.l2d 0)) := Arv.set Ar101 q101 S101 Nx101 H101 G101 rfl W102 2 rfl (Nat.le_of_ble_eq_true rfl)
        have N102 := Fr.snoc X102 N100 g_b94
        have O102 : Old Z n0 h102 := O100.wr W102 g_b94
        have K102 : Keep h0 h102 [] := K100.wr W102 (Or.inr sz_b94)
        refine zst 162 #[iv n] [(.ref b94), (.ref b83), (.ref b82), (.ref b82)] st102 ?_
        refine Go.st (f' := (mkF m 163 #[iv n] [(.ref b94), (.ref b94), (.ref b83), (.ref b82), (.ref b82)])) (fun _ k => XS.dup X102.here hx rfl (D d5_162) rfl rfl k) ?_
        refine zic 164 3 X102 hx (D d5_163) ?_
        refine Go.st (f' := (mkF m 165 #[iv n] [(.double (FP.l2d 0)), (.int 3), (.ref b94), (.ref b94), (.ref b83), (.ref b82), (.ref b82)])) (fun _ k => XS.dconst0 X102.here hx rfl (D d5_164) (by decide +kernel) k) ?_
        obtain ⟨cl103, Ar103, q103, S103, Nx103, H103, G103⟩ := id V_b94_102
        have hin103 : ¬ ((3 : Int32) < 0 ∨ cl103.slots.size ≤ ((3 : Int32)).toNatClampNeg) := inb_of S103 ⟨by decide, by decide⟩
        obtain ⟨T104, h104, X104, e104, W104, st104⟩ := stD X102 hx hZ e102 Ar103 (j := (3 : Int32)) hin103 (g := (mkF m 165 #[iv n] [(.double (FP.l2d 0)), (.int 3), (.ref b94), (.ref b94), (.ref b83), (.ref b82), (.ref b82)])) rfl rfl (D d5_165)
        have V_b94_104 : Arv Z h104 b94 kc94 .double (4 : Int32) [(.double (FP.l2d 0)), (.double (FP.l2d 0)), (.double (FP.l2d 0)), (.double (FP.l2d 0))] (.double (FP.l2d 0)) := Arv.set Ar103 q103 S103 Nx103 H103 G103 rfl W104 3 rfl (Nat.le_of_ble_eq_true rfl)
        have N104 := Fr.snoc X104 N102 g_b94
        have O104 : Old Z n0 h104 := O102.wr W104 g_b94
        have K104 : Keep h0 h104 [] := K102.wr W104 (Or.inr sz_b94)
        refine zst 166 #[iv n] [(.ref b94), (.ref b83), (.ref b82), (.ref b82)] st104 ?_
        refine Go.st (f' := (mkF m 167 #[iv n] [(.double (FP.l2d 1)), (.ref b94), (.ref b83), (.ref b82), (.ref b82)])) (fun _ k => XS.dconst1 X104.here hx rfl (D d5_166) (by decide +kernel) k) ?_
        have ft106 := (((((((((((F_frequency_b82.ext E83).other W85 (Or.inl ne_b82_b83)).other W87 (Or.inl ne_b82_b83)).other W89 (Or.inl ne_b82_b83)).other W91 (Or.inl ne_b82_b83)).other W93 (Or.inl ne_b82_b83)).ext E94).other W98 (Or.inl ne_b82_b94)).other W100 (Or.inl ne_b82_b94)).other W102 (Or.inl ne_b82_b94)).other W104 (Or.inl ne_b82_b94))
        have ft107 := (((((((((((A82.ext E83).wr W85).wr W87).wr W89).wr W91).wr W93).ext E94).wr W98).wr W100).wr W102).wr W104)
        have ft108 := (((((((((((F_segmentSeconds_b82.ext E83).other W85 (Or.inl ne_b82_b83)).other W87 (Or.inl ne_b82_b83)).other W89 (Or.inl ne_b82_b83)).other W91 (Or.inl ne_b82_b83)).other W93 (Or.inl ne_b82_b83)).ext E94).other W98 (Or.inl ne_b82_b94)).other W100 (Or.inl ne_b82_b94)).other W102 (Or.inl ne_b82_b94)).other W104 (Or.inl ne_b82_b94))
        have ft109 := (((((((((((F_stops_b82.ext E83).other W85 (Or.inl ne_b82_b83)).other W87 (Or.inl ne_b82_b83)).other W89 (Or.inl ne_b82_b83)).other W91 (Or.inl ne_b82_b83)).other W93 (Or.inl ne_b82_b83)).ext E94).other W98 (Or.inl ne_b82_b94)).other W100 (Or.inl ne_b82_b94)).other W102 (Or.inl ne_b82_b94)).other W104 (Or.inl ne_b82_b94))
        have ft110 := ((((((((((Ex83.wr W85).wr W87).wr W89).wr W91).wr W93).ext E94).wr W98).wr W100).wr W102).wr W104)
        have ft111 := ((((Ex94.wr W98).wr W100).wr W102).wr W104)
        have ft112 := (((((V_b83_93.ext E94).other W98 ne_b83_b94).other W100 ne_b83_b94).other W102 ne_b83_b94).other W104 ne_b83_b94)
        obtain ⟨_, _, ⟨T105, L105, kk105, nn105⟩, -, X105, ⟨Lc105, hQ105, lq105, yq105, zz105⟩, st105⟩ := X104.specialBack hx (y := mq2) rfl hown (mvT hZ (ww hw 35 rfl)) (mvT hZ (ww hw 36 rfl)) (mvT hZ (ww hw 37 rfl)) (by decide) (own_back (W := 1) (rmTL l Z a0 hw [] b82 b83 kc83 b94 kc94 (5 : Int32) (4 : Int32) [(.int (1 : Int32)), (.int (1 : Int32)), (.int (1 : Int32)), (.int (1 : Int32)), (.int (1 : Int32))] [(.double (FP.l2d 0)), (.double (FP.l2d 0)), (.double (FP.l2d 0)), (.double (FP.l2d 0))] h104 n0 O104 ⟨by decide, by decide⟩ ⟨by decide, by show _ = ((4 : Nat) : Int); decide⟩ (by simp [AllE]) (by simp [AllE]) (by decide) (by decide) (by decide) g_b82 ft107 (Fld.zeroD ft106) ft108 ft109 ft110 ft111 ft112 V_b94_104) hZ (ww hw 37 rfl) (ww hw 32 rfl) (by decide) (by decide)) (g := (mkF m 167 #[iv n] [(.double (FP.l2d 1)), (.ref b94), (.ref b83), (.ref b82), (.ref b82)])) rfl (by rw [hml]; rfl) (Steps.refl _) (a := b82) (argsL := [(.ref b83), (.ref b94), (.double (FP.l2d 1))]) (rest := [(.ref b82)]) (lenOf pd___I_DD_V rfl) rfl (by show 2 * 0 + _ ≤ _; exact Nat.le_of_eq rfl) (D d5_167) (fun _ _ => ⟨rfl, e104, (by decide : 3 + 2 ≤ _), (by decide : 12 + 9 ≤ _)⟩)
        dsimp only [Pt.U, Pt.locs, Pt.cells, Pt.slots] at X105 lq105 yq105 zz105 st105 hQ105
        subst lq105 yq105 zz105
        obtain ⟨rfl, Nq105, kq105, eq105, tt105, kt105, zq105, fq105, vq105⟩ := hQ105
        have N105 := Fr.app N104 Nq105
        have ft113 := (lteq (lteq (lteq (lteq (ltle ft95 E94.1) W98.size.symm) W100.size.symm) W102.size.symm) W104.size.symm)
        have ne_b82_tt105 : b82 ≠ tt105 := Nat.ne_of_lt (ltle ft113 zq105)
        have ft114 := (lteq (lteq (lteq (lteq (ltle ft96 E94.1) W98.size.symm) W100.size.symm) W102.size.symm) W104.size.symm)
        have ne_b83_tt105 : b83 ≠ tt105 := Nat.ne_of_lt (ltle ft114 zq105)
        have ft115 := (lteq (lteq (lteq (lteq lt_b94 W98.size.symm) W100.size.symm) W102.size.symm) W104.size.symm)
        have ne_b94_tt105 : b94 ≠ tt105 := Nat.ne_of_lt (ltle ft115 zq105)
        have g_tt105 : n0 ≤ tt105 := Nat.le_trans (O104.1 ▸ O104.2.1) zq105
        have sz_tt105 : h0.size ≤ tt105 := Nat.le_trans K104.1 zq105
        have O105 : Old Z n0 T105.heap := O104.keep kq105 (allS g_b82 all0)
        have K105 : Keep h0 T105.heap [] := K104.trans kq105 (allS (Or.inr sz_b82) all0)
        refine Go.tr (f' := (mkF m 170 #[iv n] [(.ref b82)])) st105 ?_
        refine Go.retV X105 hlk hx (t := (.object "com/example/kinetic_city/kineticcity/engine/TransitLine")) hret rfl (Or.inr (Or.inr (Or.inr (Or.inr ⟨rfl, rfl, rfl⟩)))) (D d5_170) rfl ?_ (by decide) (by decide)
        have en : n = (5 : Int32) := own_n5 h2 h5 cd1 cd24 cd51
        rw [en]
        exact ⟨b82, tt105, kt105, [(.int (1 : Int32)), (.int (1 : Int32)), (.int (1 : Int32)), (.int (1 : Int32)), (.int (1 : Int32))], rfl, N105, sz_b82, sz_tt105, K105, eq105, fq105, vq105, ⟨by decide, by decide⟩, by simp [AllE]⟩
theorem pn_java_util_AbstractCollection : plainName "java/util/AbstractCollection" = true := by first | (simp [plainName, overriddenIn]; done) | decide +kernel
theorem d3_0 : decode jdk_22_method_1_code 0 = .ok (.aload_n 0, 1) := by decide +kernel
theorem d3_1 : decode jdk_22_method_1_code 1 = .ok (.invokespecial 1, 3) := by decide +kernel
theorem d3_4 : decode jdk_22_method_1_code 4 = .ok (.return_, 1) := by decide +kernel
set_option maxRecDepth 65536 in
set_option maxHeartbeats 40000000 in
theorem rmAC (l : Launch) (Z : State) (a0 : Array Value) (hw : ∀ d ∈ tables_1, d.before a0 Z = true) (ws : List Jvm.Cond) (a1 : Addr) (h0 : Heap) (n0 : Nat) (O0 : Old Z n0 h0)  :
    Con l Z mq4 jdk_22_method_1_code 1 none ws ({ frames := 1, cells := 0, slots := 0, locals := 12 } : Room) #[(.ref a1)] h0 (fun v h L => v = none ∧ Fr n0 L ∧ h = h0) := by
  refine own_body (plainFor_of_name pn_java_util_AbstractCollection) ?_
  intro p e s m below meth c s₁ hx hby hml hZ hown hnm hlk hret X0 e0
  have N0 := Fr.nil n0
  have D := @hb _ _ hby
  refine Go.st (T' := s₁) (f' := (mkF m 0 #[rv a1] [])) (fun _ k => castTop (by first | (simp [entryFrame, mkF, argsToLocals, Value.category]; done) | rfl) k) ?_
  refine zan 1 X0 hx (D d3_0) rfl rfl ?_
  obtain ⟨T1, X1, e1, st1⟩ := initO X0 hx hZ hown (ww hw 18 rfl) (ww hw 19 rfl) (ww hw 20 rfl) e0 (g := (mkF m 1 #[rv a1] [(.ref a1)])) rfl (by rw [hml]; rfl) rfl (D d3_1) (by decide) (W := 0) (by show 2 * 0 + _ ≤ _; exact Nat.le_of_eq rfl) (by decide)
  refine zst 4 #[rv a1] [] st1 ?_
  refine Go.ret0 X1 hlk hx hret (D d3_4) e1 ?_ (by decide) (by decide)
  exact ⟨rfl, N0, rfl⟩
theorem pn_java_util_AbstractList : plainName "java/util/AbstractList" = true := by first | (simp [plainName, overriddenIn]; done) | decide +kernel
theorem d2_0 : decode jdk_39_method_1_code 0 = .ok (.aload_n 0, 1) := by decide +kernel
theorem d2_1 : decode jdk_39_method_1_code 1 = .ok (.invokespecial 1, 3) := by decide +kernel
theorem pd___V : parseMethodDescriptor "()V" = some ⟨[], none⟩ := by decide +kernel
theorem d2_4 : decode jdk_39_method_1_code 4 = .ok (.aload_n 0, 1) := by decide +kernel
theorem d2_5 : decode jdk_39_method_1_code 5 = .ok (.iconst 0, 1) := by decide +kernel
theorem d2_6 : decode jdk_39_method_1_code 6 = .ok (.putfield 7, 3) := by decide +kernel
theorem d2_9 : decode jdk_39_method_1_code 9 = .ok (.return_, 1) := by decide +kernel
set_option maxRecDepth 65536 in
set_option maxHeartbeats 40000000 in
theorem rmAB (l : Launch) (Z : State) (a0 : Array Value) (hw : ∀ d ∈ tables_1, d.before a0 Z = true) (ws : List Jvm.Cond) (a1 : Addr) (h0 : Heap) (n0 : Nat) (O0 : Old Z n0 h0) (g_a1 : n0 ≤ a1) (E_a1 : Exa Z h0 a1 "java/util/ArrayList") (F_a1_modCount : Fld Z h0 a1 "java/util/AbstractList" "modCount" "I" (.int 0)) (F_a1_elementData : Fld Z h0 a1 "java/util/ArrayList" "elementData" "[Ljava/lang/Object;" .null) (F_a1_size : Fld Z h0 a1 "java/util/ArrayList" "size" "I" (.int 0)) :
    Con l Z mq5 jdk_39_method_1_code 1 none ws ({ frames := 2, cells := 0, slots := 0, locals := 24 } : Room) #[(.ref a1)] h0 (fun v h L => v = none ∧ Fr n0 L ∧ Keep h0 h [a1] ∧ Exa Z h a1 "java/util/ArrayList" ∧ Fld Z h a1 "java/util/AbstractList" "modCount" "I" (.int 0) ∧ Fld Z h a1 "java/util/ArrayList" "elementData" "[Ljava/lang/Object;" .null ∧ Fld Z h a1 "java/util/ArrayList" "size" "I" (.int 0)) := by
  refine own_body (plainFor_of_name pn_java_util_AbstractList) ?_
  intro p e s m below meth c s₁ hx hby hml hZ hown hnm hlk hret X0 e0
  have N0 := Fr.nil n0
  have D := @hb _ _ hby
  have K0 : Keep h0 h0 [a1] := Keep.refl _ _
  refine Go.st (T' := s₁) (f' := (mkF m 0 #[rv a1] [])) (fun _ k => castTop (by first | (simp [entryFrame, mkF, argsToLocals, Value.category]; done) | rfl) k) ?_
  have lt_a1 := E_a1.lt
  refine zan 1 X0 hx (D d2_0) rfl rfl ?_
  obtain ⟨_, _, ⟨T1, L1, kk1, nn1⟩, -, X1, ⟨Lc1, hQ1, lq1, yq1, zz1⟩, st1⟩ := X0.specialBack hx (y := mq4) rfl hown (mvT hZ (ww hw 12 rfl)) (mvT hZ (ww hw 13 rfl)) (mvT hZ (ww hw 17 rfl)) (by decide) (own_back (W := 0) (rmAC l Z a0 hw [] a1 h0 n0 O0) hZ (ww hw 17 rfl) (ww hw 16 rfl) (by decide) (by decide)) (g := (mkF m 1 #[rv a1] [(.ref a1)])) rfl (by rw [hml]; rfl) (Steps.refl _) (a := a1) (argsL := []) (rest := []) (lenOf pd___V rfl) rfl (by show 2 * 0 + _ ≤ _; exact Nat.le_of_eq rfl) (D d2_1) (fun _ _ => ⟨rfl, e0, (by decide : 0 + 0 ≤ _), (by decide : 0 + 0 ≤ _)⟩)
  dsimp only [Pt.U, Pt.locs, Pt.cells, Pt.slots] at X1 lq1 yq1 zz1 st1 hQ1
  subst lq1 yq1 zz1
  obtain ⟨rfl, Nq1, kq1⟩ := hQ1
  have N1 := Fr.app N0 Nq1
  refine Go.tr (f' := (mkF m 4 #[rv a1] [])) st1 ?_
  refine zan 5 X1 hx (D d2_4) rfl rfl ?_
  refine zic 6 0 X1 hx (D d2_5) ?_
  obtain ⟨T2, h2, X2, e2, W2, st2⟩ := putF X1 hx hZ hown (host := "") (Or.inl (ww hw 21 rfl)) Via.refl kq1 F_a1_modCount E_a1 (Or.inl (ww hw 22 rfl)) (ww hw 1 rfl) (ty := .int) (by decide) rfl rfl (g := (mkF m 6 #[rv a1] [(.int 0), (.ref a1)])) rfl rfl (D d2_6)
  have N2 := Fr.snoc X2 N1 g_a1
  have O2 : Old Z n0 h2 := O0.wr W2 g_a1
  have K2 : Keep h0 h2 [a1] := K0.wr W2 (Or.inl (List.mem_of_getElem? (i := 0) rfl))
  have Fw2 := F_a1_modCount.same W2
  refine zst 9 #[rv a1] [] st2 ?_
  refine Go.ret0 X2 hlk hx hret (D d2_9) e2 ?_ (by decide) (by decide)
  have ft3 := (E_a1.wr W2)
  have ft4 := (F_a1_elementData.other W2 (Or.inr (slot_ne (Or.inl (ww hw 25 rfl)) (Or.inl (ww hw 22 rfl)) (by decide) (t := (.array (.object "java/lang/Object"))) (t' := .int) (by decide) (by decide))))
  have ft5 := (F_a1_size.other W2 (Or.inr (slot_ne (Or.inl (ww hw 77 rfl)) (Or.inl (ww hw 22 rfl)) (by decide) (t := .int) (t' := .int) (by decide) (by decide))))
  exact ⟨rfl, N2, K2, ft3, Fw2, ft4, ft5⟩
theorem pn_java_util_ArrayList : plainName "java/util/ArrayList" = true := by first | (simp [plainName, overriddenIn]; done) | decide +kernel
theorem d1_0 : decode jdk_38_method_2_code 0 = .ok (.aload_n 0, 1) := by decide +kernel
theorem d1_1 : decode jdk_38_method_2_code 1 = .ok (.invokespecial 1, 3) := by decide +kernel
theorem d1_4 : decode jdk_38_method_2_code 4 = .ok (.aload_n 0, 1) := by decide +kernel
theorem d1_5 : decode jdk_38_method_2_code 5 = .ok (.getstatic 39, 3) := by decide +kernel
theorem d1_8 : decode jdk_38_method_2_code 8 = .ok (.putfield 9, 3) := by decide +kernel
theorem d1_11 : decode jdk_38_method_2_code 11 = .ok (.return_, 1) := by decide +kernel
set_option maxRecDepth 65536 in
set_option maxHeartbeats 40000000 in
theorem rmAL (l : Launch) (Z : State) (a0 : Array Value) (hw : ∀ d ∈ tables_1, d.before a0 Z = true) (ws : List Jvm.Cond) (a1 : Addr) (mir_0 : Addr) (mir_1 : Addr) (mir_2 : Addr) (mir_3 : Addr) (wE : Addr) (wD : Addr) (kE : ClassId) (kD : ClassId) (h0 : Heap) (n0 : Nat) (O0 : Old Z n0 h0) (g_a1 : n0 ≤ a1) (E_a1 : Exa Z h0 a1 "java/util/ArrayList") (F_a1_modCount : Fld Z h0 a1 "java/util/AbstractList" "modCount" "I" (.int 0)) (F_a1_elementData : Fld Z h0 a1 "java/util/ArrayList" "elementData" "[Ljava/lang/Object;" .null) (F_a1_size : Fld Z h0 a1 "java/util/ArrayList" "size" "I" (.int 0)) (WW : World1 Z mir_0 mir_1 mir_2 mir_3 wE wD kE kD) :
    Con l Z mq6 jdk_38_method_2_code 1 none ws ({ frames := 3, cells := 0, slots := 0, locals := 36 } : Room) #[(.ref a1)] h0 (fun v h L => v = none ∧ Fr n0 L ∧ Keep h0 h [a1] ∧ Exa Z h a1 "java/util/ArrayList" ∧ Fld Z h a1 "java/util/AbstractList" "modCount" "I" (.int 0) ∧ Fld Z h a1 "java/util/ArrayList" "elementData" "[Ljava/lang/Object;" (.ref wD) ∧ Fld Z h a1 "java/util/ArrayList" "size" "I" (.int 0)) := by
  refine own_body (plainFor_of_name pn_java_util_ArrayList) ?_
  intro p e s m below meth c s₁ hx hby hml hZ hown hnm hlk hret X0 e0
  have N0 := Fr.nil n0
  have D := @hb _ _ hby
  have K0 : Keep h0 h0 [a1] := Keep.refl _ _
  refine Go.st (T' := s₁) (f' := (mkF m 0 #[rv a1] [])) (fun _ k => castTop (by first | (simp [entryFrame, mkF, argsToLocals, Value.category]; done) | rfl) k) ?_
  have ⟨M_0, M_1, M_2, M_3, S_wE, E_wE, S_wD, E_wD, V_wE, V_wD⟩ := WW
  have lt_wE := E_wE.lt
  have lt_wD := E_wD.lt
  have lt_a1 := E_a1.lt
  have ne_wE_a1 : wE ≠ a1 := O0.ne lt_wE g_a1
  have ne_wD_a1 : wD ≠ a1 := O0.ne lt_wD g_a1
  refine zan 1 X0 hx (D d1_0) rfl rfl ?_
  obtain ⟨_, _, ⟨T1, L1, kk1, nn1⟩, -, X1, ⟨Lc1, hQ1, lq1, yq1, zz1⟩, st1⟩ := X0.specialBack hx (y := mq5) rfl hown (mvT hZ (ww hw 6 rfl)) (mvT hZ (ww hw 7 rfl)) (mvT hZ (ww hw 11 rfl)) (by decide) (own_back (W := 0) (rmAB l Z a0 hw [] a1 h0 n0 O0 g_a1 E_a1 F_a1_modCount F_a1_elementData F_a1_size ) hZ (ww hw 11 rfl) (ww hw 10 rfl) (by decide) (by decide)) (g := (mkF m 1 #[rv a1] [(.ref a1)])) rfl (by rw [hml]; rfl) (Steps.refl _) (a := a1) (argsL := []) (rest := []) (lenOf pd___V rfl) rfl (by show 2 * 0 + _ ≤ _; exact Nat.le_of_eq rfl) (D d1_1) (fun _ _ => ⟨rfl, e0, (by decide : 0 + 0 ≤ _), (by decide : 0 + 0 ≤ _)⟩)
  dsimp only [Pt.U, Pt.locs, Pt.cells, Pt.slots] at X1 lq1 yq1 zz1 st1 hQ1
  subst lq1 yq1 zz1
  obtain ⟨rfl, Nq1, kq1, eq1, fq1_0, fq1_1, fq1_2⟩ := hQ1
  have N1 := Fr.app N0 Nq1
  have O1 : Old Z n0 T1.heap := O0.keep kq1 (allS g_a1 all0)
  have K1 : Keep h0 T1.heap [a1] := K0.trans kq1 (allS (Or.inl (List.mem_of_getElem? (i := 0) rfl)) all0)
  refine Go.tr (f' := (mkF m 4 #[rv a1] [])) st1 ?_
  refine zan 5 X1 hx (D d1_4) rfl rfl ?_
  obtain ⟨T2, X2, e2, st2⟩ := getS2 X1 hx hZ hown (host := "") (Or.inl (ww hw 23 rfl)) Via.refl rfl (S_wD.ext O1.2) (g := (mkF m 5 #[rv a1] [(.ref a1)])) rfl (D d1_5)
  refine zst 8 #[rv a1] [(.ref wD), (.ref a1)] st2 ?_
  obtain ⟨T3, h3, X3, e3, W3, st3⟩ := putF X2 hx hZ hown (host := "") (Or.inl (ww hw 24 rfl)) Via.refl e2 fq1_1 eq1 (Or.inl (ww hw 25 rfl)) (ww hw 1 rfl) (ty := (.array (.object "java/lang/Object"))) (by decide) rfl rfl (g := (mkF m 8 #[rv a1] [(.ref wD), (.ref a1)])) rfl rfl (D d1_8)
  have N3 := Fr.snoc X3 N1 g_a1
  have O3 : Old Z n0 h3 := O1.wr W3 g_a1
  have K3 : Keep h0 h3 [a1] := K1.wr W3 (Or.inl (List.mem_of_getElem? (i := 0) rfl))
  have Fw3 := fq1_1.same W3
  refine zst 11 #[rv a1] [] st3 ?_
  refine Go.ret0 X3 hlk hx hret (D d1_11) e3 ?_ (by decide) (by decide)
  have ft4 := (eq1.wr W3)
  have ft5 := (fq1_0.other W3 (Or.inr (slot_ne (Or.inl (ww hw 22 rfl)) (Or.inl (ww hw 25 rfl)) (by decide) (t := .int) (t' := (.array (.object "java/lang/Object"))) (by decide) (by decide))))
  have ft6 := (fq1_2.other W3 (Or.inr (slot_ne (Or.inl (ww hw 77 rfl)) (Or.inl (ww hw 25 rfl)) (by decide) (t := .int) (t' := (.array (.object "java/lang/Object"))) (by decide) (by decide))))
  exact ⟨rfl, N3, K3, ft4, ft5, Fw3, ft6⟩
theorem d13_0 : decode jdk_29_method_65_code 0 = .ok (.iload_n 0, 1) := by decide +kernel
theorem d13_1 : decode jdk_29_method_65_code 1 = .ok (.iload_n 1, 1) := by decide +kernel
theorem d13_2 : decode jdk_29_method_65_code 2 = .ok (.if_icmp .lt 7, 3) := by decide +kernel
theorem d13_5 : decode jdk_29_method_65_code 5 = .ok (.iload_n 0, 1) := by decide +kernel
theorem d13_6 : decode jdk_29_method_65_code 6 = .ok (.goto 4, 3) := by decide +kernel
theorem d13_10 : decode jdk_29_method_65_code 10 = .ok (.ireturn, 1) := by decide +kernel
set_option maxRecDepth 65536 in
set_option maxHeartbeats 40000000 in
theorem rmMx (l : Launch) (Z : State) (a0 : Array Value) (hw : ∀ d ∈ tables_1, d.before a0 Z = true) (ws : List Jvm.Cond)  (h0 : Heap) (n0 : Nat) (O0 : Old Z n0 h0)  :
    Con l Z mq7 jdk_29_method_65_code 2 (some .int) ws ({ frames := 0, cells := 0, slots := 0, locals := 0 } : Room) #[(.int 10), (.int 1)] h0 (fun v h L => v = some (.int 10) ∧ Fr n0 L ∧ h = h0) := by
  refine own_body (Jvm.Free.JP.mathPlain rfl (by decide +kernel)) ?_
  intro p e s m below meth c s₁ hx hby hml hZ hown hnm hlk hret X0 e0
  have N0 := Fr.nil n0
  have D := @hb _ _ hby
  refine Go.st (T' := s₁) (f' := (mkF m 0 #[iv 10, iv 1] [])) (fun _ k => castTop (by first | (simp [entryFrame, mkF, argsToLocals, Value.category]; done) | rfl) k) ?_
  refine zin 1 X0 hx (D d13_0) rfl ?_
  refine zin 2 X0 hx (D d13_1) rfl ?_
  refine zcn 5 X0 hx (D d13_2) (by decide) ?_
  refine zin 6 X0 hx (D d13_5) rfl ?_
  refine zgo 10 X0 hx (D d13_6) ?_
  refine Go.retV X0 hlk hx (t := .int) hret rfl (Or.inl ⟨rfl, Or.inl rfl, _, rfl⟩) (D d13_10) e0 ?_ (by decide) (by decide)
  exact ⟨rfl, N0, rfl⟩
theorem d26_0 : decode jdk_29_method_69_code 0 = .ok (.iload_n 0, 1) := by decide +kernel
theorem d26_1 : decode jdk_29_method_69_code 1 = .ok (.iload_n 1, 1) := by decide +kernel
theorem d26_2 : decode jdk_29_method_69_code 2 = .ok (.if_icmp .gt 7, 3) := by decide +kernel
theorem d26_9 : decode jdk_29_method_69_code 9 = .ok (.iload_n 1, 1) := by decide +kernel
theorem d26_10 : decode jdk_29_method_69_code 10 = .ok (.ireturn, 1) := by decide +kernel
set_option maxRecDepth 65536 in
set_option maxHeartbeats 40000000 in
theorem rmMn (l : Launch) (Z : State) (a0 : Array Value) (hw : ∀ d ∈ tables_1, d.before a0 Z = true) (ws : List Jvm.Cond)  (h0 : Heap) (n0 : Nat) (O0 : Old Z n0 h0)  :
    Con l Z mq8 jdk_29_method_69_code 2 (some .int) ws ({ frames := 0, cells := 0, slots := 0, locals := 0 } : Room) #[(.int 10), (.int 3)] h0 (fun v h L => v = some (.int 3) ∧ Fr n0 L ∧ h = h0) := by
  refine own_body (Jvm.Free.JP.mathPlain rfl (by decide +kernel)) ?_
  intro p e s m below meth c s₁ hx hby hml hZ hown hnm hlk hret X0 e0
  have N0 := Fr.nil n0
  have D := @hb _ _ hby
  refine Go.st (T' := s₁) (f' := (mkF m 0 #[iv 10, iv 3] [])) (fun _ k => castTop (by first | (simp [entryFrame, mkF, argsToLocals, Value.category]; done) | rfl) k) ?_
  refine zin 1 X0 hx (D d26_0) rfl ?_
  refine zin 2 X0 hx (D d26_1) rfl ?_
  refine zcy 9 X0 hx (D d26_2) (by decide) ?_
  refine zin 10 X0 hx (D d26_9) rfl ?_
  refine Go.retV X0 hlk hx (t := .int) hret rfl (Or.inl ⟨rfl, Or.inl rfl, _, rfl⟩) (D d26_10) e0 ?_ (by decide) (by decide)
  exact ⟨rfl, N0, rfl⟩
theorem d12_0 : decode jdk_38_method_6_code 0 = .ok (.aload_n 0, 1) := by decide +kernel
theorem d12_1 : decode jdk_38_method_6_code 1 = .ok (.getfield 9, 3) := by decide +kernel
theorem d12_4 : decode jdk_38_method_6_code 4 = .ok (.arraylength, 1) := by decide +kernel
theorem d12_5 : decode jdk_38_method_6_code 5 = .ok (.istore_n 2, 1) := by decide +kernel
theorem d12_6 : decode jdk_38_method_6_code 6 = .ok (.iload_n 2, 1) := by decide +kernel
theorem d12_7 : decode jdk_38_method_6_code 7 = .ok (.ifCond .gt 13, 3) := by decide +kernel
theorem d12_10 : decode jdk_38_method_6_code 10 = .ok (.aload_n 0, 1) := by decide +kernel
theorem d12_11 : decode jdk_38_method_6_code 11 = .ok (.getfield 9, 3) := by decide +kernel
theorem d12_14 : decode jdk_38_method_6_code 14 = .ok (.getstatic 39, 3) := by decide +kernel
theorem d12_17 : decode jdk_38_method_6_code 17 = .ok (.if_acmp .eq 28, 3) := by decide +kernel
theorem d12_45 : decode jdk_38_method_6_code 45 = .ok (.aload_n 0, 1) := by decide +kernel
theorem d12_46 : decode jdk_38_method_6_code 46 = .ok (.bipush 10, 2) := by decide +kernel
theorem d12_48 : decode jdk_38_method_6_code 48 = .ok (.iload_n 1, 1) := by decide +kernel
theorem d12_49 : decode jdk_38_method_6_code 49 = .ok (.invokestatic 79, 3) := by decide +kernel
theorem pd__II_I : parseMethodDescriptor "(II)I" = some ⟨[.int, .int], some .int⟩ := by decide +kernel
theorem d12_52 : decode jdk_38_method_6_code 52 = .ok (.anewarray 7, 3) := by decide +kernel
theorem d12_55 : decode jdk_38_method_6_code 55 = .ok (.dup_x1, 1) := by decide +kernel
theorem d12_56 : decode jdk_38_method_6_code 56 = .ok (.putfield 9, 3) := by decide +kernel
theorem d12_59 : decode jdk_38_method_6_code 59 = .ok (.areturn, 1) := by decide +kernel
set_option maxRecDepth 65536 in
set_option maxHeartbeats 40000000 in
theorem rmG1 (l : Launch) (Z : State) (a0 : Array Value) (hw : ∀ d ∈ tables_1, d.before a0 Z = true) (ws : List Jvm.Cond) (a2 : Addr) (mir_0 : Addr) (mir_1 : Addr) (mir_2 : Addr) (mir_3 : Addr) (wE : Addr) (wD : Addr) (kE : ClassId) (kD : ClassId) (h0 : Heap) (n0 : Nat) (O0 : Old Z n0 h0) (g_a2 : n0 ≤ a2) (E_a2 : Exa Z h0 a2 "java/util/ArrayList") (F_a2_modCount : Fld Z h0 a2 "java/util/AbstractList" "modCount" "I" (.int 1)) (F_a2_elementData : Fld Z h0 a2 "java/util/ArrayList" "elementData" "[Ljava/lang/Object;" (.ref wD)) (F_a2_size : Fld Z h0 a2 "java/util/ArrayList" "size" "I" (.int 0)) (WW : World1 Z mir_0 mir_1 mir_2 mir_3 wE wD kE kD) :
    Con l Z mq9 jdk_38_method_6_code 4 (some (.array (.object "java/lang/Object"))) ws ({ frames := 1, cells := 1, slots := 10, locals := 14 } : Room) #[(.ref a2), (.int 1)] h0 (fun v h L => ∃ (ed : Addr) (ke : ClassId), v = some (.ref ed) ∧ Fr n0 L ∧ h0.size ≤ ed ∧ Keep h0 h [a2] ∧ Exa Z h a2 "java/util/ArrayList" ∧ Fld Z h a2 "java/util/AbstractList" "modCount" "I" (.int 1) ∧ Fld Z h a2 "java/util/ArrayList" "elementData" "[Ljava/lang/Object;" (.ref ed) ∧ Fld Z h a2 "java/util/ArrayList" "size" "I" (.int 0) ∧ Ovr Z ke "java/lang/Object" ∧ Exa Z h ed "[Ljava/lang/Object;" ∧ Arv Z h ed ke (.object "java/lang/Object") (10 : Int32) [.null, .null, .null] .null) := by
  refine own_body (plainFor_of_name pn_java_util_ArrayList) ?_
  intro p e s m below meth c s₁ hx hby hml hZ hown hnm hlk hret X0 e0
  have N0 := Fr.nil n0
  have D := @hb _ _ hby
  have K0 : Keep h0 h0 [a2] := Keep.refl _ _
  refine Go.st (T' := s₁) (f' := (mkF m 0 #[rv a2, iv 1, .unset, .unset] [])) (fun _ k => castTop (by first | (simp [entryFrame, mkF, argsToLocals, Value.category]; done) | rfl) k) ?_
  have ⟨M_0, M_1, M_2, M_3, S_wE, E_wE, S_wD, E_wD, V_wE, V_wD⟩ := WW
  have lt_wE := E_wE.lt
  have lt_wD := E_wD.lt
  have lt_a2 := E_a2.lt
  have ne_wE_a2 : wE ≠ a2 := O0.ne lt_wE g_a2
  have ne_wD_a2 : wD ≠ a2 := O0.ne lt_wD g_a2
  refine zan 1 X0 hx (D d12_0) rfl rfl ?_
  refine zgf 4 X0 hx hZ hown (host := "") (Or.inl (ww hw 24 rfl)) Via.refl e0 F_a2_elementData (D d12_1) fun T1 X1 e1 => ?_
  obtain ⟨cl2, Ar2, -, S2, Nx2, -, -⟩ := id (V_wD.ext O0.2)
  refine Go.st (T' := T1) (f' := (mkF m 5 #[rv a2, iv 1, .unset, .unset] [(.int 0)])) (fun _ k => X1.arraylength hx (by rw [e1]; exact Ar2.1) (State.isArrayOf_alike hZ.alike Ar2.2.1) (g := (mkF m 4 #[rv a2, iv 1, .unset, .unset] [(.ref wD)])) rfl rfl (D d12_4) _ (by rw [len_of S2 Nx2]; exact k)) ?_
  refine zsn 6 #[rv a2, iv 1, iv 0, .unset] X1 hx (D d12_5) ?_
  refine zin 7 X1 hx (D d12_6) rfl ?_
  refine zfn 10 X1 hx (D d12_7) (by decide) ?_
  refine zan 11 X1 hx (D d12_10) rfl rfl ?_
  refine zgf 14 X1 hx hZ hown (host := "") (Or.inl (ww hw 24 rfl)) Via.refl e1 F_a2_elementData (D d12_11) fun T3 X3 e3 => ?_
  obtain ⟨T4, X4, e4, st4⟩ := getS2 X3 hx hZ hown (host := "") (Or.inl (ww hw 23 rfl)) Via.refl e3 (S_wD.ext O0.2) (g := (mkF m 14 #[rv a2, iv 1, iv 0, .unset] [(.ref wD)])) rfl (D d12_14)
  refine zst 17 #[rv a2, iv 1, iv 0, .unset] [(.ref wD), (.ref wD)] st4 ?_
  refine Go.st (f' := (mkF m 45 #[rv a2, iv 1, iv 0, .unset] [])) (fun _ k => Jvm.RoadKit.acmp (g := (mkF m 17 #[rv a2, iv 1, iv 0, .unset] [(.ref wD), (.ref wD)])) X4 hx rfl rfl rfl (pc0 := 17) (pc' := 45) (same := true) rfl (D d12_17) rfl (decide_eq_true rfl) (by decide) (by decide) k) ?_
  refine zan 46 X4 hx (D d12_45) rfl rfl ?_
  refine zbp 48 10 X4 hx (D d12_46) ?_
  refine zin 49 X4 hx (D d12_48) rfl ?_
  refine gS 52 1 0 0 X4 N0 hx hZ (y := mq7) hown hml (ww hw 93 rfl) (ww hw 94 rfl) (ww hw 45 rfl) (rmMx l Z a0 hw [] h0 n0 O0) (ww hw 95 rfl) e4 [(.int 10), (.int 1)] [(.ref a2)] (lenOf pd__II_I rfl) (D d12_49) ?_
  rintro T5 L5 M5 _ X5 uu5 ⟨rfl, Nq5, kq5⟩
  have N5 := uu5 Nq5
  refine zsk [(.int 10), (.ref a2)] ?_
  obtain ⟨T6, h6, kc6, X6, e6, E6, A6, Ex6, Ov6, st6⟩ := newRE X5 hx hZ hown (ww hw 96 rfl) (ww hw 97 rfl) kq5 (g := (mkF m 52 #[rv a2, iv 1, iv 0, .unset] [(.int 10), (.ref a2)])) rfl (D d12_52) rfl (by decide) (cap := 10) (by decide) (by decide) (by decide) (by decide) (ad := "[Ljava/lang/Object;") (by decide +kernel)
  obtain ⟨b6, g6⟩ : ∃ z, z = h0.size := ⟨_, rfl⟩
  rw [← g6] at A6 Ex6 st6
  have ne_a2_b6 : a2 ≠ b6 := Nat.ne_of_lt (lteq lt_a2 g6.symm)
  have ne_wE_b6 : wE ≠ b6 := Nat.ne_of_lt (ltle lt_wE (Nat.le_trans O0.2.1 (Nat.le_of_eq g6.symm)))
  have ne_wD_b6 : wD ≠ b6 := Nat.ne_of_lt (ltle lt_wD (Nat.le_trans O0.2.1 (Nat.le_of_eq g6.symm)))
  have g_b6 : n0 ≤ b6 := Nat.le_trans (O0.1 ▸ O0.2.1) (Nat.le_of_eq g6.symm)
  have O6 : Old Z n0 h6 := O0.ext E6
  have sz_b6 : h0.size ≤ b6 := Nat.le_trans K0.1 (Nat.le_of_eq g6.symm)
  have K6 : Keep h0 h6 [a2] := K0.ext E6
  have V_b6 : Arv Z h6 b6 kc6 (.object "java/lang/Object") (10 : Int32) [.null, .null, .null] .null := (Arv.new A6 (by decide)).pad (pad_rep [] .null 3)
  have lt_b6 := V_b6.lt
  refine zst 55 #[rv a2, iv 1, iv 0, .unset] [(.ref b6), (.ref a2)] st6 ?_
  refine Go.st (f' := (mkF m 56 #[rv a2, iv 1, iv 0, .unset] [(.ref b6), (.ref a2), (.ref b6)])) (fun _ k => XS.dupX1 X6.here hx rfl (D d12_55) rfl rfl rfl k) ?_
  have ft7 := (E_a2.ext E6)
  have ft8 := (F_a2_elementData.ext E6)
  obtain ⟨T9, h9, X9, e9, W9, st9⟩ := putF X6 hx hZ hown (host := "") (Or.inl (ww hw 24 rfl)) Via.refl e6 ft8 ft7 (Or.inl (ww hw 25 rfl)) (ww hw 1 rfl) (ty := (.array (.object "java/lang/Object"))) (by decide) rfl rfl (g := (mkF m 56 #[rv a2, iv 1, iv 0, .unset] [(.ref b6), (.ref a2), (.ref b6)])) rfl rfl (D d12_56)
  have N9 := Fr.snoc X9 N5 g_a2
  have O9 : Old Z n0 h9 := O6.wr W9 g_a2
  have K9 : Keep h0 h9 [a2] := K6.wr W9 (Or.inl (List.mem_of_getElem? (i := 0) rfl))
  have Fw9 := ft8.same W9
  refine zst 59 #[rv a2, iv 1, iv 0, .unset] [(.ref b6)] st9 ?_
  refine Go.retV X9 hlk hx (t := (.array (.object "java/lang/Object"))) hret rfl (Or.inr (Or.inr (Or.inr (Or.inr ⟨rfl, rfl, rfl⟩)))) (D d12_59) e9 ?_ (by decide) (by decide)
  have ft10 := (ft7.wr W9)
  have ft11 := ((F_a2_modCount.ext E6).other W9 (Or.inr (slot_ne (Or.inl (ww hw 22 rfl)) (Or.inl (ww hw 25 rfl)) (by decide) (t := .int) (t' := (.array (.object "java/lang/Object"))) (by decide) (by decide))))
  have ft12 := ((F_a2_size.ext E6).other W9 (Or.inr (slot_ne (Or.inl (ww hw 77 rfl)) (Or.inl (ww hw 25 rfl)) (by decide) (t := .int) (t' := (.array (.object "java/lang/Object"))) (by decide) (by decide))))
  have ft13 := (Ex6.wr W9)
  have ft14 := (V_b6.other W9 (Ne.symm ne_a2_b6))
  exact ⟨b6, kc6, rfl, N9, sz_b6, K9, ft10, ft11, Fw9, ft12, Ov6, ft13, ft14⟩
theorem d11_0 : decode jdk_38_method_7_code 0 = .ok (.aload_n 0, 1) := by decide +kernel
theorem d11_1 : decode jdk_38_method_7_code 1 = .ok (.aload_n 0, 1) := by decide +kernel
theorem d11_2 : decode jdk_38_method_7_code 2 = .ok (.getfield 48, 3) := by decide +kernel
theorem d11_5 : decode jdk_38_method_7_code 5 = .ok (.iconst 1, 1) := by decide +kernel
theorem d11_6 : decode jdk_38_method_7_code 6 = .ok (.iadd, 1) := by decide +kernel
theorem d11_7 : decode jdk_38_method_7_code 7 = .ok (.invokevirtual 69, 3) := by decide +kernel
theorem pd__I__Ljava_lang_Object_ : parseMethodDescriptor "(I)[Ljava/lang/Object;" = some ⟨[.int], some (.array (.object "java/lang/Object"))⟩ := by decide +kernel
theorem d11_10 : decode jdk_38_method_7_code 10 = .ok (.areturn, 1) := by decide +kernel
set_option maxRecDepth 65536 in
set_option maxHeartbeats 40000000 in
theorem rmG0 (l : Launch) (Z : State) (a0 : Array Value) (hw : ∀ d ∈ tables_1, d.before a0 Z = true) (ws : List Jvm.Cond) (a2 : Addr) (mir_0 : Addr) (mir_1 : Addr) (mir_2 : Addr) (mir_3 : Addr) (wE : Addr) (wD : Addr) (kE : ClassId) (kD : ClassId) (h0 : Heap) (n0 : Nat) (O0 : Old Z n0 h0) (g_a2 : n0 ≤ a2) (E_a2 : Exa Z h0 a2 "java/util/ArrayList") (F_a2_modCount : Fld Z h0 a2 "java/util/AbstractList" "modCount" "I" (.int 1)) (F_a2_elementData : Fld Z h0 a2 "java/util/ArrayList" "elementData" "[Ljava/lang/Object;" (.ref wD)) (F_a2_size : Fld Z h0 a2 "java/util/ArrayList" "size" "I" (.int 0)) (WW : World1 Z mir_0 mir_1 mir_2 mir_3 wE wD kE kD) :
    Con l Z mq10 jdk_38_method_7_code 1 (some (.array (.object "java/lang/Object"))) ws ({ frames := 2, cells := 1, slots := 10, locals := 29 } : Room) #[(.ref a2)] h0 (fun v h L => ∃ (ed : Addr) (ke : ClassId), v = some (.ref ed) ∧ Fr n0 L ∧ h0.size ≤ ed ∧ Keep h0 h [a2] ∧ Exa Z h a2 "java/util/ArrayList" ∧ Fld Z h a2 "java/util/AbstractList" "modCount" "I" (.int 1) ∧ Fld Z h a2 "java/util/ArrayList" "elementData" "[Ljava/lang/Object;" (.ref ed) ∧ Fld Z h a2 "java/util/ArrayList" "size" "I" (.int 0) ∧ Ovr Z ke "java/lang/Object" ∧ Exa Z h ed "[Ljava/lang/Object;" ∧ Arv Z h ed ke (.object "java/lang/Object") (10 : Int32) [.null, .null, .null] .null) := by
  refine own_body (plainFor_of_name pn_java_util_ArrayList) ?_
  intro p e s m below meth c s₁ hx hby hml hZ hown hnm hlk hret X0 e0
  have N0 := Fr.nil n0
  have D := @hb _ _ hby
  have K0 : Keep h0 h0 [a2] := Keep.refl _ _
  refine Go.st (T' := s₁) (f' := (mkF m 0 #[rv a2] [])) (fun _ k => castTop (by first | (simp [entryFrame, mkF, argsToLocals, Value.category]; done) | rfl) k) ?_
  have ⟨M_0, M_1, M_2, M_3, S_wE, E_wE, S_wD, E_wD, V_wE, V_wD⟩ := WW
  have lt_wE := E_wE.lt
  have lt_wD := E_wD.lt
  have lt_a2 := E_a2.lt
  have ne_wE_a2 : wE ≠ a2 := O0.ne lt_wE g_a2
  have ne_wD_a2 : wD ≠ a2 := O0.ne lt_wD g_a2
  refine zan 1 X0 hx (D d11_0) rfl rfl ?_
  refine zan 2 X0 hx (D d11_1) rfl rfl ?_
  refine zgf 5 X0 hx hZ hown (host := "") (Or.inl (ww hw 76 rfl)) Via.refl e0 F_a2_size (D d11_2) fun T1 X1 e1 => ?_
  refine zic 6 1 X1 hx (D d11_5) ?_
  refine Go.st (f' := (mkF m 7 #[rv a2] [(.int 1), (.ref a2)])) (fun _ k => XS.iadd X1.here hx rfl (D d11_6) rfl k) ?_
  obtain ⟨cq2, q2, q2'⟩ := E_a2.cell
  obtain ⟨_, _, ⟨T2, L2, kk2, nn2⟩, -, X2, ⟨Lc2, hQ2, lq2, yq2, zz2⟩, st2⟩ := X1.privateBack hx (y := mq9) hown (mvT hZ (ww hw 88 rfl)) (mvT hZ (ww hw 89 rfl)) (mvT hZ (ww hw 91 rfl)) (Cond.privateMethod_at (mvP hZ (ww hw 90 rfl) (args := #[]))) (mvT hZ (ww hw 92 rfl)) (by decide) (own_back (W := 0) (rmG1 l Z a0 hw [] a2 mir_0 mir_1 mir_2 mir_3 wE wD kE kD h0 n0 O0 g_a2 E_a2 F_a2_modCount F_a2_elementData F_a2_size WW) hZ (ww hw 92 rfl) (ww hw 2 rfl) (by decide) (by decide)) (g := (mkF m 7 #[rv a2] [(.int 1), (.ref a2)])) rfl (by rw [hml]; rfl) (Steps.refl _) (a := a2) (by rw [e1]; exact q2) q2' (argsL := [(.int (1 : Int32))]) (rest := []) (lenOf pd__I__Ljava_lang_Object_ rfl) rfl (by show 2 * 0 + _ ≤ _; exact Nat.le_of_eq rfl) (D d11_7) (fun _ _ => ⟨rfl, e1, (by decide : 0 + 1 ≤ _), (by decide : 0 + 10 ≤ _)⟩)
  dsimp only [Pt.U, Pt.locs, Pt.cells, Pt.slots] at X2 lq2 yq2 zz2 st2 hQ2
  subst lq2 yq2 zz2
  obtain ⟨ed2, ke2, rfl, Nq2, zq2, kq2, eq2, mq2, dq2, sq2, ov2, xq2, vq2⟩ := hQ2
  have N2 := Fr.app N0 Nq2
  have ne_a2_ed2 : a2 ≠ ed2 := Nat.ne_of_lt (ltle lt_a2 zq2)
  have ne_wE_ed2 : wE ≠ ed2 := Nat.ne_of_lt (ltle lt_wE (Nat.le_trans O0.2.1 zq2))
  have ne_wD_ed2 : wD ≠ ed2 := Nat.ne_of_lt (ltle lt_wD (Nat.le_trans O0.2.1 zq2))
  have g_ed2 : n0 ≤ ed2 := Nat.le_trans (O0.1 ▸ O0.2.1) zq2
  have sz_ed2 : h0.size ≤ ed2 := Nat.le_trans K0.1 zq2
  have O2 : Old Z n0 T2.heap := O0.keep kq2 (allS g_a2 all0)
  have K2 : Keep h0 T2.heap [a2] := K0.trans kq2 (allS (Or.inl (List.mem_of_getElem? (i := 0) rfl)) all0)
  have lt_ed2 := vq2.lt
  refine Go.tr (f' := (mkF m 10 #[rv a2] [(.ref ed2)])) st2 ?_
  refine Go.retV X2 hlk hx (t := (.array (.object "java/lang/Object"))) hret rfl (Or.inr (Or.inr (Or.inr (Or.inr ⟨rfl, rfl, rfl⟩)))) (D d11_10) rfl ?_ (by decide) (by decide)
  exact ⟨ed2, ke2, rfl, N2, sz_ed2, K2, eq2, mq2, dq2, sq2, ov2, xq2, vq2⟩
theorem d10_0 : decode jdk_38_method_24_code 0 = .ok (.iload_n 3, 1) := by decide +kernel
theorem d10_1 : decode jdk_38_method_24_code 1 = .ok (.aload_n 2, 1) := by decide +kernel
theorem d10_2 : decode jdk_38_method_24_code 2 = .ok (.arraylength, 1) := by decide +kernel
theorem d10_3 : decode jdk_38_method_24_code 3 = .ok (.if_icmp .ne 8, 3) := by decide +kernel
theorem d10_6 : decode jdk_38_method_24_code 6 = .ok (.aload_n 0, 1) := by decide +kernel
theorem d10_7 : decode jdk_38_method_24_code 7 = .ok (.invokevirtual 129, 3) := by decide +kernel
theorem pd____Ljava_lang_Object_ : parseMethodDescriptor "()[Ljava/lang/Object;" = some ⟨[], some (.array (.object "java/lang/Object"))⟩ := by decide +kernel
theorem d10_10 : decode jdk_38_method_24_code 10 = .ok (.astore_n 2, 1) := by decide +kernel
theorem d10_11 : decode jdk_38_method_24_code 11 = .ok (.aload_n 2, 1) := by decide +kernel
theorem d10_12 : decode jdk_38_method_24_code 12 = .ok (.iload_n 3, 1) := by decide +kernel
theorem d10_13 : decode jdk_38_method_24_code 13 = .ok (.aload_n 1, 1) := by decide +kernel
theorem d10_14 : decode jdk_38_method_24_code 14 = .ok (.aastore, 1) := by decide +kernel
theorem d10_15 : decode jdk_38_method_24_code 15 = .ok (.aload_n 0, 1) := by decide +kernel
theorem d10_16 : decode jdk_38_method_24_code 16 = .ok (.iload_n 3, 1) := by decide +kernel
theorem d10_17 : decode jdk_38_method_24_code 17 = .ok (.iconst 1, 1) := by decide +kernel
theorem d10_18 : decode jdk_38_method_24_code 18 = .ok (.iadd, 1) := by decide +kernel
theorem d10_19 : decode jdk_38_method_24_code 19 = .ok (.putfield 48, 3) := by decide +kernel
theorem d10_22 : decode jdk_38_method_24_code 22 = .ok (.return_, 1) := by decide +kernel
set_option maxRecDepth 65536 in
set_option maxHeartbeats 40000000 in
theorem rmA3_0 (l : Launch) (Z : State) (a0 : Array Value) (hw : ∀ d ∈ tables_1, d.before a0 Z = true) (ws : List Jvm.Cond) (a2 : Addr) (x1 : Addr) (mir_0 : Addr) (mir_1 : Addr) (mir_2 : Addr) (mir_3 : Addr) (wE : Addr) (wD : Addr) (kE : ClassId) (kD : ClassId) (h0 : Heap) (n0 : Nat) (O0 : Old Z n0 h0) (g_a2 : n0 ≤ a2) (E_x1 : Exa Z h0 x1 "com/example/kinetic_city/kineticcity/engine/TransitLine") (E_a2 : Exa Z h0 a2 "java/util/ArrayList") (F_a2_modCount : Fld Z h0 a2 "java/util/AbstractList" "modCount" "I" (.int 1)) (F_a2_elementData : Fld Z h0 a2 "java/util/ArrayList" "elementData" "[Ljava/lang/Object;" (.ref wD)) (F_a2_size : Fld Z h0 a2 "java/util/ArrayList" "size" "I" (.int 0)) (WW : World1 Z mir_0 mir_1 mir_2 mir_3 wE wD kE kD) :
    Con l Z mq11 jdk_38_method_24_code 4 none ws ({ frames := 3, cells := 1, slots := 10, locals := 41 } : Room) #[(.ref a2), (.ref x1), (.ref wD), (.int 0)] h0 (fun v h L => v = none ∧ Fr n0 L ∧ Keep h0 h [a2] ∧ ∃ (ed : Addr) (ke : ClassId), h0.size ≤ ed ∧ Exa Z h a2 "java/util/ArrayList" ∧ Fld Z h a2 "java/util/AbstractList" "modCount" "I" (.int 1) ∧ Fld Z h a2 "java/util/ArrayList" "elementData" "[Ljava/lang/Object;" (.ref ed) ∧ Fld Z h a2 "java/util/ArrayList" "size" "I" (.int 1) ∧ Ovr Z ke "java/lang/Object" ∧ Exa Z h ed "[Ljava/lang/Object;" ∧ Arv Z h ed ke (.object "java/lang/Object") (10 : Int32) [(.ref x1), .null, .null] .null) := by
  refine own_body (plainFor_of_name pn_java_util_ArrayList) ?_
  intro p e s m below meth c s₁ hx hby hml hZ hown hnm hlk hret X0 e0
  have N0 := Fr.nil n0
  have D := @hb _ _ hby
  have K0 : Keep h0 h0 [a2] := Keep.refl _ _
  refine Go.st (T' := s₁) (f' := (mkF m 0 #[rv a2, rv x1, rv wD, iv 0] [])) (fun _ k => castTop (by first | (simp [entryFrame, mkF, argsToLocals, Value.category]; done) | rfl) k) ?_
  have ⟨M_0, M_1, M_2, M_3, S_wE, E_wE, S_wD, E_wD, V_wE, V_wD⟩ := WW
  have lt_wE := E_wE.lt
  have lt_wD := E_wD.lt
  have lt_a2 := E_a2.lt
  have ne_wE_a2 : wE ≠ a2 := O0.ne lt_wE g_a2
  have ne_wD_a2 : wD ≠ a2 := O0.ne lt_wD g_a2
  have lt_x1 := E_x1.lt
  refine zin 1 X0 hx (D d10_0) rfl ?_
  refine zan 2 X0 hx (D d10_1) rfl rfl ?_
  obtain ⟨cl1, Ar1, -, S1, Nx1, -, -⟩ := id (V_wD.ext O0.2)
  refine Go.st (T' := s₁) (f' := (mkF m 3 #[rv a2, rv x1, rv wD, iv 0] [(.int 0), (.int 0)])) (fun _ k => X0.arraylength hx (by rw [e0]; exact Ar1.1) (State.isArrayOf_alike hZ.alike Ar1.2.1) (g := (mkF m 2 #[rv a2, rv x1, rv wD, iv 0] [(.ref wD), (.int 0)])) rfl rfl (D d10_2) _ (by rw [len_of S1 Nx1]; exact k)) ?_
  refine zcn 6 X0 hx (D d10_3) (by decide) ?_
  refine zan 7 X0 hx (D d10_6) rfl rfl ?_
  obtain ⟨cq2, q2, q2'⟩ := E_a2.cell
  obtain ⟨_, _, ⟨T2, L2, kk2, nn2⟩, -, X2, ⟨Lc2, hQ2, lq2, yq2, zz2⟩, st2⟩ := X0.privateBack hx (y := mq10) hown (mvT hZ (ww hw 83 rfl)) (mvT hZ (ww hw 84 rfl)) (mvT hZ (ww hw 86 rfl)) (Cond.privateMethod_at (mvP hZ (ww hw 85 rfl) (args := #[]))) (mvT hZ (ww hw 87 rfl)) (by decide) (own_back (W := 0) (rmG0 l Z a0 hw [] a2 mir_0 mir_1 mir_2 mir_3 wE wD kE kD h0 n0 O0 g_a2 E_a2 F_a2_modCount F_a2_elementData F_a2_size WW) hZ (ww hw 87 rfl) (ww hw 2 rfl) (by decide) (by decide)) (g := (mkF m 7 #[rv a2, rv x1, rv wD, iv 0] [(.ref a2)])) rfl (by rw [hml]; rfl) (Steps.refl _) (a := a2) (by rw [e0]; exact q2) q2' (argsL := []) (rest := []) (lenOf pd____Ljava_lang_Object_ rfl) rfl (by show 2 * 0 + _ ≤ _; exact Nat.le_of_eq rfl) (D d10_7) (fun _ _ => ⟨rfl, e0, (by decide : 0 + 1 ≤ _), (by decide : 0 + 10 ≤ _)⟩)
  dsimp only [Pt.U, Pt.locs, Pt.cells, Pt.slots] at X2 lq2 yq2 zz2 st2 hQ2
  subst lq2 yq2 zz2
  obtain ⟨ed2, ke2, rfl, Nq2, zq2, kq2, eq2, mq2, dq2, sq2, ov2, xq2, vq2⟩ := hQ2
  have N2 := Fr.app N0 Nq2
  have ne_a2_ed2 : a2 ≠ ed2 := Nat.ne_of_lt (ltle lt_a2 zq2)
  have ne_x1_ed2 : x1 ≠ ed2 := Nat.ne_of_lt (ltle lt_x1 zq2)
  have ne_wE_ed2 : wE ≠ ed2 := Nat.ne_of_lt (ltle lt_wE (Nat.le_trans O0.2.1 zq2))
  have ne_wD_ed2 : wD ≠ ed2 := Nat.ne_of_lt (ltle lt_wD (Nat.le_trans O0.2.1 zq2))
  have g_ed2 : n0 ≤ ed2 := Nat.le_trans (O0.1 ▸ O0.2.1) zq2
  have sz_ed2 : h0.size ≤ ed2 := Nat.le_trans K0.1 zq2
  have O2 : Old Z n0 T2.heap := O0.keep kq2 (allS g_a2 all0)
  have K2 : Keep h0 T2.heap [a2] := K0.trans kq2 (allS (Or.inl (List.mem_of_getElem? (i := 0) rfl)) all0)
  have lt_ed2 := vq2.lt
  refine Go.tr (f' := (mkF m 10 #[rv a2, rv x1, rv wD, iv 0] [(.ref ed2)])) st2 ?_
  refine zrn 11 #[rv a2, rv x1, rv ed2, iv 0] X2 hx (D d10_10) rfl ?_
  refine zan 12 X2 hx (D d10_11) rfl rfl ?_
  refine zin 13 X2 hx (D d10_12) rfl ?_
  refine zan 14 X2 hx (D d10_13) rfl rfl ?_
  obtain ⟨cl3, Ar3, q3, S3, Nx3, H3, G3⟩ := id vq2
  have hin3 : ¬ ((0 : Int32) < 0 ∨ cl3.slots.size ≤ ((0 : Int32)).toNatClampNeg) := inb_of S3 ⟨by decide, by decide⟩
  have ft4 := (E_x1.keep kq2)
  obtain ⟨T5, h5, X5, e5, W5, st5⟩ := stR X2 hx hZ rfl Ar3 (j := (0 : Int32)) hin3 rfl (Sto.ofV Ar3 q3 ov2 (Ins.of_exa ft4 (ww hw 98 rfl))) (g := (mkF m 14 #[rv a2, rv x1, rv ed2, iv 0] [(.ref x1), (.int 0), (.ref ed2)])) rfl rfl (D d10_14)
  have V_ed2_5 : Arv Z h5 ed2 ke2 (.object "java/lang/Object") (10 : Int32) [(.ref x1), .null, .null] .null := Arv.set Ar3 q3 S3 Nx3 H3 G3 rfl W5 0 rfl (Nat.le_of_ble_eq_true rfl)
  have N5 := Fr.snoc X5 N2 g_ed2
  have O5 : Old Z n0 h5 := O2.wr W5 g_ed2
  have K5 : Keep h0 h5 [a2] := K2.wr W5 (Or.inr sz_ed2)
  refine zst 15 #[rv a2, rv x1, rv ed2, iv 0] [] st5 ?_
  refine zan 16 X5 hx (D d10_15) rfl rfl ?_
  refine zin 17 X5 hx (D d10_16) rfl ?_
  refine zic 18 1 X5 hx (D d10_17) ?_
  refine Go.st (f' := (mkF m 19 #[rv a2, rv x1, rv ed2, iv 0] [(.int 1), (.ref a2)])) (fun _ k => XS.iadd X5.here hx rfl (D d10_18) rfl k) ?_
  have ft6 := (eq2.wr W5)
  have ft7 := (sq2.other W5 (Or.inl ne_a2_ed2))
  obtain ⟨T8, h8, X8, e8, W8, st8⟩ := putF X5 hx hZ hown (host := "") (Or.inl (ww hw 76 rfl)) Via.refl e5 ft7 ft6 (Or.inl (ww hw 77 rfl)) (ww hw 1 rfl) (ty := .int) (by decide) rfl rfl (g := (mkF m 19 #[rv a2, rv x1, rv ed2, iv 0] [(.int 1), (.ref a2)])) rfl rfl (D d10_19)
  have N8 := Fr.snoc X8 N5 g_a2
  have O8 : Old Z n0 h8 := O5.wr W8 g_a2
  have K8 : Keep h0 h8 [a2] := K5.wr W8 (Or.inl (List.mem_of_getElem? (i := 0) rfl))
  have Fw8 := ft7.same W8
  refine zst 22 #[rv a2, rv x1, rv ed2, iv 0] [] st8 ?_
  refine Go.ret0 X8 hlk hx hret (D d10_22) e8 ?_ (by decide) (by decide)
  have ft9 := (ft6.wr W8)
  have ft10 := ((mq2.other W5 (Or.inl ne_a2_ed2)).other W8 (Or.inr (slot_ne (Or.inl (ww hw 22 rfl)) (Or.inl (ww hw 77 rfl)) (by decide) (t := .int) (t' := .int) (by decide) (by decide))))
  have ft11 := ((dq2.other W5 (Or.inl ne_a2_ed2)).other W8 (Or.inr (slot_ne (Or.inl (ww hw 25 rfl)) (Or.inl (ww hw 77 rfl)) (by decide) (t := (.array (.object "java/lang/Object"))) (t' := .int) (by decide) (by decide))))
  have ft12 := ((xq2.wr W5).wr W8)
  have ft13 := (V_ed2_5.other W8 (Ne.symm ne_a2_ed2))
  exact ⟨rfl, N8, K8, ed2, ke2, sz_ed2, ft9, ft10, ft11, Fw8, ov2, ft12, ft13⟩
theorem d9_0 : decode jdk_38_method_25_code 0 = .ok (.aload_n 0, 1) := by decide +kernel
theorem d9_1 : decode jdk_38_method_25_code 1 = .ok (.dup, 1) := by decide +kernel
theorem d9_2 : decode jdk_38_method_25_code 2 = .ok (.getfield 63, 3) := by decide +kernel
theorem d9_5 : decode jdk_38_method_25_code 5 = .ok (.iconst 1, 1) := by decide +kernel
theorem d9_6 : decode jdk_38_method_25_code 6 = .ok (.iadd, 1) := by decide +kernel
theorem d9_7 : decode jdk_38_method_25_code 7 = .ok (.putfield 63, 3) := by decide +kernel
theorem d9_10 : decode jdk_38_method_25_code 10 = .ok (.aload_n 0, 1) := by decide +kernel
theorem d9_11 : decode jdk_38_method_25_code 11 = .ok (.aload_n 1, 1) := by decide +kernel
theorem d9_12 : decode jdk_38_method_25_code 12 = .ok (.aload_n 0, 1) := by decide +kernel
theorem d9_13 : decode jdk_38_method_25_code 13 = .ok (.getfield 9, 3) := by decide +kernel
theorem d9_16 : decode jdk_38_method_25_code 16 = .ok (.aload_n 0, 1) := by decide +kernel
theorem d9_17 : decode jdk_38_method_25_code 17 = .ok (.getfield 48, 3) := by decide +kernel
theorem d9_20 : decode jdk_38_method_25_code 20 = .ok (.invokevirtual 131, 3) := by decide +kernel
theorem pd__Ljava_lang_Object__Ljava_lang_Object_I_V : parseMethodDescriptor "(Ljava/lang/Object;[Ljava/lang/Object;I)V" = some ⟨[(.object "java/lang/Object"), (.array (.object "java/lang/Object")), .int], none⟩ := by decide +kernel
theorem d9_23 : decode jdk_38_method_25_code 23 = .ok (.iconst 1, 1) := by decide +kernel
theorem d9_24 : decode jdk_38_method_25_code 24 = .ok (.ireturn, 1) := by decide +kernel
set_option maxRecDepth 65536 in
set_option maxHeartbeats 40000000 in
theorem rmA1_0 (l : Launch) (Z : State) (a0 : Array Value) (hw : ∀ d ∈ tables_1, d.before a0 Z = true) (ws : List Jvm.Cond) (a2 : Addr) (x1 : Addr) (mir_0 : Addr) (mir_1 : Addr) (mir_2 : Addr) (mir_3 : Addr) (wE : Addr) (wD : Addr) (kE : ClassId) (kD : ClassId) (h0 : Heap) (n0 : Nat) (O0 : Old Z n0 h0) (g_a2 : n0 ≤ a2) (E_x1 : Exa Z h0 x1 "com/example/kinetic_city/kineticcity/engine/TransitLine") (E_a2 : Exa Z h0 a2 "java/util/ArrayList") (F_a2_modCount : Fld Z h0 a2 "java/util/AbstractList" "modCount" "I" (.int 0)) (F_a2_elementData : Fld Z h0 a2 "java/util/ArrayList" "elementData" "[Ljava/lang/Object;" (.ref wD)) (F_a2_size : Fld Z h0 a2 "java/util/ArrayList" "size" "I" (.int 0)) (WW : World1 Z mir_0 mir_1 mir_2 mir_3 wE wD kE kD) :
    Con l Z mq12 jdk_38_method_25_code 2 (some .boolean) ws ({ frames := 4, cells := 1, slots := 10, locals := 56 } : Room) #[(.ref a2), (.ref x1)] h0 (fun v h L => v = some (.int 1) ∧ Fr n0 L ∧ Keep h0 h [a2] ∧ ∃ (ed : Addr) (ke : ClassId), h0.size ≤ ed ∧ Exa Z h a2 "java/util/ArrayList" ∧ Fld Z h a2 "java/util/AbstractList" "modCount" "I" (.int 1) ∧ Fld Z h a2 "java/util/ArrayList" "elementData" "[Ljava/lang/Object;" (.ref ed) ∧ Fld Z h a2 "java/util/ArrayList" "size" "I" (.int 1) ∧ Ovr Z ke "java/lang/Object" ∧ Exa Z h ed "[Ljava/lang/Object;" ∧ Arv Z h ed ke (.object "java/lang/Object") (10 : Int32) [(.ref x1), .null, .null] .null) := by
  refine own_body (plainFor_of_name pn_java_util_ArrayList) ?_
  intro p e s m below meth c s₁ hx hby hml hZ hown hnm hlk hret X0 e0
  have N0 := Fr.nil n0
  have D := @hb _ _ hby
  have K0 : Keep h0 h0 [a2] := Keep.refl _ _
  refine Go.st (T' := s₁) (f' := (mkF m 0 #[rv a2, rv x1] [])) (fun _ k => castTop (by first | (simp [entryFrame, mkF, argsToLocals, Value.category]; done) | rfl) k) ?_
  have ⟨M_0, M_1, M_2, M_3, S_wE, E_wE, S_wD, E_wD, V_wE, V_wD⟩ := WW
  have lt_wE := E_wE.lt
  have lt_wD := E_wD.lt
  have lt_a2 := E_a2.lt
  have ne_wE_a2 : wE ≠ a2 := O0.ne lt_wE g_a2
  have ne_wD_a2 : wD ≠ a2 := O0.ne lt_wD g_a2
  have lt_x1 := E_x1.lt
  refine zan 1 X0 hx (D d9_0) rfl rfl ?_
  refine Go.st (f' := (mkF m 2 #[rv a2, rv x1] [(.ref a2), (.ref a2)])) (fun _ k => XS.dup X0.here hx rfl (D d9_1) rfl rfl k) ?_
  refine zgf 5 X0 hx hZ hown (host := "") (Or.inl (ww hw 74 rfl)) (Via.of (ww hw 75 rfl)) e0 F_a2_modCount (D d9_2) fun T1 X1 e1 => ?_
  refine zic 6 1 X1 hx (D d9_5) ?_
  refine Go.st (f' := (mkF m 7 #[rv a2, rv x1] [(.int 1), (.ref a2)])) (fun _ k => XS.iadd X1.here hx rfl (D d9_6) rfl k) ?_
  obtain ⟨T2, h2, X2, e2, W2, st2⟩ := putF X1 hx hZ hown (host := "") (Or.inl (ww hw 74 rfl)) (Via.of (ww hw 75 rfl)) e1 F_a2_modCount E_a2 (Or.inl (ww hw 22 rfl)) (ww hw 1 rfl) (ty := .int) (by decide) rfl rfl (g := (mkF m 7 #[rv a2, rv x1] [(.int 1), (.ref a2)])) rfl rfl (D d9_7)
  have N2 := Fr.snoc X2 N0 g_a2
  have O2 : Old Z n0 h2 := O0.wr W2 g_a2
  have K2 : Keep h0 h2 [a2] := K0.wr W2 (Or.inl (List.mem_of_getElem? (i := 0) rfl))
  have Fw2 := F_a2_modCount.same W2
  refine zst 10 #[rv a2, rv x1] [] st2 ?_
  refine zan 11 X2 hx (D d9_10) rfl rfl ?_
  refine zan 12 X2 hx (D d9_11) rfl rfl ?_
  refine zan 13 X2 hx (D d9_12) rfl rfl ?_
  have ft3 := (F_a2_elementData.other W2 (Or.inr (slot_ne (Or.inl (ww hw 25 rfl)) (Or.inl (ww hw 22 rfl)) (by decide) (t := (.array (.object "java/lang/Object"))) (t' := .int) (by decide) (by decide))))
  refine zgf 16 X2 hx hZ hown (host := "") (Or.inl (ww hw 24 rfl)) Via.refl e2 ft3 (D d9_13) fun T4 X4 e4 => ?_
  refine zan 17 X4 hx (D d9_16) rfl rfl ?_
  have ft5 := (F_a2_size.other W2 (Or.inr (slot_ne (Or.inl (ww hw 77 rfl)) (Or.inl (ww hw 22 rfl)) (by decide) (t := .int) (t' := .int) (by decide) (by decide))))
  refine zgf 20 X4 hx hZ hown (host := "") (Or.inl (ww hw 76 rfl)) Via.refl e4 ft5 (D d9_17) fun T6 X6 e6 => ?_
  have ft8 := (E_a2.wr W2)
  have ft9 := (E_x1.wr W2)
  obtain ⟨cq7, q7, q7'⟩ := ft8.cell
  obtain ⟨_, _, ⟨T7, L7, kk7, nn7⟩, -, X7, ⟨Lc7, hQ7, lq7, yq7, zz7⟩, st7⟩ := X6.privateBack hx (y := mq11) hown (mvT hZ (ww hw 78 rfl)) (mvT hZ (ww hw 79 rfl)) (mvT hZ (ww hw 81 rfl)) (Cond.privateMethod_at (mvP hZ (ww hw 80 rfl) (args := #[]))) (mvT hZ (ww hw 82 rfl)) (by decide) (own_back (W := 0) (rmA3_0 l Z a0 hw [] a2 x1   mir_0 mir_1 mir_2 mir_3 wE wD kE kD h2 n0 O2 g_a2 ft9 ft8 Fw2 ft3 ft5  WW) hZ (ww hw 82 rfl) (ww hw 2 rfl) (by decide) (by decide)) (g := (mkF m 20 #[rv a2, rv x1] [(.int 0), (.ref wD), (.ref x1), (.ref a2)])) rfl (by rw [hml]; rfl) (Steps.refl _) (a := a2) (by rw [e6]; exact q7) q7' (argsL := [(.ref x1), (.ref wD), (.int (0 : Int32))]) (rest := []) (lenOf pd__Ljava_lang_Object__Ljava_lang_Object_I_V rfl) rfl (by show 2 * 0 + _ ≤ _; exact Nat.le_of_eq rfl) (D d9_20) (fun _ _ => ⟨rfl, e6, (by decide : 0 + 1 ≤ _), (by decide : 0 + 10 ≤ _)⟩)
  dsimp only [Pt.U, Pt.locs, Pt.cells, Pt.slots] at X7 lq7 yq7 zz7 st7 hQ7
  subst lq7 yq7 zz7
  obtain ⟨rfl, Nq7, kq7, ed7, ke7, zq7, eq7, mq7, dq7, sq7, ov7, xq7, vq7⟩ := hQ7
  have N7 := Fr.app N2 Nq7
  have ft10 := (lteq lt_a2 W2.size.symm)
  have ne_a2_ed7 : a2 ≠ ed7 := Nat.ne_of_lt (ltle ft10 zq7)
  have ft11 := (lteq lt_x1 W2.size.symm)
  have ne_x1_ed7 : x1 ≠ ed7 := Nat.ne_of_lt (ltle ft11 zq7)
  have ne_wE_ed7 : wE ≠ ed7 := Nat.ne_of_lt (ltle lt_wE (Nat.le_trans O2.2.1 zq7))
  have ne_wD_ed7 : wD ≠ ed7 := Nat.ne_of_lt (ltle lt_wD (Nat.le_trans O2.2.1 zq7))
  have g_ed7 : n0 ≤ ed7 := Nat.le_trans (O2.1 ▸ O2.2.1) zq7
  have sz_ed7 : h0.size ≤ ed7 := Nat.le_trans K2.1 zq7
  have O7 : Old Z n0 T7.heap := O2.keep kq7 (allS g_a2 all0)
  have K7 : Keep h0 T7.heap [a2] := K2.trans kq7 (allS (Or.inl (List.mem_of_getElem? (i := 0) rfl)) all0)
  have lt_ed7 := vq7.lt
  refine Go.tr (f' := (mkF m 23 #[rv a2, rv x1] [])) st7 ?_
  refine zic 24 1 X7 hx (D d9_23) ?_
  refine Go.retB X7 hlk hx (t := .boolean) hret (by simp) (D d9_24) rfl ?_ (by decide) (by decide)
  exact ⟨rfl, N7, K7, ed7, ke7, sz_ed7, eq7, mq7, dq7, sq7, ov7, xq7, vq7⟩
set_option maxRecDepth 65536 in
set_option maxHeartbeats 40000000 in
theorem rmA3_1 (l : Launch) (Z : State) (a0 : Array Value) (hw : ∀ d ∈ tables_1, d.before a0 Z = true) (ws : List Jvm.Cond) (a2 : Addr) (x1 : Addr) (l0 : Addr) (ed : Addr) (ke : ClassId) (mir_0 : Addr) (mir_1 : Addr) (mir_2 : Addr) (mir_3 : Addr) (wE : Addr) (wD : Addr) (kE : ClassId) (kD : ClassId) (h0 : Heap) (n0 : Nat) (O0 : Old Z n0 h0) (g_a2 : n0 ≤ a2) (E_x1 : Exa Z h0 x1 "com/example/kinetic_city/kineticcity/engine/TransitLine") (E_a2 : Exa Z h0 a2 "java/util/ArrayList") (F_a2_modCount : Fld Z h0 a2 "java/util/AbstractList" "modCount" "I" (.int 2)) (F_a2_elementData : Fld Z h0 a2 "java/util/ArrayList" "elementData" "[Ljava/lang/Object;" (.ref ed)) (F_a2_size : Fld Z h0 a2 "java/util/ArrayList" "size" "I" (.int 1)) (g_ed : n0 ≤ ed) (Ov : Ovr Z ke "java/lang/Object") (E_ed : Exa Z h0 ed "[Ljava/lang/Object;") (V_ed : Arv Z h0 ed ke (.object "java/lang/Object") (10 : Int32) [(.ref l0), .null, .null] .null) (WW : World1 Z mir_0 mir_1 mir_2 mir_3 wE wD kE kD) :
    Con l Z mq11 jdk_38_method_24_code 4 none ws ({ frames := 0, cells := 0, slots := 0, locals := 0 } : Room) #[(.ref a2), (.ref x1), (.ref ed), (.int 1)] h0 (fun v h L => v = none ∧ Fr n0 L ∧ Keep h0 h [a2, ed] ∧ Exa Z h a2 "java/util/ArrayList" ∧ Fld Z h a2 "java/util/AbstractList" "modCount" "I" (.int 2) ∧ Fld Z h a2 "java/util/ArrayList" "elementData" "[Ljava/lang/Object;" (.ref ed) ∧ Fld Z h a2 "java/util/ArrayList" "size" "I" (.int 2) ∧ Ovr Z ke "java/lang/Object" ∧ Exa Z h ed "[Ljava/lang/Object;" ∧ Arv Z h ed ke (.object "java/lang/Object") (10 : Int32) [(.ref l0), (.ref x1), .null] .null) := by
  refine own_body (plainFor_of_name pn_java_util_ArrayList) ?_
  intro p e s m below meth c s₁ hx hby hml hZ hown hnm hlk hret X0 e0
  have N0 := Fr.nil n0
  have D := @hb _ _ hby
  have K0 : Keep h0 h0 [a2, ed] := Keep.refl _ _
  refine Go.st (T' := s₁) (f' := (mkF m 0 #[rv a2, rv x1, rv ed, iv 1] [])) (fun _ k => castTop (by first | (simp [entryFrame, mkF, argsToLocals, Value.category]; done) | rfl) k) ?_
  have ⟨M_0, M_1, M_2, M_3, S_wE, E_wE, S_wD, E_wD, V_wE, V_wD⟩ := WW
  have lt_wE := E_wE.lt
  have lt_wD := E_wD.lt
  have lt_a2 := E_a2.lt
  have ne_wE_a2 : wE ≠ a2 := O0.ne lt_wE g_a2
  have ne_wD_a2 : wD ≠ a2 := O0.ne lt_wD g_a2
  have lt_x1 := E_x1.lt
  have lt_ed := V_ed.lt
  have ne_wE_ed : wE ≠ ed := O0.ne lt_wE g_ed
  have ne_wD_ed : wD ≠ ed := O0.ne lt_wD g_ed
  have nt_a2_ed : a2 ≠ ed := Exa.neArv E_a2 V_ed (ww hw 1 rfl)
  have nt_x1_ed : x1 ≠ ed := Exa.neArv E_x1 V_ed (ww hw 31 rfl)
  refine zin 1 X0 hx (D d10_0) rfl ?_
  refine zan 2 X0 hx (D d10_1) rfl rfl ?_
  obtain ⟨cl1, Ar1, -, S1, Nx1, -, -⟩ := id V_ed
  refine Go.st (T' := s₁) (f' := (mkF m 3 #[rv a2, rv x1, rv ed, iv 1] [(.int 10), (.int 1)])) (fun _ k => X0.arraylength hx (by rw [e0]; exact Ar1.1) (State.isArrayOf_alike hZ.alike Ar1.2.1) (g := (mkF m 2 #[rv a2, rv x1, rv ed, iv 1] [(.ref ed), (.int 1)])) rfl rfl (D d10_2) _ (by rw [len_of S1 Nx1]; exact k)) ?_
  refine zcy 11 X0 hx (D d10_3) (by decide) ?_
  refine zan 12 X0 hx (D d10_11) rfl rfl ?_
  refine zin 13 X0 hx (D d10_12) rfl ?_
  refine zan 14 X0 hx (D d10_13) rfl rfl ?_
  obtain ⟨cl2, Ar2, q2, S2, Nx2, H2, G2⟩ := id V_ed
  have hin2 : ¬ ((1 : Int32) < 0 ∨ cl2.slots.size ≤ ((1 : Int32)).toNatClampNeg) := inb_of S2 ⟨by decide, by decide⟩
  obtain ⟨T3, h3, X3, e3, W3, st3⟩ := stR X0 hx hZ e0 Ar2 (j := (1 : Int32)) hin2 rfl (Sto.ofV Ar2 q2 Ov (Ins.of_exa E_x1 (ww hw 98 rfl))) (g := (mkF m 14 #[rv a2, rv x1, rv ed, iv 1] [(.ref x1), (.int 1), (.ref ed)])) rfl rfl (D d10_14)
  have V_ed_3 : Arv Z h3 ed ke (.object "java/lang/Object") (10 : Int32) [(.ref l0), (.ref x1), .null] .null := Arv.set Ar2 q2 S2 Nx2 H2 G2 rfl W3 1 rfl (Nat.le_of_ble_eq_true rfl)
  have N3 := Fr.snoc X3 N0 g_ed
  have O3 : Old Z n0 h3 := O0.wr W3 g_ed
  have K3 : Keep h0 h3 [a2, ed] := K0.wr W3 (Or.inl (List.mem_of_getElem? (i := 1) rfl))
  refine zst 15 #[rv a2, rv x1, rv ed, iv 1] [] st3 ?_
  refine zan 16 X3 hx (D d10_15) rfl rfl ?_
  refine zin 17 X3 hx (D d10_16) rfl ?_
  refine zic 18 1 X3 hx (D d10_17) ?_
  refine Go.st (f' := (mkF m 19 #[rv a2, rv x1, rv ed, iv 1] [(.int 2), (.ref a2)])) (fun _ k => XS.iadd X3.here hx rfl (D d10_18) rfl k) ?_
  have ft4 := (E_a2.wr W3)
  have ft5 := (F_a2_size.other W3 (Or.inl nt_a2_ed))
  obtain ⟨T6, h6, X6, e6, W6, st6⟩ := putF X3 hx hZ hown (host := "") (Or.inl (ww hw 76 rfl)) Via.refl e3 ft5 ft4 (Or.inl (ww hw 77 rfl)) (ww hw 1 rfl) (ty := .int) (by decide) rfl rfl (g := (mkF m 19 #[rv a2, rv x1, rv ed, iv 1] [(.int 2), (.ref a2)])) rfl rfl (D d10_19)
  have N6 := Fr.snoc X6 N3 g_a2
  have O6 : Old Z n0 h6 := O3.wr W6 g_a2
  have K6 : Keep h0 h6 [a2, ed] := K3.wr W6 (Or.inl (List.mem_of_getElem? (i := 0) rfl))
  have Fw6 := ft5.same W6
  refine zst 22 #[rv a2, rv x1, rv ed, iv 1] [] st6 ?_
  refine Go.ret0 X6 hlk hx hret (D d10_22) e6 ?_ (by decide) (by decide)
  have ft7 := (ft4.wr W6)
  have ft8 := ((F_a2_modCount.other W3 (Or.inl nt_a2_ed)).other W6 (Or.inr (slot_ne (Or.inl (ww hw 22 rfl)) (Or.inl (ww hw 77 rfl)) (by decide) (t := .int) (t' := .int) (by decide) (by decide))))
  have ft9 := ((F_a2_elementData.other W3 (Or.inl nt_a2_ed)).other W6 (Or.inr (slot_ne (Or.inl (ww hw 25 rfl)) (Or.inl (ww hw 77 rfl)) (by decide) (t := (.array (.object "java/lang/Object"))) (t' := .int) (by decide) (by decide))))
  have ft10 := ((E_ed.wr W3).wr W6)
  have ft11 := (V_ed_3.other W6 (Ne.symm nt_a2_ed))
  exact ⟨rfl, N6, K6, ft7, ft8, ft9, Fw6, Ov, ft10, ft11⟩
set_option maxRecDepth 65536 in
set_option maxHeartbeats 40000000 in
theorem rmA1_1 (l : Launch) (Z : State) (a0 : Array Value) (hw : ∀ d ∈ tables_1, d.before a0 Z = true) (ws : List Jvm.Cond) (a2 : Addr) (x1 : Addr) (l0 : Addr) (ed : Addr) (ke : ClassId) (mir_0 : Addr) (mir_1 : Addr) (mir_2 : Addr) (mir_3 : Addr) (wE : Addr) (wD : Addr) (kE : ClassId) (kD : ClassId) (h0 : Heap) (n0 : Nat) (O0 : Old Z n0 h0) (g_a2 : n0 ≤ a2) (E_x1 : Exa Z h0 x1 "com/example/kinetic_city/kineticcity/engine/TransitLine") (E_a2 : Exa Z h0 a2 "java/util/ArrayList") (F_a2_modCount : Fld Z h0 a2 "java/util/AbstractList" "modCount" "I" (.int 1)) (F_a2_elementData : Fld Z h0 a2 "java/util/ArrayList" "elementData" "[Ljava/lang/Object;" (.ref ed)) (F_a2_size : Fld Z h0 a2 "java/util/ArrayList" "size" "I" (.int 1)) (g_ed : n0 ≤ ed) (Ov : Ovr Z ke "java/lang/Object") (E_ed : Exa Z h0 ed "[Ljava/lang/Object;") (V_ed : Arv Z h0 ed ke (.object "java/lang/Object") (10 : Int32) [(.ref l0), .null, .null] .null) (WW : World1 Z mir_0 mir_1 mir_2 mir_3 wE wD kE kD) :
    Con l Z mq12 jdk_38_method_25_code 2 (some .boolean) ws ({ frames := 1, cells := 0, slots := 0, locals := 15 } : Room) #[(.ref a2), (.ref x1)] h0 (fun v h L => v = some (.int 1) ∧ Fr n0 L ∧ Keep h0 h [a2, ed] ∧ Exa Z h a2 "java/util/ArrayList" ∧ Fld Z h a2 "java/util/AbstractList" "modCount" "I" (.int 2) ∧ Fld Z h a2 "java/util/ArrayList" "elementData" "[Ljava/lang/Object;" (.ref ed) ∧ Fld Z h a2 "java/util/ArrayList" "size" "I" (.int 2) ∧ Ovr Z ke "java/lang/Object" ∧ Exa Z h ed "[Ljava/lang/Object;" ∧ Arv Z h ed ke (.object "java/lang/Object") (10 : Int32) [(.ref l0), (.ref x1), .null] .null) := by
  refine own_body (plainFor_of_name pn_java_util_ArrayList) ?_
  intro p e s m below meth c s₁ hx hby hml hZ hown hnm hlk hret X0 e0
  have N0 := Fr.nil n0
  have D := @hb _ _ hby
  have K0 : Keep h0 h0 [a2, ed] := Keep.refl _ _
  refine Go.st (T' := s₁) (f' := (mkF m 0 #[rv a2, rv x1] [])) (fun _ k => castTop (by first | (simp [entryFrame, mkF, argsToLocals, Value.category]; done) | rfl) k) ?_
  have ⟨M_0, M_1, M_2, M_3, S_wE, E_wE, S_wD, E_wD, V_wE, V_wD⟩ := WW
  have lt_wE := E_wE.lt
  have lt_wD := E_wD.lt
  have lt_a2 := E_a2.lt
  have ne_wE_a2 : wE ≠ a2 := O0.ne lt_wE g_a2
  have ne_wD_a2 : wD ≠ a2 := O0.ne lt_wD g_a2
  have lt_x1 := E_x1.lt
  have lt_ed := V_ed.lt
  have ne_wE_ed : wE ≠ ed := O0.ne lt_wE g_ed
  have ne_wD_ed : wD ≠ ed := O0.ne lt_wD g_ed
  have nt_a2_ed : a2 ≠ ed := Exa.neArv E_a2 V_ed (ww hw 1 rfl)
  have nt_x1_ed : x1 ≠ ed := Exa.neArv E_x1 V_ed (ww hw 31 rfl)
  refine zan 1 X0 hx (D d9_0) rfl rfl ?_
  refine Go.st (f' := (mkF m 2 #[rv a2, rv x1] [(.ref a2), (.ref a2)])) (fun _ k => XS.dup X0.here hx rfl (D d9_1) rfl rfl k) ?_
  refine zgf 5 X0 hx hZ hown (host := "") (Or.inl (ww hw 74 rfl)) (Via.of (ww hw 75 rfl)) e0 F_a2_modCount (D d9_2) fun T1 X1 e1 => ?_
  refine zic 6 1 X1 hx (D d9_5) ?_
  refine Go.st (f' := (mkF m 7 #[rv a2, rv x1] [(.int 2), (.ref a2)])) (fun _ k => XS.iadd X1.here hx rfl (D d9_6) rfl k) ?_
  obtain ⟨T2, h2, X2, e2, W2, st2⟩ := putF X1 hx hZ hown (host := "") (Or.inl (ww hw 74 rfl)) (Via.of (ww hw 75 rfl)) e1 F_a2_modCount E_a2 (Or.inl (ww hw 22 rfl)) (ww hw 1 rfl) (ty := .int) (by decide) rfl rfl (g := (mkF m 7 #[rv a2, rv x1] [(.int 2), (.ref a2)])) rfl rfl (D d9_7)
  have N2 := Fr.snoc X2 N0 g_a2
  have O2 : Old Z n0 h2 := O0.wr W2 g_a2
  have K2 : Keep h0 h2 [a2, ed] := K0.wr W2 (Or.inl (List.mem_of_getElem? (i := 0) rfl))
  have Fw2 := F_a2_modCount.same W2
  refine zst 10 #[rv a2, rv x1] [] st2 ?_
  refine zan 11 X2 hx (D d9_10) rfl rfl ?_
  refine zan 12 X2 hx (D d9_11) rfl rfl ?_
  refine zan 13 X2 hx (D d9_12) rfl rfl ?_
  have ft3 := (F_a2_elementData.other W2 (Or.inr (slot_ne (Or.inl (ww hw 25 rfl)) (Or.inl (ww hw 22 rfl)) (by decide) (t := (.array (.object "java/lang/Object"))) (t' := .int) (by decide) (by decide))))
  refine zgf 16 X2 hx hZ hown (host := "") (Or.inl (ww hw 24 rfl)) Via.refl e2 ft3 (D d9_13) fun T4 X4 e4 => ?_
  refine zan 17 X4 hx (D d9_16) rfl rfl ?_
  have ft5 := (F_a2_size.other W2 (Or.inr (slot_ne (Or.inl (ww hw 77 rfl)) (Or.inl (ww hw 22 rfl)) (by decide) (t := .int) (t' := .int) (by decide) (by decide))))
  refine zgf 20 X4 hx hZ hown (host := "") (Or.inl (ww hw 76 rfl)) Via.refl e4 ft5 (D d9_17) fun T6 X6 e6 => ?_
  have ft8 := (E_a2.wr W2)
  have ft9 := (E_x1.wr W2)
  have ft10 := (E_ed.wr W2)
  have ft11 := (V_ed.other W2 (Ne.symm nt_a2_ed))
  obtain ⟨cq7, q7, q7'⟩ := ft8.cell
  obtain ⟨_, _, ⟨T7, L7, kk7, nn7⟩, -, X7, ⟨Lc7, hQ7, lq7, yq7, zz7⟩, st7⟩ := X6.privateBack hx (y := mq11) hown (mvT hZ (ww hw 78 rfl)) (mvT hZ (ww hw 79 rfl)) (mvT hZ (ww hw 81 rfl)) (Cond.privateMethod_at (mvP hZ (ww hw 80 rfl) (args := #[]))) (mvT hZ (ww hw 82 rfl)) (by decide) (own_back (W := 0) (rmA3_1 l Z a0 hw [] a2 x1 l0 ed ke mir_0 mir_1 mir_2 mir_3 wE wD kE kD h2 n0 O2 g_a2 ft9 ft8 Fw2 ft3 ft5 g_ed Ov ft10 ft11 WW) hZ (ww hw 82 rfl) (ww hw 2 rfl) (by decide) (by decide)) (g := (mkF m 20 #[rv a2, rv x1] [(.int 1), (.ref ed), (.ref x1), (.ref a2)])) rfl (by rw [hml]; rfl) (Steps.refl _) (a := a2) (by rw [e6]; exact q7) q7' (argsL := [(.ref x1), (.ref ed), (.int (1 : Int32))]) (rest := []) (lenOf pd__Ljava_lang_Object__Ljava_lang_Object_I_V rfl) rfl (by show 2 * 0 + _ ≤ _; exact Nat.le_of_eq rfl) (D d9_20) (fun _ _ => ⟨rfl, e6, (by decide : 0 + 0 ≤ _), (by decide : 0 + 0 ≤ _)⟩)
  dsimp only [Pt.U, Pt.locs, Pt.cells, Pt.slots] at X7 lq7 yq7 zz7 st7 hQ7
  subst lq7 yq7 zz7
  obtain ⟨rfl, Nq7, kq7, eq7, mq7, dq7, sq7, ov7, xq7, vq7⟩ := hQ7
  have N7 := Fr.app N2 Nq7
  have O7 : Old Z n0 T7.heap := O2.keep kq7 (allS g_a2 (allS g_ed all0))
  have K7 : Keep h0 T7.heap [a2, ed] := K2.trans kq7 (allS (Or.inl (List.mem_of_getElem? (i := 0) rfl)) (allS (Or.inl (List.mem_of_getElem? (i := 1) rfl)) all0))
  refine Go.tr (f' := (mkF m 23 #[rv a2, rv x1] [])) st7 ?_
  refine zic 24 1 X7 hx (D d9_23) ?_
  refine Go.retB X7 hlk hx (t := .boolean) hret (by simp) (D d9_24) rfl ?_ (by decide) (by decide)
  exact ⟨rfl, N7, K7, eq7, mq7, dq7, sq7, ov7, xq7, vq7⟩
set_option maxRecDepth 65536 in
set_option maxHeartbeats 40000000 in
theorem rmA3_2 (l : Launch) (Z : State) (a0 : Array Value) (hw : ∀ d ∈ tables_1, d.before a0 Z = true) (ws : List Jvm.Cond) (a2 : Addr) (x1 : Addr) (l0 : Addr) (l1 : Addr) (ed : Addr) (ke : ClassId) (mir_0 : Addr) (mir_1 : Addr) (mir_2 : Addr) (mir_3 : Addr) (wE : Addr) (wD : Addr) (kE : ClassId) (kD : ClassId) (h0 : Heap) (n0 : Nat) (O0 : Old Z n0 h0) (g_a2 : n0 ≤ a2) (E_x1 : Exa Z h0 x1 "com/example/kinetic_city/kineticcity/engine/TransitLine") (E_a2 : Exa Z h0 a2 "java/util/ArrayList") (F_a2_modCount : Fld Z h0 a2 "java/util/AbstractList" "modCount" "I" (.int 3)) (F_a2_elementData : Fld Z h0 a2 "java/util/ArrayList" "elementData" "[Ljava/lang/Object;" (.ref ed)) (F_a2_size : Fld Z h0 a2 "java/util/ArrayList" "size" "I" (.int 2)) (g_ed : n0 ≤ ed) (Ov : Ovr Z ke "java/lang/Object") (E_ed : Exa Z h0 ed "[Ljava/lang/Object;") (V_ed : Arv Z h0 ed ke (.object "java/lang/Object") (10 : Int32) [(.ref l0), (.ref l1), .null] .null) (WW : World1 Z mir_0 mir_1 mir_2 mir_3 wE wD kE kD) :
    Con l Z mq11 jdk_38_method_24_code 4 none ws ({ frames := 0, cells := 0, slots := 0, locals := 0 } : Room) #[(.ref a2), (.ref x1), (.ref ed), (.int 2)] h0 (fun v h L => v = none ∧ Fr n0 L ∧ Keep h0 h [a2, ed] ∧ Exa Z h a2 "java/util/ArrayList" ∧ Fld Z h a2 "java/util/AbstractList" "modCount" "I" (.int 3) ∧ Fld Z h a2 "java/util/ArrayList" "elementData" "[Ljava/lang/Object;" (.ref ed) ∧ Fld Z h a2 "java/util/ArrayList" "size" "I" (.int 3) ∧ Ovr Z ke "java/lang/Object" ∧ Exa Z h ed "[Ljava/lang/Object;" ∧ Arv Z h ed ke (.object "java/lang/Object") (10 : Int32) [(.ref l0), (.ref l1), (.ref x1)] .null) := by
  refine own_body (plainFor_of_name pn_java_util_ArrayList) ?_
  intro p e s m below meth c s₁ hx hby hml hZ hown hnm hlk hret X0 e0
  have N0 := Fr.nil n0
  have D := @hb _ _ hby
  have K0 : Keep h0 h0 [a2, ed] := Keep.refl _ _
  refine Go.st (T' := s₁) (f' := (mkF m 0 #[rv a2, rv x1, rv ed, iv 2] [])) (fun _ k => castTop (by first | (simp [entryFrame, mkF, argsToLocals, Value.category]; done) | rfl) k) ?_
  have ⟨M_0, M_1, M_2, M_3, S_wE, E_wE, S_wD, E_wD, V_wE, V_wD⟩ := WW
  have lt_wE := E_wE.lt
  have lt_wD := E_wD.lt
  have lt_a2 := E_a2.lt
  have ne_wE_a2 : wE ≠ a2 := O0.ne lt_wE g_a2
  have ne_wD_a2 : wD ≠ a2 := O0.ne lt_wD g_a2
  have lt_x1 := E_x1.lt
  have lt_ed := V_ed.lt
  have ne_wE_ed : wE ≠ ed := O0.ne lt_wE g_ed
  have ne_wD_ed : wD ≠ ed := O0.ne lt_wD g_ed
  have nt_a2_ed : a2 ≠ ed := Exa.neArv E_a2 V_ed (ww hw 1 rfl)
  have nt_x1_ed : x1 ≠ ed := Exa.neArv E_x1 V_ed (ww hw 31 rfl)
  refine zin 1 X0 hx (D d10_0) rfl ?_
  refine zan 2 X0 hx (D d10_1) rfl rfl ?_
  obtain ⟨cl1, Ar1, -, S1, Nx1, -, -⟩ := id V_ed
  refine Go.st (T' := s₁) (f' := (mkF m 3 #[rv a2, rv x1, rv ed, iv 2] [(.int 10), (.int 2)])) (fun _ k => X0.arraylength hx (by rw [e0]; exact Ar1.1) (State.isArrayOf_alike hZ.alike Ar1.2.1) (g := (mkF m 2 #[rv a2, rv x1, rv ed, iv 2] [(.ref ed), (.int 2)])) rfl rfl (D d10_2) _ (by rw [len_of S1 Nx1]; exact k)) ?_
  refine zcy 11 X0 hx (D d10_3) (by decide) ?_
  refine zan 12 X0 hx (D d10_11) rfl rfl ?_
  refine zin 13 X0 hx (D d10_12) rfl ?_
  refine zan 14 X0 hx (D d10_13) rfl rfl ?_
  obtain ⟨cl2, Ar2, q2, S2, Nx2, H2, G2⟩ := id V_ed
  have hin2 : ¬ ((2 : Int32) < 0 ∨ cl2.slots.size ≤ ((2 : Int32)).toNatClampNeg) := inb_of S2 ⟨by decide, by decide⟩
  obtain ⟨T3, h3, X3, e3, W3, st3⟩ := stR X0 hx hZ e0 Ar2 (j := (2 : Int32)) hin2 rfl (Sto.ofV Ar2 q2 Ov (Ins.of_exa E_x1 (ww hw 98 rfl))) (g := (mkF m 14 #[rv a2, rv x1, rv ed, iv 2] [(.ref x1), (.int 2), (.ref ed)])) rfl rfl (D d10_14)
  have V_ed_3 : Arv Z h3 ed ke (.object "java/lang/Object") (10 : Int32) [(.ref l0), (.ref l1), (.ref x1)] .null := Arv.set Ar2 q2 S2 Nx2 H2 G2 rfl W3 2 rfl (Nat.le_of_ble_eq_true rfl)
  have N3 := Fr.snoc X3 N0 g_ed
  have O3 : Old Z n0 h3 := O0.wr W3 g_ed
  have K3 : Keep h0 h3 [a2, ed] := K0.wr W3 (Or.inl (List.mem_of_getElem? (i := 1) rfl))
  refine zst 15 #[rv a2, rv x1, rv ed, iv 2] [] st3 ?_
  refine zan 16 X3 hx (D d10_15) rfl rfl ?_
  refine zin 17 X3 hx (D d10_16) rfl ?_
  refine zic 18 1 X3 hx (D d10_17) ?_
  refine Go.st (f' := (mkF m 19 #[rv a2, rv x1, rv ed, iv 2] [(.int 3), (.ref a2)])) (fun _ k => XS.iadd X3.here hx rfl (D d10_18) rfl k) ?_
  have ft4 := (E_a2.wr W3)
  have ft5 := (F_a2_size.other W3 (Or.inl nt_a2_ed))
  obtain ⟨T6, h6, X6, e6, W6, st6⟩ := putF X3 hx hZ hown (host := "") (Or.inl (ww hw 76 rfl)) Via.refl e3 ft5 ft4 (Or.inl (ww hw 77 rfl)) (ww hw 1 rfl) (ty := .int) (by decide) rfl rfl (g := (mkF m 19 #[rv a2, rv x1, rv ed, iv 2] [(.int 3), (.ref a2)])) rfl rfl (D d10_19)
  have N6 := Fr.snoc X6 N3 g_a2
  have O6 : Old Z n0 h6 := O3.wr W6 g_a2
  have K6 : Keep h0 h6 [a2, ed] := K3.wr W6 (Or.inl (List.mem_of_getElem? (i := 0) rfl))
  have Fw6 := ft5.same W6
  refine zst 22 #[rv a2, rv x1, rv ed, iv 2] [] st6 ?_
  refine Go.ret0 X6 hlk hx hret (D d10_22) e6 ?_ (by decide) (by decide)
  have ft7 := (ft4.wr W6)
  have ft8 := ((F_a2_modCount.other W3 (Or.inl nt_a2_ed)).other W6 (Or.inr (slot_ne (Or.inl (ww hw 22 rfl)) (Or.inl (ww hw 77 rfl)) (by decide) (t := .int) (t' := .int) (by decide) (by decide))))
  have ft9 := ((F_a2_elementData.other W3 (Or.inl nt_a2_ed)).other W6 (Or.inr (slot_ne (Or.inl (ww hw 25 rfl)) (Or.inl (ww hw 77 rfl)) (by decide) (t := (.array (.object "java/lang/Object"))) (t' := .int) (by decide) (by decide))))
  have ft10 := ((E_ed.wr W3).wr W6)
  have ft11 := (V_ed_3.other W6 (Ne.symm nt_a2_ed))
  exact ⟨rfl, N6, K6, ft7, ft8, ft9, Fw6, Ov, ft10, ft11⟩
set_option maxRecDepth 65536 in
set_option maxHeartbeats 40000000 in
theorem rmA1_2 (l : Launch) (Z : State) (a0 : Array Value) (hw : ∀ d ∈ tables_1, d.before a0 Z = true) (ws : List Jvm.Cond) (a2 : Addr) (x1 : Addr) (l0 : Addr) (l1 : Addr) (ed : Addr) (ke : ClassId) (mir_0 : Addr) (mir_1 : Addr) (mir_2 : Addr) (mir_3 : Addr) (wE : Addr) (wD : Addr) (kE : ClassId) (kD : ClassId) (h0 : Heap) (n0 : Nat) (O0 : Old Z n0 h0) (g_a2 : n0 ≤ a2) (E_x1 : Exa Z h0 x1 "com/example/kinetic_city/kineticcity/engine/TransitLine") (E_a2 : Exa Z h0 a2 "java/util/ArrayList") (F_a2_modCount : Fld Z h0 a2 "java/util/AbstractList" "modCount" "I" (.int 2)) (F_a2_elementData : Fld Z h0 a2 "java/util/ArrayList" "elementData" "[Ljava/lang/Object;" (.ref ed)) (F_a2_size : Fld Z h0 a2 "java/util/ArrayList" "size" "I" (.int 2)) (g_ed : n0 ≤ ed) (Ov : Ovr Z ke "java/lang/Object") (E_ed : Exa Z h0 ed "[Ljava/lang/Object;") (V_ed : Arv Z h0 ed ke (.object "java/lang/Object") (10 : Int32) [(.ref l0), (.ref l1), .null] .null) (WW : World1 Z mir_0 mir_1 mir_2 mir_3 wE wD kE kD) :
    Con l Z mq12 jdk_38_method_25_code 2 (some .boolean) ws ({ frames := 1, cells := 0, slots := 0, locals := 15 } : Room) #[(.ref a2), (.ref x1)] h0 (fun v h L => v = some (.int 1) ∧ Fr n0 L ∧ Keep h0 h [a2, ed] ∧ Exa Z h a2 "java/util/ArrayList" ∧ Fld Z h a2 "java/util/AbstractList" "modCount" "I" (.int 3) ∧ Fld Z h a2 "java/util/ArrayList" "elementData" "[Ljava/lang/Object;" (.ref ed) ∧ Fld Z h a2 "java/util/ArrayList" "size" "I" (.int 3) ∧ Ovr Z ke "java/lang/Object" ∧ Exa Z h ed "[Ljava/lang/Object;" ∧ Arv Z h ed ke (.object "java/lang/Object") (10 : Int32) [(.ref l0), (.ref l1), (.ref x1)] .null) := by
  refine own_body (plainFor_of_name pn_java_util_ArrayList) ?_
  intro p e s m below meth c s₁ hx hby hml hZ hown hnm hlk hret X0 e0
  have N0 := Fr.nil n0
  have D := @hb _ _ hby
  have K0 : Keep h0 h0 [a2, ed] := Keep.refl _ _
  refine Go.st (T' := s₁) (f' := (mkF m 0 #[rv a2, rv x1] [])) (fun _ k => castTop (by first | (simp [entryFrame, mkF, argsToLocals, Value.category]; done) | rfl) k) ?_
  have ⟨M_0, M_1, M_2, M_3, S_wE, E_wE, S_wD, E_wD, V_wE, V_wD⟩ := WW
  have lt_wE := E_wE.lt
  have lt_wD := E_wD.lt
  have lt_a2 := E_a2.lt
  have ne_wE_a2 : wE ≠ a2 := O0.ne lt_wE g_a2
  have ne_wD_a2 : wD ≠ a2 := O0.ne lt_wD g_a2
  have lt_x1 := E_x1.lt
  have lt_ed := V_ed.lt
  have ne_wE_ed : wE ≠ ed := O0.ne lt_wE g_ed
  have ne_wD_ed : wD ≠ ed := O0.ne lt_wD g_ed
  have nt_a2_ed : a2 ≠ ed := Exa.neArv E_a2 V_ed (ww hw 1 rfl)
  have nt_x1_ed : x1 ≠ ed := Exa.neArv E_x1 V_ed (ww hw 31 rfl)
  refine zan 1 X0 hx (D d9_0) rfl rfl ?_
  refine Go.st (f' := (mkF m 2 #[rv a2, rv x1] [(.ref a2), (.ref a2)])) (fun _ k => XS.dup X0.here hx rfl (D d9_1) rfl rfl k) ?_
  refine zgf 5 X0 hx hZ hown (host := "") (Or.inl (ww hw 74 rfl)) (Via.of (ww hw 75 rfl)) e0 F_a2_modCount (D d9_2) fun T1 X1 e1 => ?_
  refine zic 6 1 X1 hx (D d9_5) ?_
  refine Go.st (f' := (mkF m 7 #[rv a2, rv x1] [(.int 3), (.ref a2)])) (fun _ k => XS.iadd X1.here hx rfl (D d9_6) rfl k) ?_
  obtain ⟨T2, h2, X2, e2, W2, st2⟩ := putF X1 hx hZ hown (host := "") (Or.inl (ww hw 74 rfl)) (Via.of (ww hw 75 rfl)) e1 F_a2_modCount E_a2 (Or.inl (ww hw 22 rfl)) (ww hw 1 rfl) (ty := .int) (by decide) rfl rfl (g := (mkF m 7 #[rv a2, rv x1] [(.int 3), (.ref a2)])) rfl rfl (D d9_7)
  have N2 := Fr.snoc X2 N0 g_a2
  have O2 : Old Z n0 h2 := O0.wr W2 g_a2
  have K2 : Keep h0 h2 [a2, ed] := K0.wr W2 (Or.inl (List.mem_of_getElem? (i := 0) rfl))
  have Fw2 := F_a2_modCount.same W2
  refine zst 10 #[rv a2, rv x1] [] st2 ?_
  refine zan 11 X2 hx (D d9_10) rfl rfl ?_
  refine zan 12 X2 hx (D d9_11) rfl rfl ?_
  refine zan 13 X2 hx (D d9_12) rfl rfl ?_
  have ft3 := (F_a2_elementData.other W2 (Or.inr (slot_ne (Or.inl (ww hw 25 rfl)) (Or.inl (ww hw 22 rfl)) (by decide) (t := (.array (.object "java/lang/Object"))) (t' := .int) (by decide) (by decide))))
  refine zgf 16 X2 hx hZ hown (host := "") (Or.inl (ww hw 24 rfl)) Via.refl e2 ft3 (D d9_13) fun T4 X4 e4 => ?_
  refine zan 17 X4 hx (D d9_16) rfl rfl ?_
  have ft5 := (F_a2_size.other W2 (Or.inr (slot_ne (Or.inl (ww hw 77 rfl)) (Or.inl (ww hw 22 rfl)) (by decide) (t := .int) (t' := .int) (by decide) (by decide))))
  refine zgf 20 X4 hx hZ hown (host := "") (Or.inl (ww hw 76 rfl)) Via.refl e4 ft5 (D d9_17) fun T6 X6 e6 => ?_
  have ft8 := (E_a2.wr W2)
  have ft9 := (E_x1.wr W2)
  have ft10 := (E_ed.wr W2)
  have ft11 := (V_ed.other W2 (Ne.symm nt_a2_ed))
  obtain ⟨cq7, q7, q7'⟩ := ft8.cell
  obtain ⟨_, _, ⟨T7, L7, kk7, nn7⟩, -, X7, ⟨Lc7, hQ7, lq7, yq7, zz7⟩, st7⟩ := X6.privateBack hx (y := mq11) hown (mvT hZ (ww hw 78 rfl)) (mvT hZ (ww hw 79 rfl)) (mvT hZ (ww hw 81 rfl)) (Cond.privateMethod_at (mvP hZ (ww hw 80 rfl) (args := #[]))) (mvT hZ (ww hw 82 rfl)) (by decide) (own_back (W := 0) (rmA3_2 l Z a0 hw [] a2 x1 l0 l1 ed ke mir_0 mir_1 mir_2 mir_3 wE wD kE kD h2 n0 O2 g_a2 ft9 ft8 Fw2 ft3 ft5 g_ed Ov ft10 ft11 WW) hZ (ww hw 82 rfl) (ww hw 2 rfl) (by decide) (by decide)) (g := (mkF m 20 #[rv a2, rv x1] [(.int 2), (.ref ed), (.ref x1), (.ref a2)])) rfl (by rw [hml]; rfl) (Steps.refl _) (a := a2) (by rw [e6]; exact q7) q7' (argsL := [(.ref x1), (.ref ed), (.int (2 : Int32))]) (rest := []) (lenOf pd__Ljava_lang_Object__Ljava_lang_Object_I_V rfl) rfl (by show 2 * 0 + _ ≤ _; exact Nat.le_of_eq rfl) (D d9_20) (fun _ _ => ⟨rfl, e6, (by decide : 0 + 0 ≤ _), (by decide : 0 + 0 ≤ _)⟩)
  dsimp only [Pt.U, Pt.locs, Pt.cells, Pt.slots] at X7 lq7 yq7 zz7 st7 hQ7
  subst lq7 yq7 zz7
  obtain ⟨rfl, Nq7, kq7, eq7, mq7, dq7, sq7, ov7, xq7, vq7⟩ := hQ7
  have N7 := Fr.app N2 Nq7
  have O7 : Old Z n0 T7.heap := O2.keep kq7 (allS g_a2 (allS g_ed all0))
  have K7 : Keep h0 T7.heap [a2, ed] := K2.trans kq7 (allS (Or.inl (List.mem_of_getElem? (i := 0) rfl)) (allS (Or.inl (List.mem_of_getElem? (i := 1) rfl)) all0))
  refine Go.tr (f' := (mkF m 23 #[rv a2, rv x1] [])) st7 ?_
  refine zic 24 1 X7 hx (D d9_23) ?_
  refine Go.retB X7 hlk hx (t := .boolean) hret (by simp) (D d9_24) rfl ?_ (by decide) (by decide)
  exact ⟨rfl, N7, K7, eq7, mq7, dq7, sq7, ov7, xq7, vq7⟩
theorem pn_java_util_ArrayList_Itr : plainName "java/util/ArrayList$Itr" = true := by first | (simp [plainName, overriddenIn]; done) | decide +kernel
theorem d16_0 : decode jdk_49_method_1_code 0 = .ok (.aload_n 0, 1) := by decide +kernel
theorem d16_1 : decode jdk_49_method_1_code 1 = .ok (.aload_n 1, 1) := by decide +kernel
theorem d16_2 : decode jdk_49_method_1_code 2 = .ok (.putfield 1, 3) := by decide +kernel
theorem d16_5 : decode jdk_49_method_1_code 5 = .ok (.aload_n 0, 1) := by decide +kernel
theorem d16_6 : decode jdk_49_method_1_code 6 = .ok (.invokespecial 7, 3) := by decide +kernel
theorem d16_9 : decode jdk_49_method_1_code 9 = .ok (.aload_n 0, 1) := by decide +kernel
theorem d16_10 : decode jdk_49_method_1_code 10 = .ok (.iconst (-1), 1) := by decide +kernel
theorem d16_11 : decode jdk_49_method_1_code 11 = .ok (.putfield 13, 3) := by decide +kernel
theorem d16_14 : decode jdk_49_method_1_code 14 = .ok (.aload_n 0, 1) := by decide +kernel
theorem d16_15 : decode jdk_49_method_1_code 15 = .ok (.aload_n 0, 1) := by decide +kernel
theorem d16_16 : decode jdk_49_method_1_code 16 = .ok (.getfield 1, 3) := by decide +kernel
theorem d16_19 : decode jdk_49_method_1_code 19 = .ok (.getfield 17, 3) := by decide +kernel
theorem d16_22 : decode jdk_49_method_1_code 22 = .ok (.putfield 22, 3) := by decide +kernel
theorem d16_25 : decode jdk_49_method_1_code 25 = .ok (.return_, 1) := by decide +kernel
set_option maxRecDepth 65536 in
set_option maxHeartbeats 40000000 in
theorem rmIi (l : Launch) (Z : State) (a0 : Array Value) (hw : ∀ d ∈ tables_1, d.before a0 Z = true) (ws : List Jvm.Cond) (a1 : Addr) (a2 : Addr) (ed : Addr) (ke : ClassId) (l0 : Addr) (l1 : Addr) (l2 : Addr) (h0 : Heap) (n0 : Nat) (O0 : Old Z n0 h0) (g_a1 : n0 ≤ a1) (E_a1 : Exa Z h0 a1 "java/util/ArrayList$Itr") (F_a1_this_0 : Fld Z h0 a1 "java/util/ArrayList$Itr" "this$0" "Ljava/util/ArrayList;" .null) (F_a1_lastRet : Fld Z h0 a1 "java/util/ArrayList$Itr" "lastRet" "I" (.int 0)) (F_a1_expectedModCount : Fld Z h0 a1 "java/util/ArrayList$Itr" "expectedModCount" "I" (.int 0)) (F_a1_cursor : Fld Z h0 a1 "java/util/ArrayList$Itr" "cursor" "I" (.int 0)) (ne12 : a1 ≠ a2) (E_a2 : Exa Z h0 a2 "java/util/ArrayList") (F_a2_modCount : Fld Z h0 a2 "java/util/AbstractList" "modCount" "I" (.int 3)) (F_a2_elementData : Fld Z h0 a2 "java/util/ArrayList" "elementData" "[Ljava/lang/Object;" (.ref ed)) (F_a2_size : Fld Z h0 a2 "java/util/ArrayList" "size" "I" (.int 3)) (V_ed : Arv Z h0 ed ke (.object "java/lang/Object") (10 : Int32) [(.ref l0), (.ref l1), (.ref l2)] .null) :
    Con l Z mq13 jdk_49_method_1_code 2 none ws ({ frames := 1, cells := 0, slots := 0, locals := 12 } : Room) #[(.ref a1), (.ref a2)] h0 (fun v h L => v = none ∧ Fr n0 L ∧ Keep h0 h [a1] ∧ Exa Z h a1 "java/util/ArrayList$Itr" ∧ Fld Z h a1 "java/util/ArrayList$Itr" "this$0" "Ljava/util/ArrayList;" (.ref a2) ∧ Fld Z h a1 "java/util/ArrayList$Itr" "lastRet" "I" (.int (-1)) ∧ Fld Z h a1 "java/util/ArrayList$Itr" "expectedModCount" "I" (.int 3) ∧ Fld Z h a1 "java/util/ArrayList$Itr" "cursor" "I" (.int 0)) := by
  refine own_body (plainFor_of_name pn_java_util_ArrayList_Itr) ?_
  intro p e s m below meth c s₁ hx hby hml hZ hown hnm hlk hret X0 e0
  have N0 := Fr.nil n0
  have D := @hb _ _ hby
  have K0 : Keep h0 h0 [a1] := Keep.refl _ _
  refine Go.st (T' := s₁) (f' := (mkF m 0 #[rv a1, rv a2] [])) (fun _ k => castTop (by first | (simp [entryFrame, mkF, argsToLocals, Value.category]; done) | rfl) k) ?_
  have lt_a2 := E_a2.lt
  have lt_ed := V_ed.lt
  have n1d : a1 ≠ ed := Exa.neArv E_a1 V_ed (ww hw 116 rfl)
  have lt_a1 := E_a1.lt
  refine zan 1 X0 hx (D d16_0) rfl rfl ?_
  refine zan 2 X0 hx (D d16_1) rfl rfl ?_
  obtain ⟨T1, h1, X1, e1, W1, st1⟩ := putF X0 hx hZ hown (host := "") (Or.inl (ww hw 122 rfl)) Via.refl e0 F_a1_this_0 E_a1 (Or.inr ⟨(ww hw 123 rfl), rfl, hnm⟩) (ww hw 116 rfl) (ty := (.object "java/util/ArrayList")) (by decide) rfl rfl (g := (mkF m 2 #[rv a1, rv a2] [(.ref a2), (.ref a1)])) rfl rfl (D d16_2)
  have N1 := Fr.snoc X1 N0 g_a1
  have O1 : Old Z n0 h1 := O0.wr W1 g_a1
  have K1 : Keep h0 h1 [a1] := K0.wr W1 (Or.inl (List.mem_of_getElem? (i := 0) rfl))
  have Fw1 := F_a1_this_0.same W1
  refine zst 5 #[rv a1, rv a2] [] st1 ?_
  refine zan 6 X1 hx (D d16_5) rfl rfl ?_
  obtain ⟨T2, X2, e2, st2⟩ := initO X1 hx hZ hown (ww hw 124 rfl) (ww hw 19 rfl) (ww hw 20 rfl) e1 (g := (mkF m 6 #[rv a1, rv a2] [(.ref a1)])) rfl (by rw [hml]; rfl) rfl (D d16_6) (by decide) (W := 0) (by show 2 * 0 + _ ≤ _; exact Nat.le_of_eq rfl) (by decide)
  refine zst 9 #[rv a1, rv a2] [] st2 ?_
  refine zan 10 X2 hx (D d16_9) rfl rfl ?_
  refine zic 11 (-1) X2 hx (D d16_10) ?_
  have ft3 := (E_a1.wr W1)
  have ft4 := (F_a1_lastRet.other W1 (Or.inr (slot_ne (Or.inl (ww hw 126 rfl)) (Or.inr (ww hw 123 rfl)) (by decide) (t := .int) (t' := (.object "java/util/ArrayList")) (by decide) (by decide))))
  obtain ⟨T5, h5, X5, e5, W5, st5⟩ := putF X2 hx hZ hown (host := "") (Or.inl (ww hw 125 rfl)) Via.refl e2 ft4 ft3 (Or.inl (ww hw 126 rfl)) (ww hw 116 rfl) (ty := .int) (by decide) rfl rfl (g := (mkF m 11 #[rv a1, rv a2] [(.int (-1)), (.ref a1)])) rfl rfl (D d16_11)
  have N5 := Fr.snoc X5 N1 g_a1
  have O5 : Old Z n0 h5 := O1.wr W5 g_a1
  have K5 : Keep h0 h5 [a1] := K1.wr W5 (Or.inl (List.mem_of_getElem? (i := 0) rfl))
  have Fw5 := ft4.same W5
  refine zst 14 #[rv a1, rv a2] [] st5 ?_
  refine zan 15 X5 hx (D d16_14) rfl rfl ?_
  refine zan 16 X5 hx (D d16_15) rfl rfl ?_
  have ft6 := (Fw1.other W5 (Or.inr (slot_ne (Or.inr (ww hw 123 rfl)) (Or.inl (ww hw 126 rfl)) (by decide) (t := (.object "java/util/ArrayList")) (t' := .int) (by decide) (by decide))))
  refine zgf 19 X5 hx hZ hown (host := "") (Or.inl (ww hw 122 rfl)) Via.refl e5 ft6 (D d16_16) fun T7 X7 e7 => ?_
  have ft8 := ((F_a2_modCount.other W1 (Or.inl (Ne.symm ne12))).other W5 (Or.inl (Ne.symm ne12)))
  refine zgf 22 X7 hx hZ hown (host := "") (Or.inl (ww hw 127 rfl)) (Via.of (ww hw 75 rfl)) e7 ft8 (D d16_19) fun T9 X9 e9 => ?_
  have ft10 := (ft3.wr W5)
  have ft11 := ((F_a1_expectedModCount.other W1 (Or.inr (slot_ne (Or.inl (ww hw 129 rfl)) (Or.inr (ww hw 123 rfl)) (by decide) (t := .int) (t' := (.object "java/util/ArrayList")) (by decide) (by decide)))).other W5 (Or.inr (slot_ne (Or.inl (ww hw 129 rfl)) (Or.inl (ww hw 126 rfl)) (by decide) (t := .int) (t' := .int) (by decide) (by decide))))
  obtain ⟨T12, h12, X12, e12, W12, st12⟩ := putF X9 hx hZ hown (host := "") (Or.inl (ww hw 128 rfl)) Via.refl e9 ft11 ft10 (Or.inl (ww hw 129 rfl)) (ww hw 116 rfl) (ty := .int) (by decide) rfl rfl (g := (mkF m 22 #[rv a1, rv a2] [(.int 3), (.ref a1)])) rfl rfl (D d16_22)
  have N12 := Fr.snoc X12 N5 g_a1
  have O12 : Old Z n0 h12 := O5.wr W12 g_a1
  have K12 : Keep h0 h12 [a1] := K5.wr W12 (Or.inl (List.mem_of_getElem? (i := 0) rfl))
  have Fw12 := ft11.same W12
  refine zst 25 #[rv a1, rv a2] [] st12 ?_
  refine Go.ret0 X12 hlk hx hret (D d16_25) e12 ?_ (by decide) (by decide)
  have ft13 := (ft10.wr W12)
  have ft14 := (ft6.other W12 (Or.inr (slot_ne (Or.inr (ww hw 123 rfl)) (Or.inl (ww hw 129 rfl)) (by decide) (t := (.object "java/util/ArrayList")) (t' := .int) (by decide) (by decide))))
  have ft15 := (Fw5.other W12 (Or.inr (slot_ne (Or.inl (ww hw 126 rfl)) (Or.inl (ww hw 129 rfl)) (by decide) (t := .int) (t' := .int) (by decide) (by decide))))
  have ft16 := (((F_a1_cursor.other W1 (Or.inr (slot_ne (Or.inl (ww hw 140 rfl)) (Or.inr (ww hw 123 rfl)) (by decide) (t := .int) (t' := (.object "java/util/ArrayList")) (by decide) (by decide)))).other W5 (Or.inr (slot_ne (Or.inl (ww hw 140 rfl)) (Or.inl (ww hw 126 rfl)) (by decide) (t := .int) (t' := .int) (by decide) (by decide)))).other W12 (Or.inr (slot_ne (Or.inl (ww hw 140 rfl)) (Or.inl (ww hw 129 rfl)) (by decide) (t := .int) (t' := .int) (by decide) (by decide))))
  exact ⟨rfl, N12, K12, ft13, ft14, ft15, Fw12, ft16⟩
theorem d15_0 : decode jdk_38_method_55_code 0 = .ok (.new 267, 3) := by decide +kernel
theorem d15_3 : decode jdk_38_method_55_code 3 = .ok (.dup, 1) := by decide +kernel
theorem d15_4 : decode jdk_38_method_55_code 4 = .ok (.aload_n 0, 1) := by decide +kernel
theorem d15_5 : decode jdk_38_method_55_code 5 = .ok (.invokespecial 269, 3) := by decide +kernel
theorem pd__Ljava_util_ArrayList__V : parseMethodDescriptor "(Ljava/util/ArrayList;)V" = some ⟨[(.object "java/util/ArrayList")], none⟩ := by decide +kernel
theorem d15_8 : decode jdk_38_method_55_code 8 = .ok (.areturn, 1) := by decide +kernel
set_option maxRecDepth 65536 in
set_option maxHeartbeats 40000000 in
theorem rmIt (l : Launch) (Z : State) (a0 : Array Value) (hw : ∀ d ∈ tables_1, d.before a0 Z = true) (ws : List Jvm.Cond) (a2 : Addr) (ed : Addr) (ke : ClassId) (l0 : Addr) (l1 : Addr) (l2 : Addr) (h0 : Heap) (n0 : Nat) (O0 : Old Z n0 h0) (E_a2 : Exa Z h0 a2 "java/util/ArrayList") (F_a2_modCount : Fld Z h0 a2 "java/util/AbstractList" "modCount" "I" (.int 3)) (F_a2_elementData : Fld Z h0 a2 "java/util/ArrayList" "elementData" "[Ljava/lang/Object;" (.ref ed)) (F_a2_size : Fld Z h0 a2 "java/util/ArrayList" "size" "I" (.int 3)) (V_ed : Arv Z h0 ed ke (.object "java/lang/Object") (10 : Int32) [(.ref l0), (.ref l1), (.ref l2)] .null) :
    Con l Z mq14 jdk_38_method_55_code 1 (some (.object "java/util/Iterator")) ws ({ frames := 2, cells := 1, slots := 4, locals := 26 } : Room) #[(.ref a2)] h0 (fun v h L => ∃ b : Addr, v = some (.ref b) ∧ Fr n0 L ∧ h0.size ≤ b ∧ Keep h0 h [] ∧ Exa Z h b "java/util/ArrayList$Itr" ∧ Fld Z h b "java/util/ArrayList$Itr" "this$0" "Ljava/util/ArrayList;" (.ref a2) ∧ Fld Z h b "java/util/ArrayList$Itr" "lastRet" "I" (.int (-1)) ∧ Fld Z h b "java/util/ArrayList$Itr" "expectedModCount" "I" (.int 3) ∧ Fld Z h b "java/util/ArrayList$Itr" "cursor" "I" (.int 0)) := by
  refine own_body (plainFor_of_name pn_java_util_ArrayList) ?_
  intro p e s m below meth c s₁ hx hby hml hZ hown hnm hlk hret X0 e0
  have N0 := Fr.nil n0
  have D := @hb _ _ hby
  have K0 : Keep h0 h0 [] := Keep.refl _ _
  refine Go.st (T' := s₁) (f' := (mkF m 0 #[rv a2] [])) (fun _ k => castTop (by first | (simp [entryFrame, mkF, argsToLocals, Value.category]; done) | rfl) k) ?_
  have lt_a2 := E_a2.lt
  have lt_ed := V_ed.lt
  obtain ⟨T1, h1, X1, e1, E1, A1, D1, -, st1⟩ := newO X0 hx hZ hown (ww hw 115 rfl) (ww hw 116 rfl) (ww hw 117 rfl) e0 (g := (mkF m 0 #[rv a2] [])) rfl (D d15_0) (by decide) (by decide)
  obtain ⟨b1, g1⟩ : ∃ z, z = h0.size := ⟨_, rfl⟩
  rw [← g1] at A1 D1 st1
  have ne_a2_b1 : a2 ≠ b1 := Nat.ne_of_lt (lteq lt_a2 g1.symm)
  have ne_ed_b1 : ed ≠ b1 := Nat.ne_of_lt (lteq lt_ed g1.symm)
  have g_b1 : n0 ≤ b1 := Nat.le_trans (O0.1 ▸ O0.2.1) (Nat.le_of_eq g1.symm)
  have O1 : Old Z n0 h1 := O0.ext E1
  have sz_b1 : h0.size ≤ b1 := Nat.le_trans K0.1 (Nat.le_of_eq g1.symm)
  have K1 : Keep h0 h1 [] := K0.ext E1
  have lt_b1 := A1.lt
  have F_this_0_b1 : Fld Z h1 b1 "java/util/ArrayList$Itr" "this$0" "Ljava/util/ArrayList;" .null := D1 (Or.inr (ww hw 123 rfl)) (ty := (.object "java/util/ArrayList")) (by decide)
  have F_lastRet_b1 : Fld Z h1 b1 "java/util/ArrayList$Itr" "lastRet" "I" (.int (0 : Int32)) := D1 (Or.inl (ww hw 126 rfl)) (ty := .int) (by decide)
  have F_expectedModCount_b1 : Fld Z h1 b1 "java/util/ArrayList$Itr" "expectedModCount" "I" (.int (0 : Int32)) := D1 (Or.inl (ww hw 129 rfl)) (ty := .int) (by decide)
  have F_cursor_b1 : Fld Z h1 b1 "java/util/ArrayList$Itr" "cursor" "I" (.int (0 : Int32)) := D1 (Or.inl (ww hw 140 rfl)) (ty := .int) (by decide)
  refine zst 3 #[rv a2] [(.ref b1)] st1 ?_
  refine Go.st (f' := (mkF m 4 #[rv a2] [(.ref b1), (.ref b1)])) (fun _ k => XS.dup X1.here hx rfl (D d15_3) rfl rfl k) ?_
  refine zan 5 X1 hx (D d15_4) rfl rfl ?_
  have ft3 := (E_a2.ext E1)
  have ft4 := (F_a2_modCount.ext E1)
  have ft5 := (F_a2_elementData.ext E1)
  have ft6 := (F_a2_size.ext E1)
  have ft7 := (V_ed.ext E1)
  obtain ⟨_, _, ⟨T2, L2, kk2, nn2⟩, -, X2, ⟨Lc2, hQ2, lq2, yq2, zz2⟩, st2⟩ := X1.specialBack hx (y := mq13) rfl hown (mvT hZ (ww hw 118 rfl)) (mvT hZ (ww hw 119 rfl)) (mvT hZ (ww hw 121 rfl)) (by decide) (own_back (W := 1) (rmIi l Z a0 hw [] b1 a2 ed ke l0 l1 l2 h1 n0 O1 g_b1 A1 F_this_0_b1 F_lastRet_b1 F_expectedModCount_b1 F_cursor_b1 (Ne.symm ne_a2_b1) ft3 ft4 ft5 ft6 ft7) hZ (ww hw 121 rfl) (ww hw 117 rfl) (by decide) (by decide)) (g := (mkF m 5 #[rv a2] [(.ref a2), (.ref b1), (.ref b1)])) rfl (by rw [hml]; rfl) (Steps.refl _) (a := b1) (argsL := [(.ref a2)]) (rest := [(.ref b1)]) (lenOf pd__Ljava_util_ArrayList__V rfl) rfl (by show 2 * 0 + _ ≤ _; exact Nat.le_of_eq rfl) (D d15_5) (fun _ _ => ⟨rfl, e1, (by decide : 1 + 0 ≤ _), (by decide : 4 + 0 ≤ _)⟩)
  dsimp only [Pt.U, Pt.locs, Pt.cells, Pt.slots] at X2 lq2 yq2 zz2 st2 hQ2
  subst lq2 yq2 zz2
  obtain ⟨rfl, Nq2, kq2, eq2, fq2_0, fq2_1, fq2_2, fq2_3⟩ := hQ2
  have N2 := Fr.app N0 Nq2
  have O2 : Old Z n0 T2.heap := O1.keep kq2 (allS g_b1 all0)
  have K2 : Keep h0 T2.heap [] := K1.trans kq2 (allS (Or.inr sz_b1) all0)
  refine Go.tr (f' := (mkF m 8 #[rv a2] [(.ref b1)])) st2 ?_
  refine Go.retV X2 hlk hx (t := (.object "java/util/Iterator")) hret rfl (Or.inr (Or.inr (Or.inr (Or.inr ⟨rfl, rfl, rfl⟩)))) (D d15_8) rfl ?_ (by decide) (by decide)
  exact ⟨b1, rfl, N2, sz_b1, K2, eq2, fq2_0, fq2_1, fq2_2, fq2_3⟩
theorem d17_0 : decode jdk_49_method_2_code 0 = .ok (.aload_n 0, 1) := by decide +kernel
theorem d17_1 : decode jdk_49_method_2_code 1 = .ok (.getfield 25, 3) := by decide +kernel
theorem d17_4 : decode jdk_49_method_2_code 4 = .ok (.aload_n 0, 1) := by decide +kernel
theorem d17_5 : decode jdk_49_method_2_code 5 = .ok (.getfield 1, 3) := by decide +kernel
theorem d17_8 : decode jdk_49_method_2_code 8 = .ok (.getfield 28, 3) := by decide +kernel
theorem d17_11 : decode jdk_49_method_2_code 11 = .ok (.if_icmp .eq 7, 3) := by decide +kernel
theorem d17_14 : decode jdk_49_method_2_code 14 = .ok (.iconst 1, 1) := by decide +kernel
theorem d17_15 : decode jdk_49_method_2_code 15 = .ok (.goto 4, 3) := by decide +kernel
theorem d17_19 : decode jdk_49_method_2_code 19 = .ok (.ireturn, 1) := by decide +kernel
set_option maxRecDepth 65536 in
set_option maxHeartbeats 40000000 in
theorem rmHn0 (l : Launch) (Z : State) (a0 : Array Value) (hw : ∀ d ∈ tables_1, d.before a0 Z = true) (ws : List Jvm.Cond) (a1 : Addr) (a2 : Addr) (ed : Addr) (ke : ClassId) (l0 : Addr) (l1 : Addr) (l2 : Addr) (h0 : Heap) (n0 : Nat) (O0 : Old Z n0 h0) (g_a1 : n0 ≤ a1) (ne12 : a1 ≠ a2) (E_a1 : Exa Z h0 a1 "java/util/ArrayList$Itr") (F_a1_this_0 : Fld Z h0 a1 "java/util/ArrayList$Itr" "this$0" "Ljava/util/ArrayList;" (.ref a2)) (F_a1_lastRet : Fld Z h0 a1 "java/util/ArrayList$Itr" "lastRet" "I" (.int (-1))) (F_a1_expectedModCount : Fld Z h0 a1 "java/util/ArrayList$Itr" "expectedModCount" "I" (.int 3)) (F_a1_cursor : Fld Z h0 a1 "java/util/ArrayList$Itr" "cursor" "I" (.int 0)) (E_a2 : Exa Z h0 a2 "java/util/ArrayList") (F_a2_modCount : Fld Z h0 a2 "java/util/AbstractList" "modCount" "I" (.int 3)) (F_a2_elementData : Fld Z h0 a2 "java/util/ArrayList" "elementData" "[Ljava/lang/Object;" (.ref ed)) (F_a2_size : Fld Z h0 a2 "java/util/ArrayList" "size" "I" (.int 3)) (V_ed : Arv Z h0 ed ke (.object "java/lang/Object") (10 : Int32) [(.ref l0), (.ref l1), (.ref l2)] .null) :
    Con l Z mq15 jdk_49_method_2_code 1 (some .boolean) ws ({ frames := 0, cells := 0, slots := 0, locals := 0 } : Room) #[(.ref a1)] h0 (fun v h L => v = some (.int 1) ∧ Fr n0 L ∧ h = h0) := by
  refine own_body (plainFor_of_name pn_java_util_ArrayList_Itr) ?_
  intro p e s m below meth c s₁ hx hby hml hZ hown hnm hlk hret X0 e0
  have N0 := Fr.nil n0
  have D := @hb _ _ hby
  refine Go.st (T' := s₁) (f' := (mkF m 0 #[rv a1] [])) (fun _ k => castTop (by first | (simp [entryFrame, mkF, argsToLocals, Value.category]; done) | rfl) k) ?_
  have lt_a1 := E_a1.lt
  have lt_a2 := E_a2.lt
  have lt_ed := V_ed.lt
  have n1d : a1 ≠ ed := Exa.neArv E_a1 V_ed (ww hw 116 rfl)
  refine zan 1 X0 hx (D d17_0) rfl rfl ?_
  refine zgf 4 X0 hx hZ hown (host := "") (Or.inl (ww hw 139 rfl)) Via.refl e0 F_a1_cursor (D d17_1) fun T1 X1 e1 => ?_
  refine zan 5 X1 hx (D d17_4) rfl rfl ?_
  refine zgf 8 X1 hx hZ hown (host := "") (Or.inl (ww hw 122 rfl)) Via.refl e1 F_a1_this_0 (D d17_5) fun T2 X2 e2 => ?_
  refine zgf 11 X2 hx hZ hown (Or.inr (ww hw 141 rfl)) Via.refl e2 F_a2_size (D d17_8) fun T3 X3 e3 => ?_
  refine zcn 14 X3 hx (D d17_11) (by decide) ?_
  refine zic 15 1 X3 hx (D d17_14) ?_
  refine zgo 19 X3 hx (D d17_15) ?_
  refine Go.retB X3 hlk hx (t := .boolean) hret (by simp) (D d17_19) e3 ?_ (by decide) (by decide)
  exact ⟨rfl, N0, rfl⟩
theorem d19_0 : decode jdk_49_method_6_code 0 = .ok (.aload_n 0, 1) := by decide +kernel
theorem d19_1 : decode jdk_49_method_6_code 1 = .ok (.getfield 1, 3) := by decide +kernel
theorem d19_4 : decode jdk_49_method_6_code 4 = .ok (.getfield 17, 3) := by decide +kernel
theorem d19_7 : decode jdk_49_method_6_code 7 = .ok (.aload_n 0, 1) := by decide +kernel
theorem d19_8 : decode jdk_49_method_6_code 8 = .ok (.getfield 22, 3) := by decide +kernel
theorem d19_11 : decode jdk_49_method_6_code 11 = .ok (.if_icmp .eq 11, 3) := by decide +kernel
theorem d19_22 : decode jdk_49_method_6_code 22 = .ok (.return_, 1) := by decide +kernel
set_option maxRecDepth 65536 in
set_option maxHeartbeats 40000000 in
theorem rmCk0 (l : Launch) (Z : State) (a0 : Array Value) (hw : ∀ d ∈ tables_1, d.before a0 Z = true) (ws : List Jvm.Cond) (a1 : Addr) (a2 : Addr) (ed : Addr) (ke : ClassId) (l0 : Addr) (l1 : Addr) (l2 : Addr) (h0 : Heap) (n0 : Nat) (O0 : Old Z n0 h0) (g_a1 : n0 ≤ a1) (ne12 : a1 ≠ a2) (E_a1 : Exa Z h0 a1 "java/util/ArrayList$Itr") (F_a1_this_0 : Fld Z h0 a1 "java/util/ArrayList$Itr" "this$0" "Ljava/util/ArrayList;" (.ref a2)) (F_a1_lastRet : Fld Z h0 a1 "java/util/ArrayList$Itr" "lastRet" "I" (.int (-1))) (F_a1_expectedModCount : Fld Z h0 a1 "java/util/ArrayList$Itr" "expectedModCount" "I" (.int 3)) (F_a1_cursor : Fld Z h0 a1 "java/util/ArrayList$Itr" "cursor" "I" (.int 0)) (E_a2 : Exa Z h0 a2 "java/util/ArrayList") (F_a2_modCount : Fld Z h0 a2 "java/util/AbstractList" "modCount" "I" (.int 3)) (F_a2_elementData : Fld Z h0 a2 "java/util/ArrayList" "elementData" "[Ljava/lang/Object;" (.ref ed)) (F_a2_size : Fld Z h0 a2 "java/util/ArrayList" "size" "I" (.int 3)) (V_ed : Arv Z h0 ed ke (.object "java/lang/Object") (10 : Int32) [(.ref l0), (.ref l1), (.ref l2)] .null) :
    Con l Z mq16 jdk_49_method_6_code 1 none ws ({ frames := 0, cells := 0, slots := 0, locals := 0 } : Room) #[(.ref a1)] h0 (fun v h L => v = none ∧ Fr n0 L ∧ h = h0) := by
  refine own_body (plainFor_of_name pn_java_util_ArrayList_Itr) ?_
  intro p e s m below meth c s₁ hx hby hml hZ hown hnm hlk hret X0 e0
  have N0 := Fr.nil n0
  have D := @hb _ _ hby
  refine Go.st (T' := s₁) (f' := (mkF m 0 #[rv a1] [])) (fun _ k => castTop (by first | (simp [entryFrame, mkF, argsToLocals, Value.category]; done) | rfl) k) ?_
  have lt_a1 := E_a1.lt
  have lt_a2 := E_a2.lt
  have lt_ed := V_ed.lt
  have n1d : a1 ≠ ed := Exa.neArv E_a1 V_ed (ww hw 116 rfl)
  refine zan 1 X0 hx (D d19_0) rfl rfl ?_
  refine zgf 4 X0 hx hZ hown (host := "") (Or.inl (ww hw 122 rfl)) Via.refl e0 F_a1_this_0 (D d19_1) fun T1 X1 e1 => ?_
  refine zgf 7 X1 hx hZ hown (host := "") (Or.inl (ww hw 127 rfl)) (Via.of (ww hw 75 rfl)) e1 F_a2_modCount (D d19_4) fun T2 X2 e2 => ?_
  refine zan 8 X2 hx (D d19_7) rfl rfl ?_
  refine zgf 11 X2 hx hZ hown (host := "") (Or.inl (ww hw 128 rfl)) Via.refl e2 F_a1_expectedModCount (D d19_8) fun T3 X3 e3 => ?_
  refine zcy 22 X3 hx (D d19_11) (by decide) ?_
  refine Go.ret0 X3 hlk hx hret (D d19_22) e3 ?_ (by decide) (by decide)
  exact ⟨rfl, N0, rfl⟩
theorem d18_0 : decode jdk_49_method_3_code 0 = .ok (.aload_n 0, 1) := by decide +kernel
theorem d18_1 : decode jdk_49_method_3_code 1 = .ok (.invokevirtual 31, 3) := by decide +kernel
theorem d18_4 : decode jdk_49_method_3_code 4 = .ok (.aload_n 0, 1) := by decide +kernel
theorem d18_5 : decode jdk_49_method_3_code 5 = .ok (.getfield 25, 3) := by decide +kernel
theorem d18_8 : decode jdk_49_method_3_code 8 = .ok (.istore_n 1, 1) := by decide +kernel
theorem d18_9 : decode jdk_49_method_3_code 9 = .ok (.iload_n 1, 1) := by decide +kernel
theorem d18_10 : decode jdk_49_method_3_code 10 = .ok (.aload_n 0, 1) := by decide +kernel
theorem d18_11 : decode jdk_49_method_3_code 11 = .ok (.getfield 1, 3) := by decide +kernel
theorem d18_14 : decode jdk_49_method_3_code 14 = .ok (.getfield 28, 3) := by decide +kernel
theorem d18_17 : decode jdk_49_method_3_code 17 = .ok (.if_icmp .lt 11, 3) := by decide +kernel
theorem d18_28 : decode jdk_49_method_3_code 28 = .ok (.aload_n 0, 1) := by decide +kernel
theorem d18_29 : decode jdk_49_method_3_code 29 = .ok (.getfield 1, 3) := by decide +kernel
theorem d18_32 : decode jdk_49_method_3_code 32 = .ok (.getfield 37, 3) := by decide +kernel
theorem d18_35 : decode jdk_49_method_3_code 35 = .ok (.astore_n 2, 1) := by decide +kernel
theorem d18_36 : decode jdk_49_method_3_code 36 = .ok (.iload_n 1, 1) := by decide +kernel
theorem d18_37 : decode jdk_49_method_3_code 37 = .ok (.aload_n 2, 1) := by decide +kernel
theorem d18_38 : decode jdk_49_method_3_code 38 = .ok (.arraylength, 1) := by decide +kernel
theorem d18_39 : decode jdk_49_method_3_code 39 = .ok (.if_icmp .lt 11, 3) := by decide +kernel
theorem d18_50 : decode jdk_49_method_3_code 50 = .ok (.aload_n 0, 1) := by decide +kernel
theorem d18_51 : decode jdk_49_method_3_code 51 = .ok (.iload_n 1, 1) := by decide +kernel
theorem d18_52 : decode jdk_49_method_3_code 52 = .ok (.iconst 1, 1) := by decide +kernel
theorem d18_53 : decode jdk_49_method_3_code 53 = .ok (.iadd, 1) := by decide +kernel
theorem d18_54 : decode jdk_49_method_3_code 54 = .ok (.putfield 25, 3) := by decide +kernel
theorem d18_57 : decode jdk_49_method_3_code 57 = .ok (.aload_n 2, 1) := by decide +kernel
theorem d18_58 : decode jdk_49_method_3_code 58 = .ok (.aload_n 0, 1) := by decide +kernel
theorem d18_59 : decode jdk_49_method_3_code 59 = .ok (.iload_n 1, 1) := by decide +kernel
theorem d18_60 : decode jdk_49_method_3_code 60 = .ok (.dup_x1, 1) := by decide +kernel
theorem d18_61 : decode jdk_49_method_3_code 61 = .ok (.putfield 13, 3) := by decide +kernel
theorem d18_64 : decode jdk_49_method_3_code 64 = .ok (.aaload, 1) := by decide +kernel
theorem d18_65 : decode jdk_49_method_3_code 65 = .ok (.areturn, 1) := by decide +kernel
set_option maxRecDepth 65536 in
set_option maxHeartbeats 40000000 in
theorem rmNx0 (l : Launch) (Z : State) (a0 : Array Value) (hw : ∀ d ∈ tables_1, d.before a0 Z = true) (ws : List Jvm.Cond) (a1 : Addr) (a2 : Addr) (ed : Addr) (ke : ClassId) (l0 : Addr) (l1 : Addr) (l2 : Addr) (h0 : Heap) (n0 : Nat) (O0 : Old Z n0 h0) (g_a1 : n0 ≤ a1) (ne12 : a1 ≠ a2) (E_a1 : Exa Z h0 a1 "java/util/ArrayList$Itr") (F_a1_this_0 : Fld Z h0 a1 "java/util/ArrayList$Itr" "this$0" "Ljava/util/ArrayList;" (.ref a2)) (F_a1_lastRet : Fld Z h0 a1 "java/util/ArrayList$Itr" "lastRet" "I" (.int (-1))) (F_a1_expectedModCount : Fld Z h0 a1 "java/util/ArrayList$Itr" "expectedModCount" "I" (.int 3)) (F_a1_cursor : Fld Z h0 a1 "java/util/ArrayList$Itr" "cursor" "I" (.int 0)) (E_a2 : Exa Z h0 a2 "java/util/ArrayList") (F_a2_modCount : Fld Z h0 a2 "java/util/AbstractList" "modCount" "I" (.int 3)) (F_a2_elementData : Fld Z h0 a2 "java/util/ArrayList" "elementData" "[Ljava/lang/Object;" (.ref ed)) (F_a2_size : Fld Z h0 a2 "java/util/ArrayList" "size" "I" (.int 3)) (V_ed : Arv Z h0 ed ke (.object "java/lang/Object") (10 : Int32) [(.ref l0), (.ref l1), (.ref l2)] .null) :
    Con l Z mq17 jdk_49_method_3_code 3 (some (.object "java/lang/Object")) ws ({ frames := 1, cells := 0, slots := 0, locals := 12 } : Room) #[(.ref a1)] h0 (fun v h L => v = some (.ref l0) ∧ Fr n0 L ∧ Keep h0 h [a1] ∧ Exa Z h a1 "java/util/ArrayList$Itr" ∧ Fld Z h a1 "java/util/ArrayList$Itr" "this$0" "Ljava/util/ArrayList;" (.ref a2) ∧ Fld Z h a1 "java/util/ArrayList$Itr" "lastRet" "I" (.int 0) ∧ Fld Z h a1 "java/util/ArrayList$Itr" "expectedModCount" "I" (.int 3) ∧ Fld Z h a1 "java/util/ArrayList$Itr" "cursor" "I" (.int 1)) := by
  refine own_body (plainFor_of_name pn_java_util_ArrayList_Itr) ?_
  intro p e s m below meth c s₁ hx hby hml hZ hown hnm hlk hret X0 e0
  have N0 := Fr.nil n0
  have D := @hb _ _ hby
  have K0 : Keep h0 h0 [a1] := Keep.refl _ _
  refine Go.st (T' := s₁) (f' := (mkF m 0 #[rv a1, .unset, .unset] [])) (fun _ k => castTop (by first | (simp [entryFrame, mkF, argsToLocals, Value.category]; done) | rfl) k) ?_
  have lt_a1 := E_a1.lt
  have lt_a2 := E_a2.lt
  have lt_ed := V_ed.lt
  have n1d : a1 ≠ ed := Exa.neArv E_a1 V_ed (ww hw 116 rfl)
  refine zan 1 X0 hx (D d18_0) rfl rfl ?_
  refine gV 4 0 0 0 X0 N0 hx hZ (y := mq16) hown hml (ww hw 150 rfl) (ww hw 151 rfl) (ww hw 153 rfl) (ww hw 152 rfl) (rmCk0 l Z a0 hw [] a1 a2 ed ke l0 l1 l2 h0 n0 O0 g_a1 ne12 E_a1 F_a1_this_0 F_a1_lastRet F_a1_expectedModCount F_a1_cursor E_a2 F_a2_modCount F_a2_elementData F_a2_size V_ed) (ww hw 154 rfl) (ww hw 117 rfl) e0 E_a1 [] [] (lenOf pd___V rfl) (D d18_1) ?_
  rintro T1 L1 M1 _ X1 uu1 ⟨rfl, Nq1, kq1⟩
  have N1 := uu1 Nq1
  refine zsk [] ?_
  refine zan 5 X1 hx (D d18_4) rfl rfl ?_
  refine zgf 8 X1 hx hZ hown (host := "") (Or.inl (ww hw 139 rfl)) Via.refl kq1 F_a1_cursor (D d18_5) fun T2 X2 e2 => ?_
  refine zsn 9 #[rv a1, iv 0, .unset] X2 hx (D d18_8) ?_
  refine zin 10 X2 hx (D d18_9) rfl ?_
  refine zan 11 X2 hx (D d18_10) rfl rfl ?_
  refine zgf 14 X2 hx hZ hown (host := "") (Or.inl (ww hw 122 rfl)) Via.refl e2 F_a1_this_0 (D d18_11) fun T3 X3 e3 => ?_
  refine zgf 17 X3 hx hZ hown (Or.inr (ww hw 141 rfl)) Via.refl e3 F_a2_size (D d18_14) fun T4 X4 e4 => ?_
  refine zcy 28 X4 hx (D d18_17) (by decide) ?_
  refine zan 29 X4 hx (D d18_28) rfl rfl ?_
  refine zgf 32 X4 hx hZ hown (host := "") (Or.inl (ww hw 122 rfl)) Via.refl e4 F_a1_this_0 (D d18_29) fun T5 X5 e5 => ?_
  refine zgf 35 X5 hx hZ hown (host := "") (Or.inl (ww hw 155 rfl)) Via.refl e5 F_a2_elementData (D d18_32) fun T6 X6 e6 => ?_
  refine zrn 36 #[rv a1, iv 0, rv ed] X6 hx (D d18_35) rfl ?_
  refine zin 37 X6 hx (D d18_36) rfl ?_
  refine zan 38 X6 hx (D d18_37) rfl rfl ?_
  obtain ⟨cl7, Ar7, -, S7, Nx7, -, -⟩ := id V_ed
  refine Go.st (T' := T6) (f' := (mkF m 39 #[rv a1, iv 0, rv ed] [(.int 10), (.int 0)])) (fun _ k => X6.arraylength hx (by rw [e6]; exact Ar7.1) (State.isArrayOf_alike hZ.alike Ar7.2.1) (g := (mkF m 38 #[rv a1, iv 0, rv ed] [(.ref ed), (.int 0)])) rfl rfl (D d18_38) _ (by rw [len_of S7 Nx7]; exact k)) ?_
  refine zcy 50 X6 hx (D d18_39) (by decide) ?_
  refine zan 51 X6 hx (D d18_50) rfl rfl ?_
  refine zin 52 X6 hx (D d18_51) rfl ?_
  refine zic 53 1 X6 hx (D d18_52) ?_
  refine Go.st (f' := (mkF m 54 #[rv a1, iv 0, rv ed] [(.int 1), (.ref a1)])) (fun _ k => XS.iadd X6.here hx rfl (D d18_53) rfl k) ?_
  obtain ⟨T8, h8, X8, e8, W8, st8⟩ := putF X6 hx hZ hown (host := "") (Or.inl (ww hw 139 rfl)) Via.refl e6 F_a1_cursor E_a1 (Or.inl (ww hw 140 rfl)) (ww hw 116 rfl) (ty := .int) (by decide) rfl rfl (g := (mkF m 54 #[rv a1, iv 0, rv ed] [(.int 1), (.ref a1)])) rfl rfl (D d18_54)
  have N8 := Fr.snoc X8 N1 g_a1
  have O8 : Old Z n0 h8 := O0.wr W8 g_a1
  have K8 : Keep h0 h8 [a1] := K0.wr W8 (Or.inl (List.mem_of_getElem? (i := 0) rfl))
  have Fw8 := F_a1_cursor.same W8
  refine zst 57 #[rv a1, iv 0, rv ed] [] st8 ?_
  refine zan 58 X8 hx (D d18_57) rfl rfl ?_
  refine zan 59 X8 hx (D d18_58) rfl rfl ?_
  refine zin 60 X8 hx (D d18_59) rfl ?_
  refine Go.st (f' := (mkF m 61 #[rv a1, iv 0, rv ed] [(.int 0), (.ref a1), (.int 0), (.ref ed)])) (fun _ k => XS.dupX1 X8.here hx rfl (D d18_60) rfl rfl rfl k) ?_
  have ft9 := (E_a1.wr W8)
  have ft10 := (F_a1_lastRet.other W8 (Or.inr (slot_ne (Or.inl (ww hw 126 rfl)) (Or.inl (ww hw 140 rfl)) (by decide) (t := .int) (t' := .int) (by decide) (by decide))))
  obtain ⟨T11, h11, X11, e11, W11, st11⟩ := putF X8 hx hZ hown (host := "") (Or.inl (ww hw 125 rfl)) Via.refl e8 ft10 ft9 (Or.inl (ww hw 126 rfl)) (ww hw 116 rfl) (ty := .int) (by decide) rfl rfl (g := (mkF m 61 #[rv a1, iv 0, rv ed] [(.int 0), (.ref a1), (.int 0), (.ref ed)])) rfl rfl (D d18_61)
  have N11 := Fr.snoc X11 N8 g_a1
  have O11 : Old Z n0 h11 := O8.wr W11 g_a1
  have K11 : Keep h0 h11 [a1] := K8.wr W11 (Or.inl (List.mem_of_getElem? (i := 0) rfl))
  have Fw11 := ft10.same W11
  refine zst 64 #[rv a1, iv 0, rv ed] [(.int 0), (.ref ed)] st11 ?_
  have ft13 := ((V_ed.other W8 (Ne.symm n1d)).other W11 (Ne.symm n1d))
  obtain ⟨cl12, Ar12, -, S12, -, H12, -⟩ := id ft13
  have hin12 : ¬ ((0 : Int32) < 0 ∨ cl12.slots.size ≤ ((0 : Int32)).toNatClampNeg) := inb_of S12 ⟨by decide, by decide⟩
  have hat12 : cl12.slots[((0 : Int32)).toNatClampNeg]? = some (.ref l0) := H12.at hin12 rfl
  refine Go.st (f' := (mkF m 65 #[rv a1, iv 0, rv ed] [(.ref l0)])) (fun _ k => X11.aaload hx (j := (0 : Int32)) (v := (.ref l0)) (by rw [e11]; exact Ar12.1) (State.isArrayOf_alike hZ.alike Ar12.2.1) rfl Ar12.2.2 hin12 hat12 (g := (mkF m 64 #[rv a1, iv 0, rv ed] [(.int 0), (.ref ed)])) rfl rfl (D d18_64) _ k) ?_
  refine Go.retV X11 hlk hx (t := (.object "java/lang/Object")) hret rfl (Or.inr (Or.inr (Or.inr (Or.inr ⟨rfl, rfl, rfl⟩)))) (D d18_65) e11 ?_ (by decide) (by decide)
  have ft14 := (ft9.wr W11)
  have ft15 := ((F_a1_this_0.other W8 (Or.inr (slot_ne (Or.inr (ww hw 123 rfl)) (Or.inl (ww hw 140 rfl)) (by decide) (t := (.object "java/util/ArrayList")) (t' := .int) (by decide) (by decide)))).other W11 (Or.inr (slot_ne (Or.inr (ww hw 123 rfl)) (Or.inl (ww hw 126 rfl)) (by decide) (t := (.object "java/util/ArrayList")) (t' := .int) (by decide) (by decide))))
  have ft16 := ((F_a1_expectedModCount.other W8 (Or.inr (slot_ne (Or.inl (ww hw 129 rfl)) (Or.inl (ww hw 140 rfl)) (by decide) (t := .int) (t' := .int) (by decide) (by decide)))).other W11 (Or.inr (slot_ne (Or.inl (ww hw 129 rfl)) (Or.inl (ww hw 126 rfl)) (by decide) (t := .int) (t' := .int) (by decide) (by decide))))
  have ft17 := (Fw8.other W11 (Or.inr (slot_ne (Or.inl (ww hw 140 rfl)) (Or.inl (ww hw 126 rfl)) (by decide) (t := .int) (t' := .int) (by decide) (by decide))))
  exact ⟨rfl, N11, K11, ft14, ft15, Fw11, ft16, ft17⟩
set_option maxRecDepth 65536 in
set_option maxHeartbeats 40000000 in
theorem rmHn1 (l : Launch) (Z : State) (a0 : Array Value) (hw : ∀ d ∈ tables_1, d.before a0 Z = true) (ws : List Jvm.Cond) (a1 : Addr) (a2 : Addr) (ed : Addr) (ke : ClassId) (l0 : Addr) (l1 : Addr) (l2 : Addr) (h0 : Heap) (n0 : Nat) (O0 : Old Z n0 h0) (g_a1 : n0 ≤ a1) (ne12 : a1 ≠ a2) (E_a1 : Exa Z h0 a1 "java/util/ArrayList$Itr") (F_a1_this_0 : Fld Z h0 a1 "java/util/ArrayList$Itr" "this$0" "Ljava/util/ArrayList;" (.ref a2)) (F_a1_lastRet : Fld Z h0 a1 "java/util/ArrayList$Itr" "lastRet" "I" (.int 0)) (F_a1_expectedModCount : Fld Z h0 a1 "java/util/ArrayList$Itr" "expectedModCount" "I" (.int 3)) (F_a1_cursor : Fld Z h0 a1 "java/util/ArrayList$Itr" "cursor" "I" (.int 1)) (E_a2 : Exa Z h0 a2 "java/util/ArrayList") (F_a2_modCount : Fld Z h0 a2 "java/util/AbstractList" "modCount" "I" (.int 3)) (F_a2_elementData : Fld Z h0 a2 "java/util/ArrayList" "elementData" "[Ljava/lang/Object;" (.ref ed)) (F_a2_size : Fld Z h0 a2 "java/util/ArrayList" "size" "I" (.int 3)) (V_ed : Arv Z h0 ed ke (.object "java/lang/Object") (10 : Int32) [(.ref l0), (.ref l1), (.ref l2)] .null) :
    Con l Z mq15 jdk_49_method_2_code 1 (some .boolean) ws ({ frames := 0, cells := 0, slots := 0, locals := 0 } : Room) #[(.ref a1)] h0 (fun v h L => v = some (.int 1) ∧ Fr n0 L ∧ h = h0) := by
  refine own_body (plainFor_of_name pn_java_util_ArrayList_Itr) ?_
  intro p e s m below meth c s₁ hx hby hml hZ hown hnm hlk hret X0 e0
  have N0 := Fr.nil n0
  have D := @hb _ _ hby
  refine Go.st (T' := s₁) (f' := (mkF m 0 #[rv a1] [])) (fun _ k => castTop (by first | (simp [entryFrame, mkF, argsToLocals, Value.category]; done) | rfl) k) ?_
  have lt_a1 := E_a1.lt
  have lt_a2 := E_a2.lt
  have lt_ed := V_ed.lt
  have n1d : a1 ≠ ed := Exa.neArv E_a1 V_ed (ww hw 116 rfl)
  refine zan 1 X0 hx (D d17_0) rfl rfl ?_
  refine zgf 4 X0 hx hZ hown (host := "") (Or.inl (ww hw 139 rfl)) Via.refl e0 F_a1_cursor (D d17_1) fun T1 X1 e1 => ?_
  refine zan 5 X1 hx (D d17_4) rfl rfl ?_
  refine zgf 8 X1 hx hZ hown (host := "") (Or.inl (ww hw 122 rfl)) Via.refl e1 F_a1_this_0 (D d17_5) fun T2 X2 e2 => ?_
  refine zgf 11 X2 hx hZ hown (Or.inr (ww hw 141 rfl)) Via.refl e2 F_a2_size (D d17_8) fun T3 X3 e3 => ?_
  refine zcn 14 X3 hx (D d17_11) (by decide) ?_
  refine zic 15 1 X3 hx (D d17_14) ?_
  refine zgo 19 X3 hx (D d17_15) ?_
  refine Go.retB X3 hlk hx (t := .boolean) hret (by simp) (D d17_19) e3 ?_ (by decide) (by decide)
  exact ⟨rfl, N0, rfl⟩
set_option maxRecDepth 65536 in
set_option maxHeartbeats 40000000 in
theorem rmCk1 (l : Launch) (Z : State) (a0 : Array Value) (hw : ∀ d ∈ tables_1, d.before a0 Z = true) (ws : List Jvm.Cond) (a1 : Addr) (a2 : Addr) (ed : Addr) (ke : ClassId) (l0 : Addr) (l1 : Addr) (l2 : Addr) (h0 : Heap) (n0 : Nat) (O0 : Old Z n0 h0) (g_a1 : n0 ≤ a1) (ne12 : a1 ≠ a2) (E_a1 : Exa Z h0 a1 "java/util/ArrayList$Itr") (F_a1_this_0 : Fld Z h0 a1 "java/util/ArrayList$Itr" "this$0" "Ljava/util/ArrayList;" (.ref a2)) (F_a1_lastRet : Fld Z h0 a1 "java/util/ArrayList$Itr" "lastRet" "I" (.int 0)) (F_a1_expectedModCount : Fld Z h0 a1 "java/util/ArrayList$Itr" "expectedModCount" "I" (.int 3)) (F_a1_cursor : Fld Z h0 a1 "java/util/ArrayList$Itr" "cursor" "I" (.int 1)) (E_a2 : Exa Z h0 a2 "java/util/ArrayList") (F_a2_modCount : Fld Z h0 a2 "java/util/AbstractList" "modCount" "I" (.int 3)) (F_a2_elementData : Fld Z h0 a2 "java/util/ArrayList" "elementData" "[Ljava/lang/Object;" (.ref ed)) (F_a2_size : Fld Z h0 a2 "java/util/ArrayList" "size" "I" (.int 3)) (V_ed : Arv Z h0 ed ke (.object "java/lang/Object") (10 : Int32) [(.ref l0), (.ref l1), (.ref l2)] .null) :
    Con l Z mq16 jdk_49_method_6_code 1 none ws ({ frames := 0, cells := 0, slots := 0, locals := 0 } : Room) #[(.ref a1)] h0 (fun v h L => v = none ∧ Fr n0 L ∧ h = h0) := by
  refine own_body (plainFor_of_name pn_java_util_ArrayList_Itr) ?_
  intro p e s m below meth c s₁ hx hby hml hZ hown hnm hlk hret X0 e0
  have N0 := Fr.nil n0
  have D := @hb _ _ hby
  refine Go.st (T' := s₁) (f' := (mkF m 0 #[rv a1] [])) (fun _ k => castTop (by first | (simp [entryFrame, mkF, argsToLocals, Value.category]; done) | rfl) k) ?_
  have lt_a1 := E_a1.lt
  have lt_a2 := E_a2.lt
  have lt_ed := V_ed.lt
  have n1d : a1 ≠ ed := Exa.neArv E_a1 V_ed (ww hw 116 rfl)
  refine zan 1 X0 hx (D d19_0) rfl rfl ?_
  refine zgf 4 X0 hx hZ hown (host := "") (Or.inl (ww hw 122 rfl)) Via.refl e0 F_a1_this_0 (D d19_1) fun T1 X1 e1 => ?_
  refine zgf 7 X1 hx hZ hown (host := "") (Or.inl (ww hw 127 rfl)) (Via.of (ww hw 75 rfl)) e1 F_a2_modCount (D d19_4) fun T2 X2 e2 => ?_
  refine zan 8 X2 hx (D d19_7) rfl rfl ?_
  refine zgf 11 X2 hx hZ hown (host := "") (Or.inl (ww hw 128 rfl)) Via.refl e2 F_a1_expectedModCount (D d19_8) fun T3 X3 e3 => ?_
  refine zcy 22 X3 hx (D d19_11) (by decide) ?_
  refine Go.ret0 X3 hlk hx hret (D d19_22) e3 ?_ (by decide) (by decide)
  exact ⟨rfl, N0, rfl⟩
set_option maxRecDepth 65536 in
set_option maxHeartbeats 40000000 in
theorem rmNx1 (l : Launch) (Z : State) (a0 : Array Value) (hw : ∀ d ∈ tables_1, d.before a0 Z = true) (ws : List Jvm.Cond) (a1 : Addr) (a2 : Addr) (ed : Addr) (ke : ClassId) (l0 : Addr) (l1 : Addr) (l2 : Addr) (h0 : Heap) (n0 : Nat) (O0 : Old Z n0 h0) (g_a1 : n0 ≤ a1) (ne12 : a1 ≠ a2) (E_a1 : Exa Z h0 a1 "java/util/ArrayList$Itr") (F_a1_this_0 : Fld Z h0 a1 "java/util/ArrayList$Itr" "this$0" "Ljava/util/ArrayList;" (.ref a2)) (F_a1_lastRet : Fld Z h0 a1 "java/util/ArrayList$Itr" "lastRet" "I" (.int 0)) (F_a1_expectedModCount : Fld Z h0 a1 "java/util/ArrayList$Itr" "expectedModCount" "I" (.int 3)) (F_a1_cursor : Fld Z h0 a1 "java/util/ArrayList$Itr" "cursor" "I" (.int 1)) (E_a2 : Exa Z h0 a2 "java/util/ArrayList") (F_a2_modCount : Fld Z h0 a2 "java/util/AbstractList" "modCount" "I" (.int 3)) (F_a2_elementData : Fld Z h0 a2 "java/util/ArrayList" "elementData" "[Ljava/lang/Object;" (.ref ed)) (F_a2_size : Fld Z h0 a2 "java/util/ArrayList" "size" "I" (.int 3)) (V_ed : Arv Z h0 ed ke (.object "java/lang/Object") (10 : Int32) [(.ref l0), (.ref l1), (.ref l2)] .null) :
    Con l Z mq17 jdk_49_method_3_code 3 (some (.object "java/lang/Object")) ws ({ frames := 1, cells := 0, slots := 0, locals := 12 } : Room) #[(.ref a1)] h0 (fun v h L => v = some (.ref l1) ∧ Fr n0 L ∧ Keep h0 h [a1] ∧ Exa Z h a1 "java/util/ArrayList$Itr" ∧ Fld Z h a1 "java/util/ArrayList$Itr" "this$0" "Ljava/util/ArrayList;" (.ref a2) ∧ Fld Z h a1 "java/util/ArrayList$Itr" "lastRet" "I" (.int 1) ∧ Fld Z h a1 "java/util/ArrayList$Itr" "expectedModCount" "I" (.int 3) ∧ Fld Z h a1 "java/util/ArrayList$Itr" "cursor" "I" (.int 2)) := by
  refine own_body (plainFor_of_name pn_java_util_ArrayList_Itr) ?_
  intro p e s m below meth c s₁ hx hby hml hZ hown hnm hlk hret X0 e0
  have N0 := Fr.nil n0
  have D := @hb _ _ hby
  have K0 : Keep h0 h0 [a1] := Keep.refl _ _
  refine Go.st (T' := s₁) (f' := (mkF m 0 #[rv a1, .unset, .unset] [])) (fun _ k => castTop (by first | (simp [entryFrame, mkF, argsToLocals, Value.category]; done) | rfl) k) ?_
  have lt_a1 := E_a1.lt
  have lt_a2 := E_a2.lt
  have lt_ed := V_ed.lt
  have n1d : a1 ≠ ed := Exa.neArv E_a1 V_ed (ww hw 116 rfl)
  refine zan 1 X0 hx (D d18_0) rfl rfl ?_
  refine gV 4 0 0 0 X0 N0 hx hZ (y := mq16) hown hml (ww hw 150 rfl) (ww hw 151 rfl) (ww hw 153 rfl) (ww hw 152 rfl) (rmCk1 l Z a0 hw [] a1 a2 ed ke l0 l1 l2 h0 n0 O0 g_a1 ne12 E_a1 F_a1_this_0 F_a1_lastRet F_a1_expectedModCount F_a1_cursor E_a2 F_a2_modCount F_a2_elementData F_a2_size V_ed) (ww hw 154 rfl) (ww hw 117 rfl) e0 E_a1 [] [] (lenOf pd___V rfl) (D d18_1) ?_
  rintro T1 L1 M1 _ X1 uu1 ⟨rfl, Nq1, kq1⟩
  have N1 := uu1 Nq1
  refine zsk [] ?_
  refine zan 5 X1 hx (D d18_4) rfl rfl ?_
  refine zgf 8 X1 hx hZ hown (host := "") (Or.inl (ww hw 139 rfl)) Via.refl kq1 F_a1_cursor (D d18_5) fun T2 X2 e2 => ?_
  refine zsn 9 #[rv a1, iv 1, .unset] X2 hx (D d18_8) ?_
  refine zin 10 X2 hx (D d18_9) rfl ?_
  refine zan 11 X2 hx (D d18_10) rfl rfl ?_
  refine zgf 14 X2 hx hZ hown (host := "") (Or.inl (ww hw 122 rfl)) Via.refl e2 F_a1_this_0 (D d18_11) fun T3 X3 e3 => ?_
  refine zgf 17 X3 hx hZ hown (Or.inr (ww hw 141 rfl)) Via.refl e3 F_a2_size (D d18_14) fun T4 X4 e4 => ?_
  refine zcy 28 X4 hx (D d18_17) (by decide) ?_
  refine zan 29 X4 hx (D d18_28) rfl rfl ?_
  refine zgf 32 X4 hx hZ hown (host := "") (Or.inl (ww hw 122 rfl)) Via.refl e4 F_a1_this_0 (D d18_29) fun T5 X5 e5 => ?_
  refine zgf 35 X5 hx hZ hown (host := "") (Or.inl (ww hw 155 rfl)) Via.refl e5 F_a2_elementData (D d18_32) fun T6 X6 e6 => ?_
  refine zrn 36 #[rv a1, iv 1, rv ed] X6 hx (D d18_35) rfl ?_
  refine zin 37 X6 hx (D d18_36) rfl ?_
  refine zan 38 X6 hx (D d18_37) rfl rfl ?_
  obtain ⟨cl7, Ar7, -, S7, Nx7, -, -⟩ := id V_ed
  refine Go.st (T' := T6) (f' := (mkF m 39 #[rv a1, iv 1, rv ed] [(.int 10), (.int 1)])) (fun _ k => X6.arraylength hx (by rw [e6]; exact Ar7.1) (State.isArrayOf_alike hZ.alike Ar7.2.1) (g := (mkF m 38 #[rv a1, iv 1, rv ed] [(.ref ed), (.int 1)])) rfl rfl (D d18_38) _ (by rw [len_of S7 Nx7]; exact k)) ?_
  refine zcy 50 X6 hx (D d18_39) (by decide) ?_
  refine zan 51 X6 hx (D d18_50) rfl rfl ?_
  refine zin 52 X6 hx (D d18_51) rfl ?_
  refine zic 53 1 X6 hx (D d18_52) ?_
  refine Go.st (f' := (mkF m 54 #[rv a1, iv 1, rv ed] [(.int 2), (.ref a1)])) (fun _ k => XS.iadd X6.here hx rfl (D d18_53) rfl k) ?_
  obtain ⟨T8, h8, X8, e8, W8, st8⟩ := putF X6 hx hZ hown (host := "") (Or.inl (ww hw 139 rfl)) Via.refl e6 F_a1_cursor E_a1 (Or.inl (ww hw 140 rfl)) (ww hw 116 rfl) (ty := .int) (by decide) rfl rfl (g := (mkF m 54 #[rv a1, iv 1, rv ed] [(.int 2), (.ref a1)])) rfl rfl (D d18_54)
  have N8 := Fr.snoc X8 N1 g_a1
  have O8 : Old Z n0 h8 := O0.wr W8 g_a1
  have K8 : Keep h0 h8 [a1] := K0.wr W8 (Or.inl (List.mem_of_getElem? (i := 0) rfl))
  have Fw8 := F_a1_cursor.same W8
  refine zst 57 #[rv a1, iv 1, rv ed] [] st8 ?_
  refine zan 58 X8 hx (D d18_57) rfl rfl ?_
  refine zan 59 X8 hx (D d18_58) rfl rfl ?_
  refine zin 60 X8 hx (D d18_59) rfl ?_
  refine Go.st (f' := (mkF m 61 #[rv a1, iv 1, rv ed] [(.int 1), (.ref a1), (.int 1), (.ref ed)])) (fun _ k => XS.dupX1 X8.here hx rfl (D d18_60) rfl rfl rfl k) ?_
  have ft9 := (E_a1.wr W8)
  have ft10 := (F_a1_lastRet.other W8 (Or.inr (slot_ne (Or.inl (ww hw 126 rfl)) (Or.inl (ww hw 140 rfl)) (by decide) (t := .int) (t' := .int) (by decide) (by decide))))
  obtain ⟨T11, h11, X11, e11, W11, st11⟩ := putF X8 hx hZ hown (host := "") (Or.inl (ww hw 125 rfl)) Via.refl e8 ft10 ft9 (Or.inl (ww hw 126 rfl)) (ww hw 116 rfl) (ty := .int) (by decide) rfl rfl (g := (mkF m 61 #[rv a1, iv 1, rv ed] [(.int 1), (.ref a1), (.int 1), (.ref ed)])) rfl rfl (D d18_61)
  have N11 := Fr.snoc X11 N8 g_a1
  have O11 : Old Z n0 h11 := O8.wr W11 g_a1
  have K11 : Keep h0 h11 [a1] := K8.wr W11 (Or.inl (List.mem_of_getElem? (i := 0) rfl))
  have Fw11 := ft10.same W11
  refine zst 64 #[rv a1, iv 1, rv ed] [(.int 1), (.ref ed)] st11 ?_
  have ft13 := ((V_ed.other W8 (Ne.symm n1d)).other W11 (Ne.symm n1d))
  obtain ⟨cl12, Ar12, -, S12, -, H12, -⟩ := id ft13
  have hin12 : ¬ ((1 : Int32) < 0 ∨ cl12.slots.size ≤ ((1 : Int32)).toNatClampNeg) := inb_of S12 ⟨by decide, by decide⟩
  have hat12 : cl12.slots[((1 : Int32)).toNatClampNeg]? = some (.ref l1) := H12.at hin12 rfl
  refine Go.st (f' := (mkF m 65 #[rv a1, iv 1, rv ed] [(.ref l1)])) (fun _ k => X11.aaload hx (j := (1 : Int32)) (v := (.ref l1)) (by rw [e11]; exact Ar12.1) (State.isArrayOf_alike hZ.alike Ar12.2.1) rfl Ar12.2.2 hin12 hat12 (g := (mkF m 64 #[rv a1, iv 1, rv ed] [(.int 1), (.ref ed)])) rfl rfl (D d18_64) _ k) ?_
  refine Go.retV X11 hlk hx (t := (.object "java/lang/Object")) hret rfl (Or.inr (Or.inr (Or.inr (Or.inr ⟨rfl, rfl, rfl⟩)))) (D d18_65) e11 ?_ (by decide) (by decide)
  have ft14 := (ft9.wr W11)
  have ft15 := ((F_a1_this_0.other W8 (Or.inr (slot_ne (Or.inr (ww hw 123 rfl)) (Or.inl (ww hw 140 rfl)) (by decide) (t := (.object "java/util/ArrayList")) (t' := .int) (by decide) (by decide)))).other W11 (Or.inr (slot_ne (Or.inr (ww hw 123 rfl)) (Or.inl (ww hw 126 rfl)) (by decide) (t := (.object "java/util/ArrayList")) (t' := .int) (by decide) (by decide))))
  have ft16 := ((F_a1_expectedModCount.other W8 (Or.inr (slot_ne (Or.inl (ww hw 129 rfl)) (Or.inl (ww hw 140 rfl)) (by decide) (t := .int) (t' := .int) (by decide) (by decide)))).other W11 (Or.inr (slot_ne (Or.inl (ww hw 129 rfl)) (Or.inl (ww hw 126 rfl)) (by decide) (t := .int) (t' := .int) (by decide) (by decide))))
  have ft17 := (Fw8.other W11 (Or.inr (slot_ne (Or.inl (ww hw 140 rfl)) (Or.inl (ww hw 126 rfl)) (by decide) (t := .int) (t' := .int) (by decide) (by decide))))
  exact ⟨rfl, N11, K11, ft14, ft15, Fw11, ft16, ft17⟩
set_option maxRecDepth 65536 in
set_option maxHeartbeats 40000000 in
theorem rmHn2 (l : Launch) (Z : State) (a0 : Array Value) (hw : ∀ d ∈ tables_1, d.before a0 Z = true) (ws : List Jvm.Cond) (a1 : Addr) (a2 : Addr) (ed : Addr) (ke : ClassId) (l0 : Addr) (l1 : Addr) (l2 : Addr) (h0 : Heap) (n0 : Nat) (O0 : Old Z n0 h0) (g_a1 : n0 ≤ a1) (ne12 : a1 ≠ a2) (E_a1 : Exa Z h0 a1 "java/util/ArrayList$Itr") (F_a1_this_0 : Fld Z h0 a1 "java/util/ArrayList$Itr" "this$0" "Ljava/util/ArrayList;" (.ref a2)) (F_a1_lastRet : Fld Z h0 a1 "java/util/ArrayList$Itr" "lastRet" "I" (.int 1)) (F_a1_expectedModCount : Fld Z h0 a1 "java/util/ArrayList$Itr" "expectedModCount" "I" (.int 3)) (F_a1_cursor : Fld Z h0 a1 "java/util/ArrayList$Itr" "cursor" "I" (.int 2)) (E_a2 : Exa Z h0 a2 "java/util/ArrayList") (F_a2_modCount : Fld Z h0 a2 "java/util/AbstractList" "modCount" "I" (.int 3)) (F_a2_elementData : Fld Z h0 a2 "java/util/ArrayList" "elementData" "[Ljava/lang/Object;" (.ref ed)) (F_a2_size : Fld Z h0 a2 "java/util/ArrayList" "size" "I" (.int 3)) (V_ed : Arv Z h0 ed ke (.object "java/lang/Object") (10 : Int32) [(.ref l0), (.ref l1), (.ref l2)] .null) :
    Con l Z mq15 jdk_49_method_2_code 1 (some .boolean) ws ({ frames := 0, cells := 0, slots := 0, locals := 0 } : Room) #[(.ref a1)] h0 (fun v h L => v = some (.int 1) ∧ Fr n0 L ∧ h = h0) := by
  refine own_body (plainFor_of_name pn_java_util_ArrayList_Itr) ?_
  intro p e s m below meth c s₁ hx hby hml hZ hown hnm hlk hret X0 e0
  have N0 := Fr.nil n0
  have D := @hb _ _ hby
  refine Go.st (T' := s₁) (f' := (mkF m 0 #[rv a1] [])) (fun _ k => castTop (by first | (simp [entryFrame, mkF, argsToLocals, Value.category]; done) | rfl) k) ?_
  have lt_a1 := E_a1.lt
  have lt_a2 := E_a2.lt
  have lt_ed := V_ed.lt
  have n1d : a1 ≠ ed := Exa.neArv E_a1 V_ed (ww hw 116 rfl)
  refine zan 1 X0 hx (D d17_0) rfl rfl ?_
  refine zgf 4 X0 hx hZ hown (host := "") (Or.inl (ww hw 139 rfl)) Via.refl e0 F_a1_cursor (D d17_1) fun T1 X1 e1 => ?_
  refine zan 5 X1 hx (D d17_4) rfl rfl ?_
  refine zgf 8 X1 hx hZ hown (host := "") (Or.inl (ww hw 122 rfl)) Via.refl e1 F_a1_this_0 (D d17_5) fun T2 X2 e2 => ?_
  refine zgf 11 X2 hx hZ hown (Or.inr (ww hw 141 rfl)) Via.refl e2 F_a2_size (D d17_8) fun T3 X3 e3 => ?_
  refine zcn 14 X3 hx (D d17_11) (by decide) ?_
  refine zic 15 1 X3 hx (D d17_14) ?_
  refine zgo 19 X3 hx (D d17_15) ?_
  refine Go.retB X3 hlk hx (t := .boolean) hret (by simp) (D d17_19) e3 ?_ (by decide) (by decide)
  exact ⟨rfl, N0, rfl⟩
set_option maxRecDepth 65536 in
set_option maxHeartbeats 40000000 in
theorem rmCk2 (l : Launch) (Z : State) (a0 : Array Value) (hw : ∀ d ∈ tables_1, d.before a0 Z = true) (ws : List Jvm.Cond) (a1 : Addr) (a2 : Addr) (ed : Addr) (ke : ClassId) (l0 : Addr) (l1 : Addr) (l2 : Addr) (h0 : Heap) (n0 : Nat) (O0 : Old Z n0 h0) (g_a1 : n0 ≤ a1) (ne12 : a1 ≠ a2) (E_a1 : Exa Z h0 a1 "java/util/ArrayList$Itr") (F_a1_this_0 : Fld Z h0 a1 "java/util/ArrayList$Itr" "this$0" "Ljava/util/ArrayList;" (.ref a2)) (F_a1_lastRet : Fld Z h0 a1 "java/util/ArrayList$Itr" "lastRet" "I" (.int 1)) (F_a1_expectedModCount : Fld Z h0 a1 "java/util/ArrayList$Itr" "expectedModCount" "I" (.int 3)) (F_a1_cursor : Fld Z h0 a1 "java/util/ArrayList$Itr" "cursor" "I" (.int 2)) (E_a2 : Exa Z h0 a2 "java/util/ArrayList") (F_a2_modCount : Fld Z h0 a2 "java/util/AbstractList" "modCount" "I" (.int 3)) (F_a2_elementData : Fld Z h0 a2 "java/util/ArrayList" "elementData" "[Ljava/lang/Object;" (.ref ed)) (F_a2_size : Fld Z h0 a2 "java/util/ArrayList" "size" "I" (.int 3)) (V_ed : Arv Z h0 ed ke (.object "java/lang/Object") (10 : Int32) [(.ref l0), (.ref l1), (.ref l2)] .null) :
    Con l Z mq16 jdk_49_method_6_code 1 none ws ({ frames := 0, cells := 0, slots := 0, locals := 0 } : Room) #[(.ref a1)] h0 (fun v h L => v = none ∧ Fr n0 L ∧ h = h0) := by
  refine own_body (plainFor_of_name pn_java_util_ArrayList_Itr) ?_
  intro p e s m below meth c s₁ hx hby hml hZ hown hnm hlk hret X0 e0
  have N0 := Fr.nil n0
  have D := @hb _ _ hby
  refine Go.st (T' := s₁) (f' := (mkF m 0 #[rv a1] [])) (fun _ k => castTop (by first | (simp [entryFrame, mkF, argsToLocals, Value.category]; done) | rfl) k) ?_
  have lt_a1 := E_a1.lt
  have lt_a2 := E_a2.lt
  have lt_ed := V_ed.lt
  have n1d : a1 ≠ ed := Exa.neArv E_a1 V_ed (ww hw 116 rfl)
  refine zan 1 X0 hx (D d19_0) rfl rfl ?_
  refine zgf 4 X0 hx hZ hown (host := "") (Or.inl (ww hw 122 rfl)) Via.refl e0 F_a1_this_0 (D d19_1) fun T1 X1 e1 => ?_
  refine zgf 7 X1 hx hZ hown (host := "") (Or.inl (ww hw 127 rfl)) (Via.of (ww hw 75 rfl)) e1 F_a2_modCount (D d19_4) fun T2 X2 e2 => ?_
  refine zan 8 X2 hx (D d19_7) rfl rfl ?_
  refine zgf 11 X2 hx hZ hown (host := "") (Or.inl (ww hw 128 rfl)) Via.refl e2 F_a1_expectedModCount (D d19_8) fun T3 X3 e3 => ?_
  refine zcy 22 X3 hx (D d19_11) (by decide) ?_
  refine Go.ret0 X3 hlk hx hret (D d19_22) e3 ?_ (by decide) (by decide)
  exact ⟨rfl, N0, rfl⟩
set_option maxRecDepth 65536 in
set_option maxHeartbeats 40000000 in
theorem rmNx2 (l : Launch) (Z : State) (a0 : Array Value) (hw : ∀ d ∈ tables_1, d.before a0 Z = true) (ws : List Jvm.Cond) (a1 : Addr) (a2 : Addr) (ed : Addr) (ke : ClassId) (l0 : Addr) (l1 : Addr) (l2 : Addr) (h0 : Heap) (n0 : Nat) (O0 : Old Z n0 h0) (g_a1 : n0 ≤ a1) (ne12 : a1 ≠ a2) (E_a1 : Exa Z h0 a1 "java/util/ArrayList$Itr") (F_a1_this_0 : Fld Z h0 a1 "java/util/ArrayList$Itr" "this$0" "Ljava/util/ArrayList;" (.ref a2)) (F_a1_lastRet : Fld Z h0 a1 "java/util/ArrayList$Itr" "lastRet" "I" (.int 1)) (F_a1_expectedModCount : Fld Z h0 a1 "java/util/ArrayList$Itr" "expectedModCount" "I" (.int 3)) (F_a1_cursor : Fld Z h0 a1 "java/util/ArrayList$Itr" "cursor" "I" (.int 2)) (E_a2 : Exa Z h0 a2 "java/util/ArrayList") (F_a2_modCount : Fld Z h0 a2 "java/util/AbstractList" "modCount" "I" (.int 3)) (F_a2_elementData : Fld Z h0 a2 "java/util/ArrayList" "elementData" "[Ljava/lang/Object;" (.ref ed)) (F_a2_size : Fld Z h0 a2 "java/util/ArrayList" "size" "I" (.int 3)) (V_ed : Arv Z h0 ed ke (.object "java/lang/Object") (10 : Int32) [(.ref l0), (.ref l1), (.ref l2)] .null) :
    Con l Z mq17 jdk_49_method_3_code 3 (some (.object "java/lang/Object")) ws ({ frames := 1, cells := 0, slots := 0, locals := 12 } : Room) #[(.ref a1)] h0 (fun v h L => v = some (.ref l2) ∧ Fr n0 L ∧ Keep h0 h [a1] ∧ Exa Z h a1 "java/util/ArrayList$Itr" ∧ Fld Z h a1 "java/util/ArrayList$Itr" "this$0" "Ljava/util/ArrayList;" (.ref a2) ∧ Fld Z h a1 "java/util/ArrayList$Itr" "lastRet" "I" (.int 2) ∧ Fld Z h a1 "java/util/ArrayList$Itr" "expectedModCount" "I" (.int 3) ∧ Fld Z h a1 "java/util/ArrayList$Itr" "cursor" "I" (.int 3)) := by
  refine own_body (plainFor_of_name pn_java_util_ArrayList_Itr) ?_
  intro p e s m below meth c s₁ hx hby hml hZ hown hnm hlk hret X0 e0
  have N0 := Fr.nil n0
  have D := @hb _ _ hby
  have K0 : Keep h0 h0 [a1] := Keep.refl _ _
  refine Go.st (T' := s₁) (f' := (mkF m 0 #[rv a1, .unset, .unset] [])) (fun _ k => castTop (by first | (simp [entryFrame, mkF, argsToLocals, Value.category]; done) | rfl) k) ?_
  have lt_a1 := E_a1.lt
  have lt_a2 := E_a2.lt
  have lt_ed := V_ed.lt
  have n1d : a1 ≠ ed := Exa.neArv E_a1 V_ed (ww hw 116 rfl)
  refine zan 1 X0 hx (D d18_0) rfl rfl ?_
  refine gV 4 0 0 0 X0 N0 hx hZ (y := mq16) hown hml (ww hw 150 rfl) (ww hw 151 rfl) (ww hw 153 rfl) (ww hw 152 rfl) (rmCk2 l Z a0 hw [] a1 a2 ed ke l0 l1 l2 h0 n0 O0 g_a1 ne12 E_a1 F_a1_this_0 F_a1_lastRet F_a1_expectedModCount F_a1_cursor E_a2 F_a2_modCount F_a2_elementData F_a2_size V_ed) (ww hw 154 rfl) (ww hw 117 rfl) e0 E_a1 [] [] (lenOf pd___V rfl) (D d18_1) ?_
  rintro T1 L1 M1 _ X1 uu1 ⟨rfl, Nq1, kq1⟩
  have N1 := uu1 Nq1
  refine zsk [] ?_
  refine zan 5 X1 hx (D d18_4) rfl rfl ?_
  refine zgf 8 X1 hx hZ hown (host := "") (Or.inl (ww hw 139 rfl)) Via.refl kq1 F_a1_cursor (D d18_5) fun T2 X2 e2 => ?_
  refine zsn 9 #[rv a1, iv 2, .unset] X2 hx (D d18_8) ?_
  refine zin 10 X2 hx (D d18_9) rfl ?_
  refine zan 11 X2 hx (D d18_10) rfl rfl ?_
  refine zgf 14 X2 hx hZ hown (host := "") (Or.inl (ww hw 122 rfl)) Via.refl e2 F_a1_this_0 (D d18_11) fun T3 X3 e3 => ?_
  refine zgf 17 X3 hx hZ hown (Or.inr (ww hw 141 rfl)) Via.refl e3 F_a2_size (D d18_14) fun T4 X4 e4 => ?_
  refine zcy 28 X4 hx (D d18_17) (by decide) ?_
  refine zan 29 X4 hx (D d18_28) rfl rfl ?_
  refine zgf 32 X4 hx hZ hown (host := "") (Or.inl (ww hw 122 rfl)) Via.refl e4 F_a1_this_0 (D d18_29) fun T5 X5 e5 => ?_
  refine zgf 35 X5 hx hZ hown (host := "") (Or.inl (ww hw 155 rfl)) Via.refl e5 F_a2_elementData (D d18_32) fun T6 X6 e6 => ?_
  refine zrn 36 #[rv a1, iv 2, rv ed] X6 hx (D d18_35) rfl ?_
  refine zin 37 X6 hx (D d18_36) rfl ?_
  refine zan 38 X6 hx (D d18_37) rfl rfl ?_
  obtain ⟨cl7, Ar7, -, S7, Nx7, -, -⟩ := id V_ed
  refine Go.st (T' := T6) (f' := (mkF m 39 #[rv a1, iv 2, rv ed] [(.int 10), (.int 2)])) (fun _ k => X6.arraylength hx (by rw [e6]; exact Ar7.1) (State.isArrayOf_alike hZ.alike Ar7.2.1) (g := (mkF m 38 #[rv a1, iv 2, rv ed] [(.ref ed), (.int 2)])) rfl rfl (D d18_38) _ (by rw [len_of S7 Nx7]; exact k)) ?_
  refine zcy 50 X6 hx (D d18_39) (by decide) ?_
  refine zan 51 X6 hx (D d18_50) rfl rfl ?_
  refine zin 52 X6 hx (D d18_51) rfl ?_
  refine zic 53 1 X6 hx (D d18_52) ?_
  refine Go.st (f' := (mkF m 54 #[rv a1, iv 2, rv ed] [(.int 3), (.ref a1)])) (fun _ k => XS.iadd X6.here hx rfl (D d18_53) rfl k) ?_
  obtain ⟨T8, h8, X8, e8, W8, st8⟩ := putF X6 hx hZ hown (host := "") (Or.inl (ww hw 139 rfl)) Via.refl e6 F_a1_cursor E_a1 (Or.inl (ww hw 140 rfl)) (ww hw 116 rfl) (ty := .int) (by decide) rfl rfl (g := (mkF m 54 #[rv a1, iv 2, rv ed] [(.int 3), (.ref a1)])) rfl rfl (D d18_54)
  have N8 := Fr.snoc X8 N1 g_a1
  have O8 : Old Z n0 h8 := O0.wr W8 g_a1
  have K8 : Keep h0 h8 [a1] := K0.wr W8 (Or.inl (List.mem_of_getElem? (i := 0) rfl))
  have Fw8 := F_a1_cursor.same W8
  refine zst 57 #[rv a1, iv 2, rv ed] [] st8 ?_
  refine zan 58 X8 hx (D d18_57) rfl rfl ?_
  refine zan 59 X8 hx (D d18_58) rfl rfl ?_
  refine zin 60 X8 hx (D d18_59) rfl ?_
  refine Go.st (f' := (mkF m 61 #[rv a1, iv 2, rv ed] [(.int 2), (.ref a1), (.int 2), (.ref ed)])) (fun _ k => XS.dupX1 X8.here hx rfl (D d18_60) rfl rfl rfl k) ?_
  have ft9 := (E_a1.wr W8)
  have ft10 := (F_a1_lastRet.other W8 (Or.inr (slot_ne (Or.inl (ww hw 126 rfl)) (Or.inl (ww hw 140 rfl)) (by decide) (t := .int) (t' := .int) (by decide) (by decide))))
  obtain ⟨T11, h11, X11, e11, W11, st11⟩ := putF X8 hx hZ hown (host := "") (Or.inl (ww hw 125 rfl)) Via.refl e8 ft10 ft9 (Or.inl (ww hw 126 rfl)) (ww hw 116 rfl) (ty := .int) (by decide) rfl rfl (g := (mkF m 61 #[rv a1, iv 2, rv ed] [(.int 2), (.ref a1), (.int 2), (.ref ed)])) rfl rfl (D d18_61)
  have N11 := Fr.snoc X11 N8 g_a1
  have O11 : Old Z n0 h11 := O8.wr W11 g_a1
  have K11 : Keep h0 h11 [a1] := K8.wr W11 (Or.inl (List.mem_of_getElem? (i := 0) rfl))
  have Fw11 := ft10.same W11
  refine zst 64 #[rv a1, iv 2, rv ed] [(.int 2), (.ref ed)] st11 ?_
  have ft13 := ((V_ed.other W8 (Ne.symm n1d)).other W11 (Ne.symm n1d))
  obtain ⟨cl12, Ar12, -, S12, -, H12, -⟩ := id ft13
  have hin12 : ¬ ((2 : Int32) < 0 ∨ cl12.slots.size ≤ ((2 : Int32)).toNatClampNeg) := inb_of S12 ⟨by decide, by decide⟩
  have hat12 : cl12.slots[((2 : Int32)).toNatClampNeg]? = some (.ref l2) := H12.at hin12 rfl
  refine Go.st (f' := (mkF m 65 #[rv a1, iv 2, rv ed] [(.ref l2)])) (fun _ k => X11.aaload hx (j := (2 : Int32)) (v := (.ref l2)) (by rw [e11]; exact Ar12.1) (State.isArrayOf_alike hZ.alike Ar12.2.1) rfl Ar12.2.2 hin12 hat12 (g := (mkF m 64 #[rv a1, iv 2, rv ed] [(.int 2), (.ref ed)])) rfl rfl (D d18_64) _ k) ?_
  refine Go.retV X11 hlk hx (t := (.object "java/lang/Object")) hret rfl (Or.inr (Or.inr (Or.inr (Or.inr ⟨rfl, rfl, rfl⟩)))) (D d18_65) e11 ?_ (by decide) (by decide)
  have ft14 := (ft9.wr W11)
  have ft15 := ((F_a1_this_0.other W8 (Or.inr (slot_ne (Or.inr (ww hw 123 rfl)) (Or.inl (ww hw 140 rfl)) (by decide) (t := (.object "java/util/ArrayList")) (t' := .int) (by decide) (by decide)))).other W11 (Or.inr (slot_ne (Or.inr (ww hw 123 rfl)) (Or.inl (ww hw 126 rfl)) (by decide) (t := (.object "java/util/ArrayList")) (t' := .int) (by decide) (by decide))))
  have ft16 := ((F_a1_expectedModCount.other W8 (Or.inr (slot_ne (Or.inl (ww hw 129 rfl)) (Or.inl (ww hw 140 rfl)) (by decide) (t := .int) (t' := .int) (by decide) (by decide)))).other W11 (Or.inr (slot_ne (Or.inl (ww hw 129 rfl)) (Or.inl (ww hw 126 rfl)) (by decide) (t := .int) (t' := .int) (by decide) (by decide))))
  have ft17 := (Fw8.other W11 (Or.inr (slot_ne (Or.inl (ww hw 140 rfl)) (Or.inl (ww hw 126 rfl)) (by decide) (t := .int) (t' := .int) (by decide) (by decide))))
  exact ⟨rfl, N11, K11, ft14, ft15, Fw11, ft16, ft17⟩
theorem d17_18 : decode jdk_49_method_2_code 18 = .ok (.iconst 0, 1) := by decide +kernel
set_option maxRecDepth 65536 in
set_option maxHeartbeats 40000000 in
theorem rmHn3 (l : Launch) (Z : State) (a0 : Array Value) (hw : ∀ d ∈ tables_1, d.before a0 Z = true) (ws : List Jvm.Cond) (a1 : Addr) (a2 : Addr) (ed : Addr) (ke : ClassId) (l0 : Addr) (l1 : Addr) (l2 : Addr) (h0 : Heap) (n0 : Nat) (O0 : Old Z n0 h0) (g_a1 : n0 ≤ a1) (ne12 : a1 ≠ a2) (E_a1 : Exa Z h0 a1 "java/util/ArrayList$Itr") (F_a1_this_0 : Fld Z h0 a1 "java/util/ArrayList$Itr" "this$0" "Ljava/util/ArrayList;" (.ref a2)) (F_a1_lastRet : Fld Z h0 a1 "java/util/ArrayList$Itr" "lastRet" "I" (.int 2)) (F_a1_expectedModCount : Fld Z h0 a1 "java/util/ArrayList$Itr" "expectedModCount" "I" (.int 3)) (F_a1_cursor : Fld Z h0 a1 "java/util/ArrayList$Itr" "cursor" "I" (.int 3)) (E_a2 : Exa Z h0 a2 "java/util/ArrayList") (F_a2_modCount : Fld Z h0 a2 "java/util/AbstractList" "modCount" "I" (.int 3)) (F_a2_elementData : Fld Z h0 a2 "java/util/ArrayList" "elementData" "[Ljava/lang/Object;" (.ref ed)) (F_a2_size : Fld Z h0 a2 "java/util/ArrayList" "size" "I" (.int 3)) (V_ed : Arv Z h0 ed ke (.object "java/lang/Object") (10 : Int32) [(.ref l0), (.ref l1), (.ref l2)] .null) :
    Con l Z mq15 jdk_49_method_2_code 1 (some .boolean) ws ({ frames := 0, cells := 0, slots := 0, locals := 0 } : Room) #[(.ref a1)] h0 (fun v h L => v = some (.int 0) ∧ Fr n0 L ∧ h = h0) := by
  refine own_body (plainFor_of_name pn_java_util_ArrayList_Itr) ?_
  intro p e s m below meth c s₁ hx hby hml hZ hown hnm hlk hret X0 e0
  have N0 := Fr.nil n0
  have D := @hb _ _ hby
  refine Go.st (T' := s₁) (f' := (mkF m 0 #[rv a1] [])) (fun _ k => castTop (by first | (simp [entryFrame, mkF, argsToLocals, Value.category]; done) | rfl) k) ?_
  have lt_a1 := E_a1.lt
  have lt_a2 := E_a2.lt
  have lt_ed := V_ed.lt
  have n1d : a1 ≠ ed := Exa.neArv E_a1 V_ed (ww hw 116 rfl)
  refine zan 1 X0 hx (D d17_0) rfl rfl ?_
  refine zgf 4 X0 hx hZ hown (host := "") (Or.inl (ww hw 139 rfl)) Via.refl e0 F_a1_cursor (D d17_1) fun T1 X1 e1 => ?_
  refine zan 5 X1 hx (D d17_4) rfl rfl ?_
  refine zgf 8 X1 hx hZ hown (host := "") (Or.inl (ww hw 122 rfl)) Via.refl e1 F_a1_this_0 (D d17_5) fun T2 X2 e2 => ?_
  refine zgf 11 X2 hx hZ hown (Or.inr (ww hw 141 rfl)) Via.refl e2 F_a2_size (D d17_8) fun T3 X3 e3 => ?_
  refine zcy 18 X3 hx (D d17_11) (by decide) ?_
  refine zic 19 0 X3 hx (D d17_18) ?_
  refine Go.retB X3 hlk hx (t := .boolean) hret (by simp) (D d17_19) e3 ?_ (by decide) (by decide)
  exact ⟨rfl, N0, rfl⟩
set_option maxRecDepth 65536 in
set_option maxHeartbeats 40000000 in
theorem rmCk3 (l : Launch) (Z : State) (a0 : Array Value) (hw : ∀ d ∈ tables_1, d.before a0 Z = true) (ws : List Jvm.Cond) (a1 : Addr) (a2 : Addr) (ed : Addr) (ke : ClassId) (l0 : Addr) (l1 : Addr) (l2 : Addr) (h0 : Heap) (n0 : Nat) (O0 : Old Z n0 h0) (g_a1 : n0 ≤ a1) (ne12 : a1 ≠ a2) (E_a1 : Exa Z h0 a1 "java/util/ArrayList$Itr") (F_a1_this_0 : Fld Z h0 a1 "java/util/ArrayList$Itr" "this$0" "Ljava/util/ArrayList;" (.ref a2)) (F_a1_lastRet : Fld Z h0 a1 "java/util/ArrayList$Itr" "lastRet" "I" (.int 2)) (F_a1_expectedModCount : Fld Z h0 a1 "java/util/ArrayList$Itr" "expectedModCount" "I" (.int 3)) (F_a1_cursor : Fld Z h0 a1 "java/util/ArrayList$Itr" "cursor" "I" (.int 3)) (E_a2 : Exa Z h0 a2 "java/util/ArrayList") (F_a2_modCount : Fld Z h0 a2 "java/util/AbstractList" "modCount" "I" (.int 3)) (F_a2_elementData : Fld Z h0 a2 "java/util/ArrayList" "elementData" "[Ljava/lang/Object;" (.ref ed)) (F_a2_size : Fld Z h0 a2 "java/util/ArrayList" "size" "I" (.int 3)) (V_ed : Arv Z h0 ed ke (.object "java/lang/Object") (10 : Int32) [(.ref l0), (.ref l1), (.ref l2)] .null) :
    Con l Z mq16 jdk_49_method_6_code 1 none ws ({ frames := 0, cells := 0, slots := 0, locals := 0 } : Room) #[(.ref a1)] h0 (fun v h L => v = none ∧ Fr n0 L ∧ h = h0) := by
  refine own_body (plainFor_of_name pn_java_util_ArrayList_Itr) ?_
  intro p e s m below meth c s₁ hx hby hml hZ hown hnm hlk hret X0 e0
  have N0 := Fr.nil n0
  have D := @hb _ _ hby
  refine Go.st (T' := s₁) (f' := (mkF m 0 #[rv a1] [])) (fun _ k => castTop (by first | (simp [entryFrame, mkF, argsToLocals, Value.category]; done) | rfl) k) ?_
  have lt_a1 := E_a1.lt
  have lt_a2 := E_a2.lt
  have lt_ed := V_ed.lt
  have n1d : a1 ≠ ed := Exa.neArv E_a1 V_ed (ww hw 116 rfl)
  refine zan 1 X0 hx (D d19_0) rfl rfl ?_
  refine zgf 4 X0 hx hZ hown (host := "") (Or.inl (ww hw 122 rfl)) Via.refl e0 F_a1_this_0 (D d19_1) fun T1 X1 e1 => ?_
  refine zgf 7 X1 hx hZ hown (host := "") (Or.inl (ww hw 127 rfl)) (Via.of (ww hw 75 rfl)) e1 F_a2_modCount (D d19_4) fun T2 X2 e2 => ?_
  refine zan 8 X2 hx (D d19_7) rfl rfl ?_
  refine zgf 11 X2 hx hZ hown (host := "") (Or.inl (ww hw 128 rfl)) Via.refl e2 F_a1_expectedModCount (D d19_8) fun T3 X3 e3 => ?_
  refine zcy 22 X3 hx (D d19_11) (by decide) ?_
  refine Go.ret0 X3 hlk hx hret (D d19_22) e3 ?_ (by decide) (by decide)
  exact ⟨rfl, N0, rfl⟩
theorem d31_0 : decode jdk_38_method_8_code 0 = .ok (.aload_n 0, 1) := by decide +kernel
theorem d31_1 : decode jdk_38_method_8_code 1 = .ok (.getfield 48, 3) := by decide +kernel
theorem d31_4 : decode jdk_38_method_8_code 4 = .ok (.ireturn, 1) := by decide +kernel
set_option maxRecDepth 65536 in
set_option maxHeartbeats 40000000 in
theorem rmSz (l : Launch) (Z : State) (a0 : Array Value) (hw : ∀ d ∈ tables_1, d.before a0 Z = true) (ws : List Jvm.Cond) (a2 : Addr) (ed : Addr) (ke : ClassId) (l0 : Addr) (l1 : Addr) (l2 : Addr) (h0 : Heap) (n0 : Nat) (O0 : Old Z n0 h0) (E_a2 : Exa Z h0 a2 "java/util/ArrayList") (F_a2_modCount : Fld Z h0 a2 "java/util/AbstractList" "modCount" "I" (.int 3)) (F_a2_elementData : Fld Z h0 a2 "java/util/ArrayList" "elementData" "[Ljava/lang/Object;" (.ref ed)) (F_a2_size : Fld Z h0 a2 "java/util/ArrayList" "size" "I" (.int 3)) (V_ed : Arv Z h0 ed ke (.object "java/lang/Object") (10 : Int32) [(.ref l0), (.ref l1), (.ref l2)] .null) :
    Con l Z mq18 jdk_38_method_8_code 1 (some .int) ws ({ frames := 0, cells := 0, slots := 0, locals := 0 } : Room) #[(.ref a2)] h0 (fun v h L => v = some (.int 3) ∧ Fr n0 L ∧ h = h0) := by
  refine own_body (plainFor_of_name pn_java_util_ArrayList) ?_
  intro p e s m below meth c s₁ hx hby hml hZ hown hnm hlk hret X0 e0
  have N0 := Fr.nil n0
  have D := @hb _ _ hby
  refine Go.st (T' := s₁) (f' := (mkF m 0 #[rv a2] [])) (fun _ k => castTop (by first | (simp [entryFrame, mkF, argsToLocals, Value.category]; done) | rfl) k) ?_
  have lt_a2 := E_a2.lt
  have lt_ed := V_ed.lt
  refine zan 1 X0 hx (D d31_0) rfl rfl ?_
  refine zgf 4 X0 hx hZ hown (host := "") (Or.inl (ww hw 76 rfl)) Via.refl e0 F_a2_size (D d31_1) fun T1 X1 e1 => ?_
  refine Go.retV X1 hlk hx (t := .int) hret rfl (Or.inl ⟨rfl, Or.inl rfl, _, rfl⟩) (D d31_4) e1 ?_ (by decide) (by decide)
  exact ⟨rfl, N0, rfl⟩
theorem pn_jdk_internal_util_Preconditions : plainName "jdk/internal/util/Preconditions" = true := by first | (simp [plainName, overriddenIn]; done) | decide +kernel
theorem d34_0 : decode jdk_41_method_11_code 0 = .ok (.iload_n 0, 1) := by decide +kernel
theorem d34_1 : decode jdk_41_method_11_code 1 = .ok (.ifCond .lt 8, 3) := by decide +kernel
theorem d34_4 : decode jdk_41_method_11_code 4 = .ok (.iload_n 0, 1) := by decide +kernel
theorem d34_5 : decode jdk_41_method_11_code 5 = .ok (.iload_n 1, 1) := by decide +kernel
theorem d34_6 : decode jdk_41_method_11_code 6 = .ok (.if_icmp .lt 10, 3) := by decide +kernel
theorem d34_16 : decode jdk_41_method_11_code 16 = .ok (.iload_n 0, 1) := by decide +kernel
theorem d34_17 : decode jdk_41_method_11_code 17 = .ok (.ireturn, 1) := by decide +kernel
set_option maxRecDepth 65536 in
set_option maxHeartbeats 40000000 in
theorem rmPc0 (l : Launch) (Z : State) (a0 : Array Value) (hw : ∀ d ∈ tables_1, d.before a0 Z = true) (ws : List Jvm.Cond)  (h0 : Heap) (n0 : Nat) (O0 : Old Z n0 h0)  :
    Con l Z mq19 jdk_41_method_11_code 3 (some .int) ws ({ frames := 0, cells := 0, slots := 0, locals := 0 } : Room) #[(.int 0), (.int 3), .null] h0 (fun v h L => v = some (.int 0) ∧ Fr n0 L ∧ h = h0) := by
  refine own_body (plainFor_of_name pn_jdk_internal_util_Preconditions) ?_
  intro p e s m below meth c s₁ hx hby hml hZ hown hnm hlk hret X0 e0
  have N0 := Fr.nil n0
  have D := @hb _ _ hby
  refine Go.st (T' := s₁) (f' := (mkF m 0 #[iv 0, iv 3, .val .null] [])) (fun _ k => castTop (by first | (simp [entryFrame, mkF, argsToLocals, Value.category]; done) | rfl) k) ?_
  refine zin 1 X0 hx (D d34_0) rfl ?_
  refine zfn 4 X0 hx (D d34_1) (by decide) ?_
  refine zin 5 X0 hx (D d34_4) rfl ?_
  refine zin 6 X0 hx (D d34_5) rfl ?_
  refine zcy 16 X0 hx (D d34_6) (by decide) ?_
  refine zin 17 X0 hx (D d34_16) rfl ?_
  refine Go.retV X0 hlk hx (t := .int) hret rfl (Or.inl ⟨rfl, Or.inl rfl, _, rfl⟩) (D d34_17) e0 ?_ (by decide) (by decide)
  exact ⟨rfl, N0, rfl⟩
theorem pn_java_util_Objects : plainName "java/util/Objects" = true := by first | (simp [plainName, overriddenIn]; done) | decide +kernel
theorem d33_0 : decode jdk_31_method_17_code 0 = .ok (.iload_n 0, 1) := by decide +kernel
theorem d33_1 : decode jdk_31_method_17_code 1 = .ok (.iload_n 1, 1) := by decide +kernel
theorem d33_2 : decode jdk_31_method_17_code 2 = .ok (.aconst_null, 1) := by decide +kernel
theorem d33_3 : decode jdk_31_method_17_code 3 = .ok (.invokestatic 105, 3) := by decide +kernel
theorem pd__IILjava_util_function_BiFunction__I : parseMethodDescriptor "(IILjava/util/function/BiFunction;)I" = some ⟨[.int, .int, (.object "java/util/function/BiFunction")], some .int⟩ := by decide +kernel
theorem d33_6 : decode jdk_31_method_17_code 6 = .ok (.ireturn, 1) := by decide +kernel
set_option maxRecDepth 65536 in
set_option maxHeartbeats 40000000 in
theorem rmOc0 (l : Launch) (Z : State) (a0 : Array Value) (hw : ∀ d ∈ tables_1, d.before a0 Z = true) (ws : List Jvm.Cond)  (h0 : Heap) (n0 : Nat) (O0 : Old Z n0 h0)  :
    Con l Z mq20 jdk_31_method_17_code 2 (some .int) ws ({ frames := 1, cells := 0, slots := 0, locals := 14 } : Room) #[(.int 0), (.int 3)] h0 (fun v h L => v = some (.int 0) ∧ Fr n0 L ∧ h = h0) := by
  refine own_body (plainFor_of_name pn_java_util_Objects) ?_
  intro p e s m below meth c s₁ hx hby hml hZ hown hnm hlk hret X0 e0
  have N0 := Fr.nil n0
  have D := @hb _ _ hby
  refine Go.st (T' := s₁) (f' := (mkF m 0 #[iv 0, iv 3] [])) (fun _ k => castTop (by first | (simp [entryFrame, mkF, argsToLocals, Value.category]; done) | rfl) k) ?_
  refine zin 1 X0 hx (D d33_0) rfl ?_
  refine zin 2 X0 hx (D d33_1) rfl ?_
  refine Go.st (f' := (mkF m 3 #[iv 0, iv 3] [.null, (.int 3), (.int 0)])) (fun _ k => XS.aconstNull X0.here hx rfl (D d33_2) k) ?_
  refine gS 6 0 0 0 X0 N0 hx hZ (y := mq19) hown hml (ww hw 272 rfl) (ww hw 273 rfl) (ww hw 274 rfl) (rmPc0 l Z a0 hw [] h0 n0 O0) (ww hw 275 rfl) e0 [(.int 0), (.int 3), .null] [] (lenOf pd__IILjava_util_function_BiFunction__I rfl) (D d33_3) ?_
  rintro T1 L1 M1 _ X1 uu1 ⟨rfl, Nq1, kq1⟩
  have N1 := uu1 Nq1
  refine zsk [(.int 0)] ?_
  refine Go.retV X1 hlk hx (t := .int) hret rfl (Or.inl ⟨rfl, Or.inl rfl, _, rfl⟩) (D d33_6) kq1 ?_ (by decide) (by decide)
  exact ⟨rfl, N1, rfl⟩
theorem d35_0 : decode jdk_38_method_18_code 0 = .ok (.aload_n 0, 1) := by decide +kernel
theorem d35_1 : decode jdk_38_method_18_code 1 = .ok (.getfield 9, 3) := by decide +kernel
theorem d35_4 : decode jdk_38_method_18_code 4 = .ok (.iload_n 1, 1) := by decide +kernel
theorem d35_5 : decode jdk_38_method_18_code 5 = .ok (.aaload, 1) := by decide +kernel
theorem d35_6 : decode jdk_38_method_18_code 6 = .ok (.areturn, 1) := by decide +kernel
set_option maxRecDepth 65536 in
set_option maxHeartbeats 40000000 in
theorem rmEd0 (l : Launch) (Z : State) (a0 : Array Value) (hw : ∀ d ∈ tables_1, d.before a0 Z = true) (ws : List Jvm.Cond) (a2 : Addr) (ed : Addr) (ke : ClassId) (l0 : Addr) (l1 : Addr) (l2 : Addr) (h0 : Heap) (n0 : Nat) (O0 : Old Z n0 h0) (E_a2 : Exa Z h0 a2 "java/util/ArrayList") (F_a2_modCount : Fld Z h0 a2 "java/util/AbstractList" "modCount" "I" (.int 3)) (F_a2_elementData : Fld Z h0 a2 "java/util/ArrayList" "elementData" "[Ljava/lang/Object;" (.ref ed)) (F_a2_size : Fld Z h0 a2 "java/util/ArrayList" "size" "I" (.int 3)) (V_ed : Arv Z h0 ed ke (.object "java/lang/Object") (10 : Int32) [(.ref l0), (.ref l1), (.ref l2)] .null) :
    Con l Z mq21 jdk_38_method_18_code 2 (some (.object "java/lang/Object")) ws ({ frames := 0, cells := 0, slots := 0, locals := 0 } : Room) #[(.ref a2), (.int 0)] h0 (fun v h L => v = some (.ref l0) ∧ Fr n0 L ∧ h = h0) := by
  refine own_body (plainFor_of_name pn_java_util_ArrayList) ?_
  intro p e s m below meth c s₁ hx hby hml hZ hown hnm hlk hret X0 e0
  have N0 := Fr.nil n0
  have D := @hb _ _ hby
  refine Go.st (T' := s₁) (f' := (mkF m 0 #[rv a2, iv 0] [])) (fun _ k => castTop (by first | (simp [entryFrame, mkF, argsToLocals, Value.category]; done) | rfl) k) ?_
  have lt_a2 := E_a2.lt
  have lt_ed := V_ed.lt
  refine zan 1 X0 hx (D d35_0) rfl rfl ?_
  refine zgf 4 X0 hx hZ hown (host := "") (Or.inl (ww hw 24 rfl)) Via.refl e0 F_a2_elementData (D d35_1) fun T1 X1 e1 => ?_
  refine zin 5 X1 hx (D d35_4) rfl ?_
  obtain ⟨cl2, Ar2, -, S2, -, H2, -⟩ := id V_ed
  have hin2 : ¬ ((0 : Int32) < 0 ∨ cl2.slots.size ≤ ((0 : Int32)).toNatClampNeg) := inb_of S2 ⟨by decide, by decide⟩
  have hat2 : cl2.slots[((0 : Int32)).toNatClampNeg]? = some (.ref l0) := H2.at hin2 rfl
  refine Go.st (f' := (mkF m 6 #[rv a2, iv 0] [(.ref l0)])) (fun _ k => X1.aaload hx (j := (0 : Int32)) (v := (.ref l0)) (by rw [e1]; exact Ar2.1) (State.isArrayOf_alike hZ.alike Ar2.2.1) rfl Ar2.2.2 hin2 hat2 (g := (mkF m 5 #[rv a2, iv 0] [(.int 0), (.ref ed)])) rfl rfl (D d35_5) _ k) ?_
  refine Go.retV X1 hlk hx (t := (.object "java/lang/Object")) hret rfl (Or.inr (Or.inr (Or.inr (Or.inr ⟨rfl, rfl, rfl⟩)))) (D d35_6) e1 ?_ (by decide) (by decide)
  exact ⟨rfl, N0, rfl⟩
theorem d32_0 : decode jdk_38_method_20_code 0 = .ok (.iload_n 1, 1) := by decide +kernel
theorem d32_1 : decode jdk_38_method_20_code 1 = .ok (.aload_n 0, 1) := by decide +kernel
theorem d32_2 : decode jdk_38_method_20_code 2 = .ok (.getfield 48, 3) := by decide +kernel
theorem d32_5 : decode jdk_38_method_20_code 5 = .ok (.invokestatic 118, 3) := by decide +kernel
theorem d32_8 : decode jdk_38_method_20_code 8 = .ok (.pop, 1) := by decide +kernel
theorem d32_9 : decode jdk_38_method_20_code 9 = .ok (.aload_n 0, 1) := by decide +kernel
theorem d32_10 : decode jdk_38_method_20_code 10 = .ok (.iload_n 1, 1) := by decide +kernel
theorem d32_11 : decode jdk_38_method_20_code 11 = .ok (.invokevirtual 123, 3) := by decide +kernel
theorem pd__I_Ljava_lang_Object_ : parseMethodDescriptor "(I)Ljava/lang/Object;" = some ⟨[.int], some (.object "java/lang/Object")⟩ := by decide +kernel
theorem d32_14 : decode jdk_38_method_20_code 14 = .ok (.areturn, 1) := by decide +kernel
set_option maxRecDepth 65536 in
set_option maxHeartbeats 40000000 in
theorem rmGt0 (l : Launch) (Z : State) (a0 : Array Value) (hw : ∀ d ∈ tables_1, d.before a0 Z = true) (ws : List Jvm.Cond) (a2 : Addr) (ed : Addr) (ke : ClassId) (l0 : Addr) (l1 : Addr) (l2 : Addr) (h0 : Heap) (n0 : Nat) (O0 : Old Z n0 h0) (E_a2 : Exa Z h0 a2 "java/util/ArrayList") (F_a2_modCount : Fld Z h0 a2 "java/util/AbstractList" "modCount" "I" (.int 3)) (F_a2_elementData : Fld Z h0 a2 "java/util/ArrayList" "elementData" "[Ljava/lang/Object;" (.ref ed)) (F_a2_size : Fld Z h0 a2 "java/util/ArrayList" "size" "I" (.int 3)) (V_ed : Arv Z h0 ed ke (.object "java/lang/Object") (10 : Int32) [(.ref l0), (.ref l1), (.ref l2)] .null) :
    Con l Z mq22 jdk_38_method_20_code 2 (some (.object "java/lang/Object")) ws ({ frames := 2, cells := 0, slots := 0, locals := 27 } : Room) #[(.ref a2), (.int 0)] h0 (fun v h L => v = some (.ref l0) ∧ Fr n0 L ∧ h = h0) := by
  refine own_body (plainFor_of_name pn_java_util_ArrayList) ?_
  intro p e s m below meth c s₁ hx hby hml hZ hown hnm hlk hret X0 e0
  have N0 := Fr.nil n0
  have D := @hb _ _ hby
  refine Go.st (T' := s₁) (f' := (mkF m 0 #[rv a2, iv 0] [])) (fun _ k => castTop (by first | (simp [entryFrame, mkF, argsToLocals, Value.category]; done) | rfl) k) ?_
  have lt_a2 := E_a2.lt
  have lt_ed := V_ed.lt
  refine zin 1 X0 hx (D d32_0) rfl ?_
  refine zan 2 X0 hx (D d32_1) rfl rfl ?_
  refine zgf 5 X0 hx hZ hown (host := "") (Or.inl (ww hw 76 rfl)) Via.refl e0 F_a2_size (D d32_2) fun T1 X1 e1 => ?_
  refine gS 8 0 0 0 X1 N0 hx hZ (y := mq20) hown hml (ww hw 268 rfl) (ww hw 269 rfl) (ww hw 270 rfl) (rmOc0 l Z a0 hw [] h0 n0 O0) (ww hw 271 rfl) e1 [(.int 0), (.int 3)] [] (lenOf pd__II_I rfl) (D d32_5) ?_
  rintro T2 L2 M2 _ X2 uu2 ⟨rfl, Nq2, kq2⟩
  have N2 := uu2 Nq2
  refine zsk [(.int 0)] ?_
  refine Go.st (f' := (mkF m 9 #[rv a2, iv 0] [])) (fun _ k => XS.pop X2.here hx rfl (D d32_8) rfl rfl k) ?_
  refine zan 10 X2 hx (D d32_9) rfl rfl ?_
  refine zin 11 X2 hx (D d32_10) rfl ?_
  refine gV 14 0 0 0 X2 N2 hx hZ (y := mq21) hown hml (ww hw 276 rfl) (ww hw 277 rfl) (ww hw 279 rfl) (ww hw 278 rfl) (rmEd0 l Z a0 hw [] a2 ed ke l0 l1 l2 h0 n0 O0 E_a2 F_a2_modCount F_a2_elementData F_a2_size V_ed) (ww hw 280 rfl) (ww hw 2 rfl) kq2 E_a2 [(.int 0)] [] (lenOf pd__I_Ljava_lang_Object_ rfl) (D d32_11) ?_
  rintro T3 L3 M3 _ X3 uu3 ⟨rfl, Nq3, kq3⟩
  have N3 := uu3 Nq3
  refine zsk [(.ref l0)] ?_
  refine Go.retV X3 hlk hx (t := (.object "java/lang/Object")) hret rfl (Or.inr (Or.inr (Or.inr (Or.inr ⟨rfl, rfl, rfl⟩)))) (D d32_14) kq3 ?_ (by decide) (by decide)
  exact ⟨rfl, N3, rfl⟩
set_option maxRecDepth 65536 in
set_option maxHeartbeats 40000000 in
theorem rmPc1 (l : Launch) (Z : State) (a0 : Array Value) (hw : ∀ d ∈ tables_1, d.before a0 Z = true) (ws : List Jvm.Cond)  (h0 : Heap) (n0 : Nat) (O0 : Old Z n0 h0)  :
    Con l Z mq19 jdk_41_method_11_code 3 (some .int) ws ({ frames := 0, cells := 0, slots := 0, locals := 0 } : Room) #[(.int 1), (.int 3), .null] h0 (fun v h L => v = some (.int 1) ∧ Fr n0 L ∧ h = h0) := by
  refine own_body (plainFor_of_name pn_jdk_internal_util_Preconditions) ?_
  intro p e s m below meth c s₁ hx hby hml hZ hown hnm hlk hret X0 e0
  have N0 := Fr.nil n0
  have D := @hb _ _ hby
  refine Go.st (T' := s₁) (f' := (mkF m 0 #[iv 1, iv 3, .val .null] [])) (fun _ k => castTop (by first | (simp [entryFrame, mkF, argsToLocals, Value.category]; done) | rfl) k) ?_
  refine zin 1 X0 hx (D d34_0) rfl ?_
  refine zfn 4 X0 hx (D d34_1) (by decide) ?_
  refine zin 5 X0 hx (D d34_4) rfl ?_
  refine zin 6 X0 hx (D d34_5) rfl ?_
  refine zcy 16 X0 hx (D d34_6) (by decide) ?_
  refine zin 17 X0 hx (D d34_16) rfl ?_
  refine Go.retV X0 hlk hx (t := .int) hret rfl (Or.inl ⟨rfl, Or.inl rfl, _, rfl⟩) (D d34_17) e0 ?_ (by decide) (by decide)
  exact ⟨rfl, N0, rfl⟩
set_option maxRecDepth 65536 in
set_option maxHeartbeats 40000000 in
theorem rmOc1 (l : Launch) (Z : State) (a0 : Array Value) (hw : ∀ d ∈ tables_1, d.before a0 Z = true) (ws : List Jvm.Cond)  (h0 : Heap) (n0 : Nat) (O0 : Old Z n0 h0)  :
    Con l Z mq20 jdk_31_method_17_code 2 (some .int) ws ({ frames := 1, cells := 0, slots := 0, locals := 14 } : Room) #[(.int 1), (.int 3)] h0 (fun v h L => v = some (.int 1) ∧ Fr n0 L ∧ h = h0) := by
  refine own_body (plainFor_of_name pn_java_util_Objects) ?_
  intro p e s m below meth c s₁ hx hby hml hZ hown hnm hlk hret X0 e0
  have N0 := Fr.nil n0
  have D := @hb _ _ hby
  refine Go.st (T' := s₁) (f' := (mkF m 0 #[iv 1, iv 3] [])) (fun _ k => castTop (by first | (simp [entryFrame, mkF, argsToLocals, Value.category]; done) | rfl) k) ?_
  refine zin 1 X0 hx (D d33_0) rfl ?_
  refine zin 2 X0 hx (D d33_1) rfl ?_
  refine Go.st (f' := (mkF m 3 #[iv 1, iv 3] [.null, (.int 3), (.int 1)])) (fun _ k => XS.aconstNull X0.here hx rfl (D d33_2) k) ?_
  refine gS 6 0 0 0 X0 N0 hx hZ (y := mq19) hown hml (ww hw 272 rfl) (ww hw 273 rfl) (ww hw 274 rfl) (rmPc1 l Z a0 hw [] h0 n0 O0) (ww hw 275 rfl) e0 [(.int 1), (.int 3), .null] [] (lenOf pd__IILjava_util_function_BiFunction__I rfl) (D d33_3) ?_
  rintro T1 L1 M1 _ X1 uu1 ⟨rfl, Nq1, kq1⟩
  have N1 := uu1 Nq1
  refine zsk [(.int 1)] ?_
  refine Go.retV X1 hlk hx (t := .int) hret rfl (Or.inl ⟨rfl, Or.inl rfl, _, rfl⟩) (D d33_6) kq1 ?_ (by decide) (by decide)
  exact ⟨rfl, N1, rfl⟩
set_option maxRecDepth 65536 in
set_option maxHeartbeats 40000000 in
theorem rmEd1 (l : Launch) (Z : State) (a0 : Array Value) (hw : ∀ d ∈ tables_1, d.before a0 Z = true) (ws : List Jvm.Cond) (a2 : Addr) (ed : Addr) (ke : ClassId) (l0 : Addr) (l1 : Addr) (l2 : Addr) (h0 : Heap) (n0 : Nat) (O0 : Old Z n0 h0) (E_a2 : Exa Z h0 a2 "java/util/ArrayList") (F_a2_modCount : Fld Z h0 a2 "java/util/AbstractList" "modCount" "I" (.int 3)) (F_a2_elementData : Fld Z h0 a2 "java/util/ArrayList" "elementData" "[Ljava/lang/Object;" (.ref ed)) (F_a2_size : Fld Z h0 a2 "java/util/ArrayList" "size" "I" (.int 3)) (V_ed : Arv Z h0 ed ke (.object "java/lang/Object") (10 : Int32) [(.ref l0), (.ref l1), (.ref l2)] .null) :
    Con l Z mq21 jdk_38_method_18_code 2 (some (.object "java/lang/Object")) ws ({ frames := 0, cells := 0, slots := 0, locals := 0 } : Room) #[(.ref a2), (.int 1)] h0 (fun v h L => v = some (.ref l1) ∧ Fr n0 L ∧ h = h0) := by
  refine own_body (plainFor_of_name pn_java_util_ArrayList) ?_
  intro p e s m below meth c s₁ hx hby hml hZ hown hnm hlk hret X0 e0
  have N0 := Fr.nil n0
  have D := @hb _ _ hby
  refine Go.st (T' := s₁) (f' := (mkF m 0 #[rv a2, iv 1] [])) (fun _ k => castTop (by first | (simp [entryFrame, mkF, argsToLocals, Value.category]; done) | rfl) k) ?_
  have lt_a2 := E_a2.lt
  have lt_ed := V_ed.lt
  refine zan 1 X0 hx (D d35_0) rfl rfl ?_
  refine zgf 4 X0 hx hZ hown (host := "") (Or.inl (ww hw 24 rfl)) Via.refl e0 F_a2_elementData (D d35_1) fun T1 X1 e1 => ?_
  refine zin 5 X1 hx (D d35_4) rfl ?_
  obtain ⟨cl2, Ar2, -, S2, -, H2, -⟩ := id V_ed
  have hin2 : ¬ ((1 : Int32) < 0 ∨ cl2.slots.size ≤ ((1 : Int32)).toNatClampNeg) := inb_of S2 ⟨by decide, by decide⟩
  have hat2 : cl2.slots[((1 : Int32)).toNatClampNeg]? = some (.ref l1) := H2.at hin2 rfl
  refine Go.st (f' := (mkF m 6 #[rv a2, iv 1] [(.ref l1)])) (fun _ k => X1.aaload hx (j := (1 : Int32)) (v := (.ref l1)) (by rw [e1]; exact Ar2.1) (State.isArrayOf_alike hZ.alike Ar2.2.1) rfl Ar2.2.2 hin2 hat2 (g := (mkF m 5 #[rv a2, iv 1] [(.int 1), (.ref ed)])) rfl rfl (D d35_5) _ k) ?_
  refine Go.retV X1 hlk hx (t := (.object "java/lang/Object")) hret rfl (Or.inr (Or.inr (Or.inr (Or.inr ⟨rfl, rfl, rfl⟩)))) (D d35_6) e1 ?_ (by decide) (by decide)
  exact ⟨rfl, N0, rfl⟩
set_option maxRecDepth 65536 in
set_option maxHeartbeats 40000000 in
theorem rmGt1 (l : Launch) (Z : State) (a0 : Array Value) (hw : ∀ d ∈ tables_1, d.before a0 Z = true) (ws : List Jvm.Cond) (a2 : Addr) (ed : Addr) (ke : ClassId) (l0 : Addr) (l1 : Addr) (l2 : Addr) (h0 : Heap) (n0 : Nat) (O0 : Old Z n0 h0) (E_a2 : Exa Z h0 a2 "java/util/ArrayList") (F_a2_modCount : Fld Z h0 a2 "java/util/AbstractList" "modCount" "I" (.int 3)) (F_a2_elementData : Fld Z h0 a2 "java/util/ArrayList" "elementData" "[Ljava/lang/Object;" (.ref ed)) (F_a2_size : Fld Z h0 a2 "java/util/ArrayList" "size" "I" (.int 3)) (V_ed : Arv Z h0 ed ke (.object "java/lang/Object") (10 : Int32) [(.ref l0), (.ref l1), (.ref l2)] .null) :
    Con l Z mq22 jdk_38_method_20_code 2 (some (.object "java/lang/Object")) ws ({ frames := 2, cells := 0, slots := 0, locals := 27 } : Room) #[(.ref a2), (.int 1)] h0 (fun v h L => v = some (.ref l1) ∧ Fr n0 L ∧ h = h0) := by
  refine own_body (plainFor_of_name pn_java_util_ArrayList) ?_
  intro p e s m below meth c s₁ hx hby hml hZ hown hnm hlk hret X0 e0
  have N0 := Fr.nil n0
  have D := @hb _ _ hby
  refine Go.st (T' := s₁) (f' := (mkF m 0 #[rv a2, iv 1] [])) (fun _ k => castTop (by first | (simp [entryFrame, mkF, argsToLocals, Value.category]; done) | rfl) k) ?_
  have lt_a2 := E_a2.lt
  have lt_ed := V_ed.lt
  refine zin 1 X0 hx (D d32_0) rfl ?_
  refine zan 2 X0 hx (D d32_1) rfl rfl ?_
  refine zgf 5 X0 hx hZ hown (host := "") (Or.inl (ww hw 76 rfl)) Via.refl e0 F_a2_size (D d32_2) fun T1 X1 e1 => ?_
  refine gS 8 0 0 0 X1 N0 hx hZ (y := mq20) hown hml (ww hw 268 rfl) (ww hw 269 rfl) (ww hw 270 rfl) (rmOc1 l Z a0 hw [] h0 n0 O0) (ww hw 271 rfl) e1 [(.int 1), (.int 3)] [] (lenOf pd__II_I rfl) (D d32_5) ?_
  rintro T2 L2 M2 _ X2 uu2 ⟨rfl, Nq2, kq2⟩
  have N2 := uu2 Nq2
  refine zsk [(.int 1)] ?_
  refine Go.st (f' := (mkF m 9 #[rv a2, iv 1] [])) (fun _ k => XS.pop X2.here hx rfl (D d32_8) rfl rfl k) ?_
  refine zan 10 X2 hx (D d32_9) rfl rfl ?_
  refine zin 11 X2 hx (D d32_10) rfl ?_
  refine gV 14 0 0 0 X2 N2 hx hZ (y := mq21) hown hml (ww hw 276 rfl) (ww hw 277 rfl) (ww hw 279 rfl) (ww hw 278 rfl) (rmEd1 l Z a0 hw [] a2 ed ke l0 l1 l2 h0 n0 O0 E_a2 F_a2_modCount F_a2_elementData F_a2_size V_ed) (ww hw 280 rfl) (ww hw 2 rfl) kq2 E_a2 [(.int 1)] [] (lenOf pd__I_Ljava_lang_Object_ rfl) (D d32_11) ?_
  rintro T3 L3 M3 _ X3 uu3 ⟨rfl, Nq3, kq3⟩
  have N3 := uu3 Nq3
  refine zsk [(.ref l1)] ?_
  refine Go.retV X3 hlk hx (t := (.object "java/lang/Object")) hret rfl (Or.inr (Or.inr (Or.inr (Or.inr ⟨rfl, rfl, rfl⟩)))) (D d32_14) kq3 ?_ (by decide) (by decide)
  exact ⟨rfl, N3, rfl⟩
set_option maxRecDepth 65536 in
set_option maxHeartbeats 40000000 in
theorem rmPc2 (l : Launch) (Z : State) (a0 : Array Value) (hw : ∀ d ∈ tables_1, d.before a0 Z = true) (ws : List Jvm.Cond)  (h0 : Heap) (n0 : Nat) (O0 : Old Z n0 h0)  :
    Con l Z mq19 jdk_41_method_11_code 3 (some .int) ws ({ frames := 0, cells := 0, slots := 0, locals := 0 } : Room) #[(.int 2), (.int 3), .null] h0 (fun v h L => v = some (.int 2) ∧ Fr n0 L ∧ h = h0) := by
  refine own_body (plainFor_of_name pn_jdk_internal_util_Preconditions) ?_
  intro p e s m below meth c s₁ hx hby hml hZ hown hnm hlk hret X0 e0
  have N0 := Fr.nil n0
  have D := @hb _ _ hby
  refine Go.st (T' := s₁) (f' := (mkF m 0 #[iv 2, iv 3, .val .null] [])) (fun _ k => castTop (by first | (simp [entryFrame, mkF, argsToLocals, Value.category]; done) | rfl) k) ?_
  refine zin 1 X0 hx (D d34_0) rfl ?_
  refine zfn 4 X0 hx (D d34_1) (by decide) ?_
  refine zin 5 X0 hx (D d34_4) rfl ?_
  refine zin 6 X0 hx (D d34_5) rfl ?_
  refine zcy 16 X0 hx (D d34_6) (by decide) ?_
  refine zin 17 X0 hx (D d34_16) rfl ?_
  refine Go.retV X0 hlk hx (t := .int) hret rfl (Or.inl ⟨rfl, Or.inl rfl, _, rfl⟩) (D d34_17) e0 ?_ (by decide) (by decide)
  exact ⟨rfl, N0, rfl⟩
set_option maxRecDepth 65536 in
set_option maxHeartbeats 40000000 in
theorem rmOc2 (l : Launch) (Z : State) (a0 : Array Value) (hw : ∀ d ∈ tables_1, d.before a0 Z = true) (ws : List Jvm.Cond)  (h0 : Heap) (n0 : Nat) (O0 : Old Z n0 h0)  :
    Con l Z mq20 jdk_31_method_17_code 2 (some .int) ws ({ frames := 1, cells := 0, slots := 0, locals := 14 } : Room) #[(.int 2), (.int 3)] h0 (fun v h L => v = some (.int 2) ∧ Fr n0 L ∧ h = h0) := by
  refine own_body (plainFor_of_name pn_java_util_Objects) ?_
  intro p e s m below meth c s₁ hx hby hml hZ hown hnm hlk hret X0 e0
  have N0 := Fr.nil n0
  have D := @hb _ _ hby
  refine Go.st (T' := s₁) (f' := (mkF m 0 #[iv 2, iv 3] [])) (fun _ k => castTop (by first | (simp [entryFrame, mkF, argsToLocals, Value.category]; done) | rfl) k) ?_
  refine zin 1 X0 hx (D d33_0) rfl ?_
  refine zin 2 X0 hx (D d33_1) rfl ?_
  refine Go.st (f' := (mkF m 3 #[iv 2, iv 3] [.null, (.int 3), (.int 2)])) (fun _ k => XS.aconstNull X0.here hx rfl (D d33_2) k) ?_
  refine gS 6 0 0 0 X0 N0 hx hZ (y := mq19) hown hml (ww hw 272 rfl) (ww hw 273 rfl) (ww hw 274 rfl) (rmPc2 l Z a0 hw [] h0 n0 O0) (ww hw 275 rfl) e0 [(.int 2), (.int 3), .null] [] (lenOf pd__IILjava_util_function_BiFunction__I rfl) (D d33_3) ?_
  rintro T1 L1 M1 _ X1 uu1 ⟨rfl, Nq1, kq1⟩
  have N1 := uu1 Nq1
  refine zsk [(.int 2)] ?_
  refine Go.retV X1 hlk hx (t := .int) hret rfl (Or.inl ⟨rfl, Or.inl rfl, _, rfl⟩) (D d33_6) kq1 ?_ (by decide) (by decide)
  exact ⟨rfl, N1, rfl⟩
set_option maxRecDepth 65536 in
set_option maxHeartbeats 40000000 in
theorem rmEd2 (l : Launch) (Z : State) (a0 : Array Value) (hw : ∀ d ∈ tables_1, d.before a0 Z = true) (ws : List Jvm.Cond) (a2 : Addr) (ed : Addr) (ke : ClassId) (l0 : Addr) (l1 : Addr) (l2 : Addr) (h0 : Heap) (n0 : Nat) (O0 : Old Z n0 h0) (E_a2 : Exa Z h0 a2 "java/util/ArrayList") (F_a2_modCount : Fld Z h0 a2 "java/util/AbstractList" "modCount" "I" (.int 3)) (F_a2_elementData : Fld Z h0 a2 "java/util/ArrayList" "elementData" "[Ljava/lang/Object;" (.ref ed)) (F_a2_size : Fld Z h0 a2 "java/util/ArrayList" "size" "I" (.int 3)) (V_ed : Arv Z h0 ed ke (.object "java/lang/Object") (10 : Int32) [(.ref l0), (.ref l1), (.ref l2)] .null) :
    Con l Z mq21 jdk_38_method_18_code 2 (some (.object "java/lang/Object")) ws ({ frames := 0, cells := 0, slots := 0, locals := 0 } : Room) #[(.ref a2), (.int 2)] h0 (fun v h L => v = some (.ref l2) ∧ Fr n0 L ∧ h = h0) := by
  refine own_body (plainFor_of_name pn_java_util_ArrayList) ?_
  intro p e s m below meth c s₁ hx hby hml hZ hown hnm hlk hret X0 e0
  have N0 := Fr.nil n0
  have D := @hb _ _ hby
  refine Go.st (T' := s₁) (f' := (mkF m 0 #[rv a2, iv 2] [])) (fun _ k => castTop (by first | (simp [entryFrame, mkF, argsToLocals, Value.category]; done) | rfl) k) ?_
  have lt_a2 := E_a2.lt
  have lt_ed := V_ed.lt
  refine zan 1 X0 hx (D d35_0) rfl rfl ?_
  refine zgf 4 X0 hx hZ hown (host := "") (Or.inl (ww hw 24 rfl)) Via.refl e0 F_a2_elementData (D d35_1) fun T1 X1 e1 => ?_
  refine zin 5 X1 hx (D d35_4) rfl ?_
  obtain ⟨cl2, Ar2, -, S2, -, H2, -⟩ := id V_ed
  have hin2 : ¬ ((2 : Int32) < 0 ∨ cl2.slots.size ≤ ((2 : Int32)).toNatClampNeg) := inb_of S2 ⟨by decide, by decide⟩
  have hat2 : cl2.slots[((2 : Int32)).toNatClampNeg]? = some (.ref l2) := H2.at hin2 rfl
  refine Go.st (f' := (mkF m 6 #[rv a2, iv 2] [(.ref l2)])) (fun _ k => X1.aaload hx (j := (2 : Int32)) (v := (.ref l2)) (by rw [e1]; exact Ar2.1) (State.isArrayOf_alike hZ.alike Ar2.2.1) rfl Ar2.2.2 hin2 hat2 (g := (mkF m 5 #[rv a2, iv 2] [(.int 2), (.ref ed)])) rfl rfl (D d35_5) _ k) ?_
  refine Go.retV X1 hlk hx (t := (.object "java/lang/Object")) hret rfl (Or.inr (Or.inr (Or.inr (Or.inr ⟨rfl, rfl, rfl⟩)))) (D d35_6) e1 ?_ (by decide) (by decide)
  exact ⟨rfl, N0, rfl⟩
set_option maxRecDepth 65536 in
set_option maxHeartbeats 40000000 in
theorem rmGt2 (l : Launch) (Z : State) (a0 : Array Value) (hw : ∀ d ∈ tables_1, d.before a0 Z = true) (ws : List Jvm.Cond) (a2 : Addr) (ed : Addr) (ke : ClassId) (l0 : Addr) (l1 : Addr) (l2 : Addr) (h0 : Heap) (n0 : Nat) (O0 : Old Z n0 h0) (E_a2 : Exa Z h0 a2 "java/util/ArrayList") (F_a2_modCount : Fld Z h0 a2 "java/util/AbstractList" "modCount" "I" (.int 3)) (F_a2_elementData : Fld Z h0 a2 "java/util/ArrayList" "elementData" "[Ljava/lang/Object;" (.ref ed)) (F_a2_size : Fld Z h0 a2 "java/util/ArrayList" "size" "I" (.int 3)) (V_ed : Arv Z h0 ed ke (.object "java/lang/Object") (10 : Int32) [(.ref l0), (.ref l1), (.ref l2)] .null) :
    Con l Z mq22 jdk_38_method_20_code 2 (some (.object "java/lang/Object")) ws ({ frames := 2, cells := 0, slots := 0, locals := 27 } : Room) #[(.ref a2), (.int 2)] h0 (fun v h L => v = some (.ref l2) ∧ Fr n0 L ∧ h = h0) := by
  refine own_body (plainFor_of_name pn_java_util_ArrayList) ?_
  intro p e s m below meth c s₁ hx hby hml hZ hown hnm hlk hret X0 e0
  have N0 := Fr.nil n0
  have D := @hb _ _ hby
  refine Go.st (T' := s₁) (f' := (mkF m 0 #[rv a2, iv 2] [])) (fun _ k => castTop (by first | (simp [entryFrame, mkF, argsToLocals, Value.category]; done) | rfl) k) ?_
  have lt_a2 := E_a2.lt
  have lt_ed := V_ed.lt
  refine zin 1 X0 hx (D d32_0) rfl ?_
  refine zan 2 X0 hx (D d32_1) rfl rfl ?_
  refine zgf 5 X0 hx hZ hown (host := "") (Or.inl (ww hw 76 rfl)) Via.refl e0 F_a2_size (D d32_2) fun T1 X1 e1 => ?_
  refine gS 8 0 0 0 X1 N0 hx hZ (y := mq20) hown hml (ww hw 268 rfl) (ww hw 269 rfl) (ww hw 270 rfl) (rmOc2 l Z a0 hw [] h0 n0 O0) (ww hw 271 rfl) e1 [(.int 2), (.int 3)] [] (lenOf pd__II_I rfl) (D d32_5) ?_
  rintro T2 L2 M2 _ X2 uu2 ⟨rfl, Nq2, kq2⟩
  have N2 := uu2 Nq2
  refine zsk [(.int 2)] ?_
  refine Go.st (f' := (mkF m 9 #[rv a2, iv 2] [])) (fun _ k => XS.pop X2.here hx rfl (D d32_8) rfl rfl k) ?_
  refine zan 10 X2 hx (D d32_9) rfl rfl ?_
  refine zin 11 X2 hx (D d32_10) rfl ?_
  refine gV 14 0 0 0 X2 N2 hx hZ (y := mq21) hown hml (ww hw 276 rfl) (ww hw 277 rfl) (ww hw 279 rfl) (ww hw 278 rfl) (rmEd2 l Z a0 hw [] a2 ed ke l0 l1 l2 h0 n0 O0 E_a2 F_a2_modCount F_a2_elementData F_a2_size V_ed) (ww hw 280 rfl) (ww hw 2 rfl) kq2 E_a2 [(.int 2)] [] (lenOf pd__I_Ljava_lang_Object_ rfl) (D d32_11) ?_
  rintro T3 L3 M3 _ X3 uu3 ⟨rfl, Nq3, kq3⟩
  have N3 := uu3 Nq3
  refine zsk [(.ref l2)] ?_
  refine Go.retV X3 hlk hx (t := (.object "java/lang/Object")) hret rfl (Or.inr (Or.inr (Or.inr (Or.inr ⟨rfl, rfl, rfl⟩)))) (D d32_14) kq3 ?_ (by decide) (by decide)
  exact ⟨rfl, N3, rfl⟩
theorem pn_java_util_Arrays : plainName "java/util/Arrays" = true := by first | (simp [plainName, overriddenIn]; done) | decide +kernel
theorem d25_0 : decode jdk_65_method_120_code 0 = .ok (.aload_n 2, 1) := by decide +kernel
theorem d25_1 : decode jdk_65_method_120_code 1 = .ok (.ldc 110, 2) := by decide +kernel
theorem d25_3 : decode jdk_65_method_120_code 3 = .ok (.if_acmp .ne 10, 3) := by decide +kernel
theorem d25_6 : decode jdk_65_method_120_code 6 = .ok (.iload_n 1, 1) := by decide +kernel
theorem d25_7 : decode jdk_65_method_120_code 7 = .ok (.anewarray 2, 3) := by decide +kernel
theorem d25_10 : decode jdk_65_method_120_code 10 = .ok (.goto 14, 3) := by decide +kernel
theorem d25_24 : decode jdk_65_method_120_code 24 = .ok (.astore_n 3, 1) := by decide +kernel
theorem d25_25 : decode jdk_65_method_120_code 25 = .ok (.aload_n 0, 1) := by decide +kernel
theorem d25_26 : decode jdk_65_method_120_code 26 = .ok (.iconst 0, 1) := by decide +kernel
theorem d25_27 : decode jdk_65_method_120_code 27 = .ok (.aload_n 3, 1) := by decide +kernel
theorem d25_28 : decode jdk_65_method_120_code 28 = .ok (.iconst 0, 1) := by decide +kernel
theorem d25_29 : decode jdk_65_method_120_code 29 = .ok (.aload_n 0, 1) := by decide +kernel
theorem d25_30 : decode jdk_65_method_120_code 30 = .ok (.arraylength, 1) := by decide +kernel
theorem d25_31 : decode jdk_65_method_120_code 31 = .ok (.iload_n 1, 1) := by decide +kernel
theorem d25_32 : decode jdk_65_method_120_code 32 = .ok (.invokestatic 304, 3) := by decide +kernel
theorem d25_35 : decode jdk_65_method_120_code 35 = .ok (.invokestatic 150, 3) := by decide +kernel
theorem d25_38 : decode jdk_65_method_120_code 38 = .ok (.aload_n 3, 1) := by decide +kernel
theorem d25_39 : decode jdk_65_method_120_code 39 = .ok (.areturn, 1) := by decide +kernel
set_option maxRecDepth 65536 in
set_option maxHeartbeats 40000000 in
theorem rmC3 (l : Launch) (Z : State) (a0 : Array Value) (hw : ∀ d ∈ tables_1, d.before a0 Z = true) (ws : List Jvm.Cond) (ed : Addr) (ke : ClassId) (l0 : Addr) (l1 : Addr) (l2 : Addr) (mir_0 : Addr) (mir_1 : Addr) (mir_2 : Addr) (mir_3 : Addr) (wE : Addr) (wD : Addr) (kE : ClassId) (kD : ClassId) (h0 : Heap) (n0 : Nat) (O0 : Old Z n0 h0) (E_l0 : Exa Z h0 l0 "com/example/kinetic_city/kineticcity/engine/TransitLine") (E_l1 : Exa Z h0 l1 "com/example/kinetic_city/kineticcity/engine/TransitLine") (E_l2 : Exa Z h0 l2 "com/example/kinetic_city/kineticcity/engine/TransitLine") (E_ed : Exa Z h0 ed "[Ljava/lang/Object;") (V_ed : Arv Z h0 ed ke (.object "java/lang/Object") (10 : Int32) [(.ref l0), (.ref l1), (.ref l2)] .null) (WW : World1 Z mir_0 mir_1 mir_2 mir_3 wE wD kE kD) :
    Con l Z mq23 jdk_65_method_120_code 4 (some (.array (.object "java/lang/Object"))) ws ({ frames := 1, cells := 1, slots := 3, locals := 20 } : Room) #[(.ref ed), (.int 3), (.ref mir_0)] h0 (fun v h L => ∃ (b : Addr) (kb : ClassId), v = some (.ref b) ∧ Fr n0 L ∧ h0.size ≤ b ∧ Keep h0 h [] ∧ Exa Z h b "[Ljava/lang/Object;" ∧ Arv Z h b kb (.object "java/lang/Object") (3 : Int32) [(.ref l0), (.ref l1), (.ref l2)] .null) := by
  refine own_body (plainFor_of_name pn_java_util_Arrays) ?_
  intro p e s m below meth c s₁ hx hby hml hZ hown hnm hlk hret X0 e0
  have N0 := Fr.nil n0
  have D := @hb _ _ hby
  have K0 : Keep h0 h0 [] := Keep.refl _ _
  refine Go.st (T' := s₁) (f' := (mkF m 0 #[rv ed, iv 3, rv mir_0, .unset] [])) (fun _ k => castTop (by first | (simp [entryFrame, mkF, argsToLocals, Value.category]; done) | rfl) k) ?_
  have ⟨M_0, M_1, M_2, M_3, S_wE, E_wE, S_wD, E_wD, V_wE, V_wD⟩ := WW
  have lt_wE := E_wE.lt
  have lt_wD := E_wD.lt
  have lt_l0 := E_l0.lt
  have lt_l1 := E_l1.lt
  have lt_l2 := E_l2.lt
  have lt_ed := V_ed.lt
  refine zan 1 X0 hx (D d25_0) rfl rfl ?_
  obtain ⟨T1, X1, e1, st1⟩ := own_ldcM X0 hx hZ hown (ww hw 196 rfl) e0 M_0 (g := (mkF m 1 #[rv ed, iv 3, rv mir_0, .unset] [(.ref mir_0)])) rfl (D d25_1)
  refine zst 3 #[rv ed, iv 3, rv mir_0, .unset] [(.ref mir_0), (.ref mir_0)] st1 ?_
  refine Go.st (f' := (mkF m 6 #[rv ed, iv 3, rv mir_0, .unset] [])) (fun _ k => Jvm.RoadKit.acmp (g := (mkF m 3 #[rv ed, iv 3, rv mir_0, .unset] [(.ref mir_0), (.ref mir_0)])) X1 hx rfl rfl rfl (pc0 := 3) (pc' := 6) (same := true) rfl (D d25_3) rfl (decide_eq_true rfl) (by decide) (by decide) k) ?_
  refine zin 7 X1 hx (D d25_6) rfl ?_
  obtain ⟨T2, h2, kc2, X2, e2, E2, A2, Ex2, Ov2, st2⟩ := newRE X1 hx hZ hown (ww hw 197 rfl) (ww hw 97 rfl) e1 (g := (mkF m 7 #[rv ed, iv 3, rv mir_0, .unset] [(.int 3)])) rfl (D d25_7) rfl (by decide) (cap := 3) (by decide) (by decide) (by decide) (by decide) (ad := "[Ljava/lang/Object;") (by decide +kernel)
  obtain ⟨b2, g2⟩ : ∃ z, z = h0.size := ⟨_, rfl⟩
  rw [← g2] at A2 Ex2 st2
  have ne_l0_b2 : l0 ≠ b2 := Nat.ne_of_lt (lteq lt_l0 g2.symm)
  have ne_l1_b2 : l1 ≠ b2 := Nat.ne_of_lt (lteq lt_l1 g2.symm)
  have ne_l2_b2 : l2 ≠ b2 := Nat.ne_of_lt (lteq lt_l2 g2.symm)
  have ne_ed_b2 : ed ≠ b2 := Nat.ne_of_lt (lteq lt_ed g2.symm)
  have ne_wE_b2 : wE ≠ b2 := Nat.ne_of_lt (ltle lt_wE (Nat.le_trans O0.2.1 (Nat.le_of_eq g2.symm)))
  have ne_wD_b2 : wD ≠ b2 := Nat.ne_of_lt (ltle lt_wD (Nat.le_trans O0.2.1 (Nat.le_of_eq g2.symm)))
  have g_b2 : n0 ≤ b2 := Nat.le_trans (O0.1 ▸ O0.2.1) (Nat.le_of_eq g2.symm)
  have O2 : Old Z n0 h2 := O0.ext E2
  have sz_b2 : h0.size ≤ b2 := Nat.le_trans K0.1 (Nat.le_of_eq g2.symm)
  have K2 : Keep h0 h2 [] := K0.ext E2
  have V_b2 : Arv Z h2 b2 kc2 (.object "java/lang/Object") (3 : Int32) [.null, .null, .null] .null := (Arv.new A2 (by decide)).pad (pad_rep [] .null 3)
  have lt_b2 := V_b2.lt
  refine zst 10 #[rv ed, iv 3, rv mir_0, .unset] [(.ref b2)] st2 ?_
  refine zgo 24 X2 hx (D d25_10) ?_
  refine zrn 25 #[rv ed, iv 3, rv mir_0, rv b2] X2 hx (D d25_24) rfl ?_
  refine zan 26 X2 hx (D d25_25) rfl rfl ?_
  refine zic 27 0 X2 hx (D d25_26) ?_
  refine zan 28 X2 hx (D d25_27) rfl rfl ?_
  refine zic 29 0 X2 hx (D d25_28) ?_
  refine zan 30 X2 hx (D d25_29) rfl rfl ?_
  have ft4 := (V_ed.ext E2)
  obtain ⟨cl3, Ar3, -, S3, Nx3, -, -⟩ := id ft4
  refine Go.st (T' := T2) (f' := (mkF m 31 #[rv ed, iv 3, rv mir_0, rv b2] [(.int 10), (.int 0), (.ref b2), (.int 0), (.ref ed)])) (fun _ k => X2.arraylength hx (by rw [e2]; exact Ar3.1) (State.isArrayOf_alike hZ.alike Ar3.2.1) (g := (mkF m 30 #[rv ed, iv 3, rv mir_0, rv b2] [(.ref ed), (.int 0), (.ref b2), (.int 0), (.ref ed)])) rfl rfl (D d25_30) _ (by rw [len_of S3 Nx3]; exact k)) ?_
  refine zin 32 X2 hx (D d25_31) rfl ?_
  refine gS 35 4 1 3 X2 N0 hx hZ (y := mq8) hown hml (ww hw 198 rfl) (ww hw 199 rfl) (ww hw 45 rfl) (rmMn l Z a0 hw [] h2 n0 O2) (ww hw 200 rfl) e2 [(.int 10), (.int 3)] [(.int 0), (.ref b2), (.int 0), (.ref ed)] (lenOf pd__II_I rfl) (D d25_32) ?_
  rintro T5 L5 M5 _ X5 uu5 ⟨rfl, Nq5, kq5⟩
  have N5 := uu5 Nq5
  refine zsk [(.int 3), (.int 0), (.ref b2), (.int 0), (.ref ed)] ?_
  obtain ⟨clso7, Arso7, qso7, -⟩ := id V_b2
  have ft8 := (E_l0.ext E2)
  have ft9 := (E_l1.ext E2)
  have ft10 := (E_l2.ext E2)
  obtain ⟨T11, h11, L11, X11, e11, N11, kq11, vq11, st11⟩ := cpA X5 hx hZ hown (ww hw 201 rfl) (ww hw 204 rfl) (ww hw 202 rfl) (ww hw 203 rfl) kq5 ft4 V_b2 (us := [(.ref l0), (.ref l1), (.ref l2)]) (Or.inr ⟨rfl, rfl, ⟨Sto.ofV Arso7 qso7 Ov2 (Ins.of_exa ft8 (ww hw 98 rfl)), Sto.ofV Arso7 qso7 Ov2 (Ins.of_exa ft9 (ww hw 98 rfl)), Sto.ofV Arso7 qso7 Ov2 (Ins.of_exa ft10 (ww hw 98 rfl)), trivial⟩⟩) (by decide) (by decide) (by decide) (by decide) (by decide) rfl (by decide) N5 g_b2 (g := (mkF m 35 #[rv ed, iv 3, rv mir_0, rv b2] [(.int 3), (.int 0), (.ref b2), (.int 0), (.ref ed)])) rfl (by rw [hml]; rfl) rfl (D d25_35) (by decide) (W := 0) (by show 2 * 0 + _ ≤ _; exact Nat.le_of_eq rfl) (by decide)
  have O11 : Old Z n0 h11 := O2.keep kq11 (allS g_b2 all0)
  have K11 : Keep h0 h11 [] := K2.trans kq11 (allS (Or.inr sz_b2) all0)
  refine zst 38 #[rv ed, iv 3, rv mir_0, rv b2] [] st11 ?_
  refine zan 39 X11 hx (D d25_38) rfl rfl ?_
  refine Go.retV X11 hlk hx (t := (.array (.object "java/lang/Object"))) hret rfl (Or.inr (Or.inr (Or.inr (Or.inr ⟨rfl, rfl, rfl⟩)))) (D d25_39) e11 ?_ (by decide) (by decide)
  have ft12 := (Ex2.keep kq11)
  exact ⟨b2, kc2, rfl, N11, sz_b2, K11, ft12, vq11⟩
theorem d24_0 : decode jdk_65_method_119_code 0 = .ok (.aload_n 0, 1) := by decide +kernel
theorem d24_1 : decode jdk_65_method_119_code 1 = .ok (.iload_n 1, 1) := by decide +kernel
theorem d24_2 : decode jdk_65_method_119_code 2 = .ok (.aload_n 0, 1) := by decide +kernel
theorem d24_3 : decode jdk_65_method_119_code 3 = .ok (.invokevirtual 86, 3) := by decide +kernel
theorem d24_6 : decode jdk_65_method_119_code 6 = .ok (.invokestatic 300, 3) := by decide +kernel
theorem pd___Ljava_lang_Object_ILjava_lang_Class___Ljava_lang_Object_ : parseMethodDescriptor "([Ljava/lang/Object;ILjava/lang/Class;)[Ljava/lang/Object;" = some ⟨[(.array (.object "java/lang/Object")), .int, (.object "java/lang/Class")], some (.array (.object "java/lang/Object"))⟩ := by decide +kernel
theorem d24_9 : decode jdk_65_method_119_code 9 = .ok (.areturn, 1) := by decide +kernel
set_option maxRecDepth 65536 in
set_option maxHeartbeats 40000000 in
theorem rmC2 (l : Launch) (Z : State) (a0 : Array Value) (hw : ∀ d ∈ tables_1, d.before a0 Z = true) (ws : List Jvm.Cond) (ed : Addr) (ke : ClassId) (l0 : Addr) (l1 : Addr) (l2 : Addr) (mir_0 : Addr) (mir_1 : Addr) (mir_2 : Addr) (mir_3 : Addr) (wE : Addr) (wD : Addr) (kE : ClassId) (kD : ClassId) (h0 : Heap) (n0 : Nat) (O0 : Old Z n0 h0) (E_l0 : Exa Z h0 l0 "com/example/kinetic_city/kineticcity/engine/TransitLine") (E_l1 : Exa Z h0 l1 "com/example/kinetic_city/kineticcity/engine/TransitLine") (E_l2 : Exa Z h0 l2 "com/example/kinetic_city/kineticcity/engine/TransitLine") (E_ed : Exa Z h0 ed "[Ljava/lang/Object;") (V_ed : Arv Z h0 ed ke (.object "java/lang/Object") (10 : Int32) [(.ref l0), (.ref l1), (.ref l2)] .null) (WW : World1 Z mir_0 mir_1 mir_2 mir_3 wE wD kE kD) :
    Con l Z mq24 jdk_65_method_119_code 2 (some (.array (.object "java/lang/Object"))) ws ({ frames := 2, cells := 1, slots := 3, locals := 35 } : Room) #[(.ref ed), (.int 3)] h0 (fun v h L => ∃ (b : Addr) (kb : ClassId), v = some (.ref b) ∧ Fr n0 L ∧ h0.size ≤ b ∧ Keep h0 h [] ∧ Exa Z h b "[Ljava/lang/Object;" ∧ Arv Z h b kb (.object "java/lang/Object") (3 : Int32) [(.ref l0), (.ref l1), (.ref l2)] .null) := by
  refine own_body (plainFor_of_name pn_java_util_Arrays) ?_
  intro p e s m below meth c s₁ hx hby hml hZ hown hnm hlk hret X0 e0
  have N0 := Fr.nil n0
  have D := @hb _ _ hby
  have K0 : Keep h0 h0 [] := Keep.refl _ _
  refine Go.st (T' := s₁) (f' := (mkF m 0 #[rv ed, iv 3] [])) (fun _ k => castTop (by first | (simp [entryFrame, mkF, argsToLocals, Value.category]; done) | rfl) k) ?_
  have ⟨M_0, M_1, M_2, M_3, S_wE, E_wE, S_wD, E_wD, V_wE, V_wD⟩ := WW
  have lt_wE := E_wE.lt
  have lt_wD := E_wD.lt
  have lt_l0 := E_l0.lt
  have lt_l1 := E_l1.lt
  have lt_l2 := E_l2.lt
  have lt_ed := V_ed.lt
  refine zan 1 X0 hx (D d24_0) rfl rfl ?_
  refine zin 2 X0 hx (D d24_1) rfl ?_
  refine zan 3 X0 hx (D d24_2) rfl rfl ?_
  obtain ⟨T1, X1, e1, st1⟩ := own_gcV X0 hx hZ hown (ww hw 187 rfl) (ww hw 188 rfl) (ww hw 190 rfl) (ww hw 189 rfl) (ww hw 191 rfl) e0 E_ed M_0 (g := (mkF m 3 #[rv ed, iv 3] [(.ref ed), (.int 3), (.ref ed)])) rfl (by rw [hml]; rfl) rfl (D d24_3) (by decide) (by show 2 * 0 + 2 + _ ≤ _; decide)
  refine zst 6 #[rv ed, iv 3] [(.ref mir_0), (.int 3), (.ref ed)] st1 ?_
  refine gS 9 0 1 3 X1 N0 hx hZ (y := mq23) hown hml (ww hw 193 rfl) (ww hw 194 rfl) (ww hw 185 rfl) (rmC3 l Z a0 hw [] ed ke l0 l1 l2 mir_0 mir_1 mir_2 mir_3 wE wD kE kD h0 n0 O0 E_l0 E_l1 E_l2 E_ed V_ed WW) (ww hw 195 rfl) e1 [(.ref ed), (.int 3), (.ref mir_0)] [] (lenOf pd___Ljava_lang_Object_ILjava_lang_Class___Ljava_lang_Object_ rfl) (D d24_6) ?_
  rintro T2 L2 M2 _ X2 uu2 ⟨b2, kb2, rfl, Nq2, zq2, kq2, eq2, vq2⟩
  have N2 := uu2 Nq2
  have ne_l0_b2 : l0 ≠ b2 := Nat.ne_of_lt (ltle lt_l0 zq2)
  have ne_l1_b2 : l1 ≠ b2 := Nat.ne_of_lt (ltle lt_l1 zq2)
  have ne_l2_b2 : l2 ≠ b2 := Nat.ne_of_lt (ltle lt_l2 zq2)
  have ne_ed_b2 : ed ≠ b2 := Nat.ne_of_lt (ltle lt_ed zq2)
  have ne_wE_b2 : wE ≠ b2 := Nat.ne_of_lt (ltle lt_wE (Nat.le_trans O0.2.1 zq2))
  have ne_wD_b2 : wD ≠ b2 := Nat.ne_of_lt (ltle lt_wD (Nat.le_trans O0.2.1 zq2))
  have g_b2 : n0 ≤ b2 := Nat.le_trans (O0.1 ▸ O0.2.1) zq2
  have sz_b2 : h0.size ≤ b2 := Nat.le_trans K0.1 zq2
  have O2 : Old Z n0 T2.heap := O0.keep kq2 all0
  have K2 : Keep h0 T2.heap [] := K0.trans kq2 all0
  have lt_b2 := eq2.lt
  refine zsk [(.ref b2)] ?_
  refine Go.retV X2 hlk hx (t := (.array (.object "java/lang/Object"))) hret rfl (Or.inr (Or.inr (Or.inr (Or.inr ⟨rfl, rfl, rfl⟩)))) (D d24_9) rfl ?_ (by decide) (by decide)
  exact ⟨b2, kb2, rfl, N2, sz_b2, K2, eq2, vq2⟩
theorem d23_0 : decode jdk_38_method_16_code 0 = .ok (.aload_n 0, 1) := by decide +kernel
theorem d23_1 : decode jdk_38_method_16_code 1 = .ok (.getfield 9, 3) := by decide +kernel
theorem d23_4 : decode jdk_38_method_16_code 4 = .ok (.aload_n 0, 1) := by decide +kernel
theorem d23_5 : decode jdk_38_method_16_code 5 = .ok (.getfield 48, 3) := by decide +kernel
theorem d23_8 : decode jdk_38_method_16_code 8 = .ok (.invokestatic 66, 3) := by decide +kernel
theorem pd___Ljava_lang_Object_I__Ljava_lang_Object_ : parseMethodDescriptor "([Ljava/lang/Object;I)[Ljava/lang/Object;" = some ⟨[(.array (.object "java/lang/Object")), .int], some (.array (.object "java/lang/Object"))⟩ := by decide +kernel
theorem d23_11 : decode jdk_38_method_16_code 11 = .ok (.areturn, 1) := by decide +kernel
set_option maxRecDepth 65536 in
set_option maxHeartbeats 40000000 in
theorem rmTa (l : Launch) (Z : State) (a0 : Array Value) (hw : ∀ d ∈ tables_1, d.before a0 Z = true) (ws : List Jvm.Cond) (a2 : Addr) (ed : Addr) (ke : ClassId) (l0 : Addr) (l1 : Addr) (l2 : Addr) (mir_0 : Addr) (mir_1 : Addr) (mir_2 : Addr) (mir_3 : Addr) (wE : Addr) (wD : Addr) (kE : ClassId) (kD : ClassId) (h0 : Heap) (n0 : Nat) (O0 : Old Z n0 h0) (E_l0 : Exa Z h0 l0 "com/example/kinetic_city/kineticcity/engine/TransitLine") (E_l1 : Exa Z h0 l1 "com/example/kinetic_city/kineticcity/engine/TransitLine") (E_l2 : Exa Z h0 l2 "com/example/kinetic_city/kineticcity/engine/TransitLine") (E_ed : Exa Z h0 ed "[Ljava/lang/Object;") (V_ed : Arv Z h0 ed ke (.object "java/lang/Object") (10 : Int32) [(.ref l0), (.ref l1), (.ref l2)] .null) (E_a2 : Exa Z h0 a2 "java/util/ArrayList") (F_a2_modCount : Fld Z h0 a2 "java/util/AbstractList" "modCount" "I" (.int 3)) (F_a2_elementData : Fld Z h0 a2 "java/util/ArrayList" "elementData" "[Ljava/lang/Object;" (.ref ed)) (F_a2_size : Fld Z h0 a2 "java/util/ArrayList" "size" "I" (.int 3)) (WW : World1 Z mir_0 mir_1 mir_2 mir_3 wE wD kE kD) :
    Con l Z mq25 jdk_38_method_16_code 1 (some (.array (.object "java/lang/Object"))) ws ({ frames := 3, cells := 1, slots := 3, locals := 48 } : Room) #[(.ref a2)] h0 (fun v h L => ∃ (b : Addr) (kb : ClassId), v = some (.ref b) ∧ Fr n0 L ∧ h0.size ≤ b ∧ Keep h0 h [] ∧ Exa Z h b "[Ljava/lang/Object;" ∧ Arv Z h b kb (.object "java/lang/Object") (3 : Int32) [(.ref l0), (.ref l1), (.ref l2)] .null) := by
  refine own_body (plainFor_of_name pn_java_util_ArrayList) ?_
  intro p e s m below meth c s₁ hx hby hml hZ hown hnm hlk hret X0 e0
  have N0 := Fr.nil n0
  have D := @hb _ _ hby
  have K0 : Keep h0 h0 [] := Keep.refl _ _
  refine Go.st (T' := s₁) (f' := (mkF m 0 #[rv a2] [])) (fun _ k => castTop (by first | (simp [entryFrame, mkF, argsToLocals, Value.category]; done) | rfl) k) ?_
  have ⟨M_0, M_1, M_2, M_3, S_wE, E_wE, S_wD, E_wD, V_wE, V_wD⟩ := WW
  have lt_wE := E_wE.lt
  have lt_wD := E_wD.lt
  have lt_l0 := E_l0.lt
  have lt_l1 := E_l1.lt
  have lt_l2 := E_l2.lt
  have lt_ed := V_ed.lt
  have lt_a2 := E_a2.lt
  refine zan 1 X0 hx (D d23_0) rfl rfl ?_
  refine zgf 4 X0 hx hZ hown (host := "") (Or.inl (ww hw 24 rfl)) Via.refl e0 F_a2_elementData (D d23_1) fun T1 X1 e1 => ?_
  refine zan 5 X1 hx (D d23_4) rfl rfl ?_
  refine zgf 8 X1 hx hZ hown (host := "") (Or.inl (ww hw 76 rfl)) Via.refl e1 F_a2_size (D d23_5) fun T2 X2 e2 => ?_
  refine gS 11 0 1 3 X2 N0 hx hZ (y := mq24) hown hml (ww hw 183 rfl) (ww hw 184 rfl) (ww hw 185 rfl) (rmC2 l Z a0 hw [] ed ke l0 l1 l2 mir_0 mir_1 mir_2 mir_3 wE wD kE kD h0 n0 O0 E_l0 E_l1 E_l2 E_ed V_ed WW) (ww hw 186 rfl) e2 [(.ref ed), (.int 3)] [] (lenOf pd___Ljava_lang_Object_I__Ljava_lang_Object_ rfl) (D d23_8) ?_
  rintro T3 L3 M3 _ X3 uu3 ⟨b3, kb3, rfl, Nq3, zq3, kq3, eq3, vq3⟩
  have N3 := uu3 Nq3
  have ne_l0_b3 : l0 ≠ b3 := Nat.ne_of_lt (ltle lt_l0 zq3)
  have ne_l1_b3 : l1 ≠ b3 := Nat.ne_of_lt (ltle lt_l1 zq3)
  have ne_l2_b3 : l2 ≠ b3 := Nat.ne_of_lt (ltle lt_l2 zq3)
  have ne_ed_b3 : ed ≠ b3 := Nat.ne_of_lt (ltle lt_ed zq3)
  have ne_a2_b3 : a2 ≠ b3 := Nat.ne_of_lt (ltle lt_a2 zq3)
  have ne_wE_b3 : wE ≠ b3 := Nat.ne_of_lt (ltle lt_wE (Nat.le_trans O0.2.1 zq3))
  have ne_wD_b3 : wD ≠ b3 := Nat.ne_of_lt (ltle lt_wD (Nat.le_trans O0.2.1 zq3))
  have g_b3 : n0 ≤ b3 := Nat.le_trans (O0.1 ▸ O0.2.1) zq3
  have sz_b3 : h0.size ≤ b3 := Nat.le_trans K0.1 zq3
  have O3 : Old Z n0 T3.heap := O0.keep kq3 all0
  have K3 : Keep h0 T3.heap [] := K0.trans kq3 all0
  have lt_b3 := eq3.lt
  refine zsk [(.ref b3)] ?_
  refine Go.retV X3 hlk hx (t := (.array (.object "java/lang/Object"))) hret rfl (Or.inr (Or.inr (Or.inr (Or.inr ⟨rfl, rfl, rfl⟩)))) (D d23_11) rfl ?_ (by decide) (by decide)
  exact ⟨b3, kb3, rfl, N3, sz_b3, K3, eq3, vq3⟩
theorem d22_0 : decode jdk_38_method_3_code 0 = .ok (.aload_n 0, 1) := by decide +kernel
theorem d22_1 : decode jdk_38_method_3_code 1 = .ok (.invokespecial 1, 3) := by decide +kernel
theorem d22_4 : decode jdk_38_method_3_code 4 = .ok (.aload_n 1, 1) := by decide +kernel
theorem d22_5 : decode jdk_38_method_3_code 5 = .ok (.invokeinterface 42 1, 5) := by decide +kernel
theorem d22_10 : decode jdk_38_method_3_code 10 = .ok (.astore_n 2, 1) := by decide +kernel
theorem d22_11 : decode jdk_38_method_3_code 11 = .ok (.aload_n 0, 1) := by decide +kernel
theorem d22_12 : decode jdk_38_method_3_code 12 = .ok (.aload_n 2, 1) := by decide +kernel
theorem d22_13 : decode jdk_38_method_3_code 13 = .ok (.arraylength, 1) := by decide +kernel
theorem d22_14 : decode jdk_38_method_3_code 14 = .ok (.dup_x1, 1) := by decide +kernel
theorem d22_15 : decode jdk_38_method_3_code 15 = .ok (.putfield 48, 3) := by decide +kernel
theorem d22_18 : decode jdk_38_method_3_code 18 = .ok (.ifCond .eq 39, 3) := by decide +kernel
theorem d22_21 : decode jdk_38_method_3_code 21 = .ok (.aload_n 1, 1) := by decide +kernel
theorem d22_22 : decode jdk_38_method_3_code 22 = .ok (.invokeinterface 52 1, 5) := by decide +kernel
theorem d22_27 : decode jdk_38_method_3_code 27 = .ok (.ldc 10, 2) := by decide +kernel
theorem d22_29 : decode jdk_38_method_3_code 29 = .ok (.if_acmp .ne 11, 3) := by decide +kernel
theorem d22_32 : decode jdk_38_method_3_code 32 = .ok (.aload_n 0, 1) := by decide +kernel
theorem d22_33 : decode jdk_38_method_3_code 33 = .ok (.aload_n 2, 1) := by decide +kernel
theorem d22_34 : decode jdk_38_method_3_code 34 = .ok (.putfield 9, 3) := by decide +kernel
theorem d22_37 : decode jdk_38_method_3_code 37 = .ok (.goto 27, 3) := by decide +kernel
theorem d22_64 : decode jdk_38_method_3_code 64 = .ok (.return_, 1) := by decide +kernel
set_option maxRecDepth 65536 in
set_option maxHeartbeats 40000000 in
theorem rmCo (l : Launch) (Z : State) (a0 : Array Value) (hw : ∀ d ∈ tables_1, d.before a0 Z = true) (ws : List Jvm.Cond) (a1 : Addr) (a2 : Addr) (ed : Addr) (ke : ClassId) (l0 : Addr) (l1 : Addr) (l2 : Addr) (mir_0 : Addr) (mir_1 : Addr) (mir_2 : Addr) (mir_3 : Addr) (wE : Addr) (wD : Addr) (kE : ClassId) (kD : ClassId) (h0 : Heap) (n0 : Nat) (O0 : Old Z n0 h0) (g_a1 : n0 ≤ a1) (ne12 : a1 ≠ a2) (E_a1 : Exa Z h0 a1 "java/util/ArrayList") (F_a1_modCount : Fld Z h0 a1 "java/util/AbstractList" "modCount" "I" (.int 0)) (F_a1_elementData : Fld Z h0 a1 "java/util/ArrayList" "elementData" "[Ljava/lang/Object;" .null) (F_a1_size : Fld Z h0 a1 "java/util/ArrayList" "size" "I" (.int 0)) (E_l0 : Exa Z h0 l0 "com/example/kinetic_city/kineticcity/engine/TransitLine") (E_l1 : Exa Z h0 l1 "com/example/kinetic_city/kineticcity/engine/TransitLine") (E_l2 : Exa Z h0 l2 "com/example/kinetic_city/kineticcity/engine/TransitLine") (E_ed : Exa Z h0 ed "[Ljava/lang/Object;") (V_ed : Arv Z h0 ed ke (.object "java/lang/Object") (10 : Int32) [(.ref l0), (.ref l1), (.ref l2)] .null) (E_a2 : Exa Z h0 a2 "java/util/ArrayList") (F_a2_modCount : Fld Z h0 a2 "java/util/AbstractList" "modCount" "I" (.int 3)) (F_a2_elementData : Fld Z h0 a2 "java/util/ArrayList" "elementData" "[Ljava/lang/Object;" (.ref ed)) (F_a2_size : Fld Z h0 a2 "java/util/ArrayList" "size" "I" (.int 3)) (WW : World1 Z mir_0 mir_1 mir_2 mir_3 wE wD kE kD) :
    Con l Z mq26 jdk_38_method_3_code 3 none ws ({ frames := 4, cells := 1, slots := 3, locals := 60 } : Room) #[(.ref a1), (.ref a2)] h0 (fun v h L => v = none ∧ Fr n0 L ∧ Keep h0 h [a1] ∧ Exa Z h a1 "java/util/ArrayList") := by
  refine own_body (plainFor_of_name pn_java_util_ArrayList) ?_
  intro p e s m below meth c s₁ hx hby hml hZ hown hnm hlk hret X0 e0
  have N0 := Fr.nil n0
  have D := @hb _ _ hby
  have K0 : Keep h0 h0 [a1] := Keep.refl _ _
  refine Go.st (T' := s₁) (f' := (mkF m 0 #[rv a1, rv a2, .unset] [])) (fun _ k => castTop (by first | (simp [entryFrame, mkF, argsToLocals, Value.category]; done) | rfl) k) ?_
  have ⟨M_0, M_1, M_2, M_3, S_wE, E_wE, S_wD, E_wD, V_wE, V_wD⟩ := WW
  have lt_wE := E_wE.lt
  have lt_wD := E_wD.lt
  have lt_l0 := E_l0.lt
  have lt_l1 := E_l1.lt
  have lt_l2 := E_l2.lt
  have lt_a1 := E_a1.lt
  have ne_wE_a1 : wE ≠ a1 := O0.ne lt_wE g_a1
  have ne_wD_a1 : wD ≠ a1 := O0.ne lt_wD g_a1
  have lt_a2 := E_a2.lt
  have lt_ed := V_ed.lt
  have nt_l0_ed : l0 ≠ ed := Exa.neArv E_l0 V_ed (ww hw 31 rfl)
  have nt_l1_ed : l1 ≠ ed := Exa.neArv E_l1 V_ed (ww hw 31 rfl)
  have nt_l2_ed : l2 ≠ ed := Exa.neArv E_l2 V_ed (ww hw 31 rfl)
  have nt_a1_ed : a1 ≠ ed := Exa.neArv E_a1 V_ed (ww hw 1 rfl)
  have nt_a2_ed : a2 ≠ ed := Exa.neArv E_a2 V_ed (ww hw 1 rfl)
  refine zan 1 X0 hx (D d22_0) rfl rfl ?_
  obtain ⟨_, _, ⟨T1, L1, kk1, nn1⟩, -, X1, ⟨Lc1, hQ1, lq1, yq1, zz1⟩, st1⟩ := X0.specialBack hx (y := mq5) rfl hown (mvT hZ (ww hw 6 rfl)) (mvT hZ (ww hw 7 rfl)) (mvT hZ (ww hw 11 rfl)) (by decide) (own_back (W := 0) (rmAB l Z a0 hw [] a1 h0 n0 O0 g_a1 E_a1 F_a1_modCount F_a1_elementData F_a1_size ) hZ (ww hw 11 rfl) (ww hw 10 rfl) (by decide) (by decide)) (g := (mkF m 1 #[rv a1, rv a2, .unset] [(.ref a1)])) rfl (by rw [hml]; rfl) (Steps.refl _) (a := a1) (argsL := []) (rest := []) (lenOf pd___V rfl) rfl (by show 2 * 0 + _ ≤ _; exact Nat.le_of_eq rfl) (D d22_1) (fun _ _ => ⟨rfl, e0, (by decide : 0 + 0 ≤ _), (by decide : 0 + 0 ≤ _)⟩)
  dsimp only [Pt.U, Pt.locs, Pt.cells, Pt.slots] at X1 lq1 yq1 zz1 st1 hQ1
  subst lq1 yq1 zz1
  obtain ⟨rfl, Nq1, kq1, eq1, fq1_0, fq1_1, fq1_2⟩ := hQ1
  have N1 := Fr.app N0 Nq1
  have O1 : Old Z n0 T1.heap := O0.keep kq1 (allS g_a1 all0)
  have K1 : Keep h0 T1.heap [a1] := K0.trans kq1 (allS (Or.inl (List.mem_of_getElem? (i := 0) rfl)) all0)
  refine Go.tr (f' := (mkF m 4 #[rv a1, rv a2, .unset] [])) st1 ?_
  refine zan 5 X1 hx (D d22_4) rfl rfl ?_
  have ft3 := (E_l0.keep kq1)
  have ft4 := (E_l1.keep kq1)
  have ft5 := (E_l2.keep kq1)
  have ft6 := (E_ed.keep kq1)
  have ft7 := (V_ed.keep kq1 (ninS (Ne.symm nt_a1_ed) nin0))
  have ft8 := (E_a2.keep kq1)
  have ft9 := (F_a2_modCount.keep kq1 (ninS (Ne.symm ne12) nin0))
  have ft10 := (F_a2_elementData.keep kq1 (ninS (Ne.symm ne12) nin0))
  have ft11 := (F_a2_size.keep kq1 (ninS (Ne.symm ne12) nin0))
  refine gI 10 0 1 3 X1 N1 hx hZ (y := mq25) (xi := mq27) hown hml (ww hw 174 rfl) (ww hw 175 rfl) (ww hw 176 rfl) (ww hw 177 rfl) (ww hw 178 rfl) (ww hw 179 rfl) (ww hw 180 rfl) (ww hw 181 rfl) (rmTa l Z a0 hw [] a2 ed ke l0 l1 l2 mir_0 mir_1 mir_2 mir_3 wE wD kE kD T1.heap n0 O1 ft3 ft4 ft5 ft6 ft7 ft8 ft9 ft10 ft11 WW) (ww hw 182 rfl) (ww hw 2 rfl) rfl ft8 [] [] (lenOf pd____Ljava_lang_Object_ rfl) (D d22_5) ?_
  rintro T2 L2 M2 _ X2 uu2 ⟨b2, kb2, rfl, Nq2, zq2, kq2, eq2, vq2⟩
  have N2 := uu2 Nq2
  have ft12 := (ltle lt_l0 kq1.1)
  have ne_l0_b2 : l0 ≠ b2 := Nat.ne_of_lt (ltle ft12 zq2)
  have ft13 := (ltle lt_l1 kq1.1)
  have ne_l1_b2 : l1 ≠ b2 := Nat.ne_of_lt (ltle ft13 zq2)
  have ft14 := (ltle lt_l2 kq1.1)
  have ne_l2_b2 : l2 ≠ b2 := Nat.ne_of_lt (ltle ft14 zq2)
  have ft15 := (ltle lt_a1 kq1.1)
  have ne_a1_b2 : a1 ≠ b2 := Nat.ne_of_lt (ltle ft15 zq2)
  have ft16 := (ltle lt_a2 kq1.1)
  have ne_a2_b2 : a2 ≠ b2 := Nat.ne_of_lt (ltle ft16 zq2)
  have ft17 := (ltle lt_ed kq1.1)
  have ne_ed_b2 : ed ≠ b2 := Nat.ne_of_lt (ltle ft17 zq2)
  have ne_wE_b2 : wE ≠ b2 := Nat.ne_of_lt (ltle lt_wE (Nat.le_trans O1.2.1 zq2))
  have ne_wD_b2 : wD ≠ b2 := Nat.ne_of_lt (ltle lt_wD (Nat.le_trans O1.2.1 zq2))
  have g_b2 : n0 ≤ b2 := Nat.le_trans (O1.1 ▸ O1.2.1) zq2
  have sz_b2 : h0.size ≤ b2 := Nat.le_trans K1.1 zq2
  have O2 : Old Z n0 T2.heap := O1.keep kq2 all0
  have K2 : Keep h0 T2.heap [a1] := K1.trans kq2 all0
  have lt_b2 := eq2.lt
  refine zsk [(.ref b2)] ?_
  refine zrn 11 #[rv a1, rv a2, rv b2] X2 hx (D d22_10) rfl ?_
  refine zan 12 X2 hx (D d22_11) rfl rfl ?_
  refine zan 13 X2 hx (D d22_12) rfl rfl ?_
  obtain ⟨cl18, Ar18, -, S18, Nx18, -, -⟩ := id vq2
  refine Go.st (T' := T2) (f' := (mkF m 14 #[rv a1, rv a2, rv b2] [(.int 3), (.ref a1)])) (fun _ k => X2.arraylength hx Ar18.1 (State.isArrayOf_alike hZ.alike Ar18.2.1) (g := (mkF m 13 #[rv a1, rv a2, rv b2] [(.ref b2), (.ref a1)])) rfl rfl (D d22_13) _ (by rw [len_of S18 Nx18]; exact k)) ?_
  refine Go.st (f' := (mkF m 15 #[rv a1, rv a2, rv b2] [(.int 3), (.ref a1), (.int 3)])) (fun _ k => XS.dupX1 X2.here hx rfl (D d22_14) rfl rfl rfl k) ?_
  have ft19 := (eq1.keep kq2)
  have ft20 := (fq1_2.keep kq2 nin0)
  obtain ⟨T21, h21, X21, e21, W21, st21⟩ := putF X2 hx hZ hown (host := "") (Or.inl (ww hw 76 rfl)) Via.refl rfl ft20 ft19 (Or.inl (ww hw 77 rfl)) (ww hw 1 rfl) (ty := .int) (by decide) rfl rfl (g := (mkF m 15 #[rv a1, rv a2, rv b2] [(.int 3), (.ref a1), (.int 3)])) rfl rfl (D d22_15)
  have N21 := Fr.snoc X21 N2 g_a1
  have O21 : Old Z n0 h21 := O2.wr W21 g_a1
  have K21 : Keep h0 h21 [a1] := K2.wr W21 (Or.inl (List.mem_of_getElem? (i := 0) rfl))
  have Fw21 := ft20.same W21
  refine zst 18 #[rv a1, rv a2, rv b2] [(.int 3)] st21 ?_
  refine zfn 21 X21 hx (D d22_18) (by decide) ?_
  refine zan 22 X21 hx (D d22_21) rfl rfl ?_
  have ft22 := ((ft8.keep kq2).wr W21)
  obtain ⟨T23, X23, e23, st23⟩ := own_gcI X21 hx hZ hown (xi := mq28) (ww hw 205 rfl) (ww hw 188 rfl) (ww hw 206 rfl) (ww hw 207 rfl) (ww hw 189 rfl) (ww hw 208 rfl) (ww hw 209 rfl) (ww hw 181 rfl) (ww hw 191 rfl) (by decide) (by decide) rfl rfl e21 ft22 M_1 (g := (mkF m 22 #[rv a1, rv a2, rv b2] [(.ref a2)])) rfl (by rw [hml]; rfl) rfl (D d22_22) (by decide) (by show 2 * 0 + 0 + _ ≤ _; decide)
  refine zst 27 #[rv a1, rv a2, rv b2] [(.ref mir_1)] st23 ?_
  obtain ⟨T24, X24, e24, st24⟩ := own_ldcM X23 hx hZ hown (ww hw 211 rfl) e23 M_1 (g := (mkF m 27 #[rv a1, rv a2, rv b2] [(.ref mir_1)])) rfl (D d22_27)
  refine zst 29 #[rv a1, rv a2, rv b2] [(.ref mir_1), (.ref mir_1)] st24 ?_
  refine Go.st (f' := (mkF m 32 #[rv a1, rv a2, rv b2] [])) (fun _ k => Jvm.RoadKit.acmp (g := (mkF m 29 #[rv a1, rv a2, rv b2] [(.ref mir_1), (.ref mir_1)])) X24 hx rfl rfl rfl (pc0 := 29) (pc' := 32) (same := true) rfl (D d22_29) rfl (decide_eq_true rfl) (by decide) (by decide) k) ?_
  refine zan 33 X24 hx (D d22_32) rfl rfl ?_
  refine zan 34 X24 hx (D d22_33) rfl rfl ?_
  have ft25 := (ft19.wr W21)
  have ft26 := ((fq1_1.keep kq2 nin0).other W21 (Or.inr (slot_ne (Or.inl (ww hw 25 rfl)) (Or.inl (ww hw 77 rfl)) (by decide) (t := (.array (.object "java/lang/Object"))) (t' := .int) (by decide) (by decide))))
  obtain ⟨T27, h27, X27, e27, W27, st27⟩ := putF X24 hx hZ hown (host := "") (Or.inl (ww hw 24 rfl)) Via.refl e24 ft26 ft25 (Or.inl (ww hw 25 rfl)) (ww hw 1 rfl) (ty := (.array (.object "java/lang/Object"))) (by decide) rfl rfl (g := (mkF m 34 #[rv a1, rv a2, rv b2] [(.ref b2), (.ref a1)])) rfl rfl (D d22_34)
  have N27 := Fr.snoc X27 N21 g_a1
  have O27 : Old Z n0 h27 := O21.wr W27 g_a1
  have K27 : Keep h0 h27 [a1] := K21.wr W27 (Or.inl (List.mem_of_getElem? (i := 0) rfl))
  have Fw27 := ft26.same W27
  refine zst 37 #[rv a1, rv a2, rv b2] [] st27 ?_
  refine zgo 64 X27 hx (D d22_37) ?_
  refine Go.ret0 X27 hlk hx hret (D d22_64) e27 ?_ (by decide) (by decide)
  have ft28 := (ft25.wr W27)
  exact ⟨rfl, N27, K27, ft28⟩
theorem pn_java_util_Collections_UnmodifiableCollection : plainName "java/util/Collections$UnmodifiableCollection" = true := by first | (simp [plainName, overriddenIn]; done) | decide +kernel
theorem d30_0 : decode jdk_119_method_1_code 0 = .ok (.aload_n 0, 1) := by decide +kernel
theorem d30_1 : decode jdk_119_method_1_code 1 = .ok (.invokespecial 1, 3) := by decide +kernel
theorem d30_4 : decode jdk_119_method_1_code 4 = .ok (.aload_n 1, 1) := by decide +kernel
theorem d30_5 : decode jdk_119_method_1_code 5 = .ok (.ifnonnull 11, 3) := by decide +kernel
theorem d30_16 : decode jdk_119_method_1_code 16 = .ok (.aload_n 0, 1) := by decide +kernel
theorem d30_17 : decode jdk_119_method_1_code 17 = .ok (.aload_n 1, 1) := by decide +kernel
theorem d30_18 : decode jdk_119_method_1_code 18 = .ok (.putfield 10, 3) := by decide +kernel
theorem d30_21 : decode jdk_119_method_1_code 21 = .ok (.return_, 1) := by decide +kernel
set_option maxRecDepth 65536 in
set_option maxHeartbeats 40000000 in
theorem rmUC (l : Launch) (Z : State) (a0 : Array Value) (hw : ∀ d ∈ tables_1, d.before a0 Z = true) (ws : List Jvm.Cond) (a1 : Addr) (f1 : Addr) (h0 : Heap) (n0 : Nat) (O0 : Old Z n0 h0) (g_a1 : n0 ≤ a1) (E_a1 : Exa Z h0 a1 "java/util/Collections$UnmodifiableRandomAccessList") (F_a1_c : Fld Z h0 a1 "java/util/Collections$UnmodifiableCollection" "c" "Ljava/util/Collection;" .null) (F_a1_list : Fld Z h0 a1 "java/util/Collections$UnmodifiableList" "list" "Ljava/util/List;" .null) :
    Con l Z mq29 jdk_119_method_1_code 2 none ws ({ frames := 1, cells := 0, slots := 0, locals := 12 } : Room) #[(.ref a1), (.ref f1)] h0 (fun v h L => v = none ∧ Fr n0 L ∧ Keep h0 h [a1] ∧ Exa Z h a1 "java/util/Collections$UnmodifiableRandomAccessList" ∧ Fld Z h a1 "java/util/Collections$UnmodifiableCollection" "c" "Ljava/util/Collection;" (.ref f1) ∧ Fld Z h a1 "java/util/Collections$UnmodifiableList" "list" "Ljava/util/List;" .null) := by
  refine own_body (plainFor_of_name pn_java_util_Collections_UnmodifiableCollection) ?_
  intro p e s m below meth c s₁ hx hby hml hZ hown hnm hlk hret X0 e0
  have N0 := Fr.nil n0
  have D := @hb _ _ hby
  have K0 : Keep h0 h0 [a1] := Keep.refl _ _
  refine Go.st (T' := s₁) (f' := (mkF m 0 #[rv a1, rv f1] [])) (fun _ k => castTop (by first | (simp [entryFrame, mkF, argsToLocals, Value.category]; done) | rfl) k) ?_
  have lt_a1 := E_a1.lt
  refine zan 1 X0 hx (D d30_0) rfl rfl ?_
  obtain ⟨T1, X1, e1, st1⟩ := initO X0 hx hZ hown (ww hw 243 rfl) (ww hw 19 rfl) (ww hw 20 rfl) e0 (g := (mkF m 1 #[rv a1, rv f1] [(.ref a1)])) rfl (by rw [hml]; rfl) rfl (D d30_1) (by decide) (W := 0) (by show 2 * 0 + _ ≤ _; exact Nat.le_of_eq rfl) (by decide)
  refine zst 4 #[rv a1, rv f1] [] st1 ?_
  refine zan 5 X1 hx (D d30_4) rfl rfl ?_
  refine Go.st (f' := (mkF m 16 #[rv a1, rv f1] [])) (fun _ k => XS.ifnonnullYes X1.here hx rfl (pc0 := 5) (pc' := 16) rfl (D d30_5) rfl (by decide) (by decide) k) ?_
  refine zan 17 X1 hx (D d30_16) rfl rfl ?_
  refine zan 18 X1 hx (D d30_17) rfl rfl ?_
  obtain ⟨T2, h2, X2, e2, W2, st2⟩ := putF X1 hx hZ hown (host := "") (Or.inl (ww hw 244 rfl)) Via.refl e1 F_a1_c E_a1 (Or.inr ⟨(ww hw 245 rfl), rfl, hnm⟩) (ww hw 226 rfl) (ty := (.object "java/util/Collection")) (by decide) rfl rfl (g := (mkF m 18 #[rv a1, rv f1] [(.ref f1), (.ref a1)])) rfl rfl (D d30_18)
  have N2 := Fr.snoc X2 N0 g_a1
  have O2 : Old Z n0 h2 := O0.wr W2 g_a1
  have K2 : Keep h0 h2 [a1] := K0.wr W2 (Or.inl (List.mem_of_getElem? (i := 0) rfl))
  have Fw2 := F_a1_c.same W2
  refine zst 21 #[rv a1, rv f1] [] st2 ?_
  refine Go.ret0 X2 hlk hx hret (D d30_21) e2 ?_ (by decide) (by decide)
  have ft3 := (E_a1.wr W2)
  have ft4 := (F_a1_list.other W2 (Or.inr (slot_ne (Or.inr (ww hw 247 rfl)) (Or.inr (ww hw 245 rfl)) (by decide) (t := (.object "java/util/List")) (t' := (.object "java/util/Collection")) (by decide) (by decide))))
  exact ⟨rfl, N2, K2, ft3, Fw2, ft4⟩
theorem pn_java_util_Collections_UnmodifiableList : plainName "java/util/Collections$UnmodifiableList" = true := by first | (simp [plainName, overriddenIn]; done) | decide +kernel
theorem d29_0 : decode jdk_120_method_1_code 0 = .ok (.aload_n 0, 1) := by decide +kernel
theorem d29_1 : decode jdk_120_method_1_code 1 = .ok (.aload_n 1, 1) := by decide +kernel
theorem d29_2 : decode jdk_120_method_1_code 2 = .ok (.invokespecial 1, 3) := by decide +kernel
theorem pd__Ljava_util_Collection__V : parseMethodDescriptor "(Ljava/util/Collection;)V" = some ⟨[(.object "java/util/Collection")], none⟩ := by decide +kernel
theorem d29_5 : decode jdk_120_method_1_code 5 = .ok (.aload_n 0, 1) := by decide +kernel
theorem d29_6 : decode jdk_120_method_1_code 6 = .ok (.aload_n 1, 1) := by decide +kernel
theorem d29_7 : decode jdk_120_method_1_code 7 = .ok (.putfield 7, 3) := by decide +kernel
theorem d29_10 : decode jdk_120_method_1_code 10 = .ok (.return_, 1) := by decide +kernel
set_option maxRecDepth 65536 in
set_option maxHeartbeats 40000000 in
theorem rmUL (l : Launch) (Z : State) (a0 : Array Value) (hw : ∀ d ∈ tables_1, d.before a0 Z = true) (ws : List Jvm.Cond) (a1 : Addr) (f1 : Addr) (h0 : Heap) (n0 : Nat) (O0 : Old Z n0 h0) (g_a1 : n0 ≤ a1) (E_a1 : Exa Z h0 a1 "java/util/Collections$UnmodifiableRandomAccessList") (F_a1_c : Fld Z h0 a1 "java/util/Collections$UnmodifiableCollection" "c" "Ljava/util/Collection;" .null) (F_a1_list : Fld Z h0 a1 "java/util/Collections$UnmodifiableList" "list" "Ljava/util/List;" .null) :
    Con l Z mq30 jdk_120_method_1_code 2 none ws ({ frames := 2, cells := 0, slots := 0, locals := 25 } : Room) #[(.ref a1), (.ref f1)] h0 (fun v h L => v = none ∧ Fr n0 L ∧ Keep h0 h [a1] ∧ Exa Z h a1 "java/util/Collections$UnmodifiableRandomAccessList" ∧ Fld Z h a1 "java/util/Collections$UnmodifiableCollection" "c" "Ljava/util/Collection;" (.ref f1) ∧ Fld Z h a1 "java/util/Collections$UnmodifiableList" "list" "Ljava/util/List;" (.ref f1)) := by
  refine own_body (plainFor_of_name pn_java_util_Collections_UnmodifiableList) ?_
  intro p e s m below meth c s₁ hx hby hml hZ hown hnm hlk hret X0 e0
  have N0 := Fr.nil n0
  have D := @hb _ _ hby
  have K0 : Keep h0 h0 [a1] := Keep.refl _ _
  refine Go.st (T' := s₁) (f' := (mkF m 0 #[rv a1, rv f1] [])) (fun _ k => castTop (by first | (simp [entryFrame, mkF, argsToLocals, Value.category]; done) | rfl) k) ?_
  have lt_a1 := E_a1.lt
  refine zan 1 X0 hx (D d29_0) rfl rfl ?_
  refine zan 2 X0 hx (D d29_1) rfl rfl ?_
  obtain ⟨_, _, ⟨T1, L1, kk1, nn1⟩, -, X1, ⟨Lc1, hQ1, lq1, yq1, zz1⟩, st1⟩ := X0.specialBack hx (y := mq29) rfl hown (mvT hZ (ww hw 237 rfl)) (mvT hZ (ww hw 238 rfl)) (mvT hZ (ww hw 242 rfl)) (by decide) (own_back (W := 0) (rmUC l Z a0 hw [] a1 f1 h0 n0 O0 g_a1 E_a1 F_a1_c F_a1_list ) hZ (ww hw 242 rfl) (ww hw 241 rfl) (by decide) (by decide)) (g := (mkF m 2 #[rv a1, rv f1] [(.ref f1), (.ref a1)])) rfl (by rw [hml]; rfl) (Steps.refl _) (a := a1) (argsL := [(.ref f1)]) (rest := []) (lenOf pd__Ljava_util_Collection__V rfl) rfl (by show 2 * 0 + _ ≤ _; exact Nat.le_of_eq rfl) (D d29_2) (fun _ _ => ⟨rfl, e0, (by decide : 0 + 0 ≤ _), (by decide : 0 + 0 ≤ _)⟩)
  dsimp only [Pt.U, Pt.locs, Pt.cells, Pt.slots] at X1 lq1 yq1 zz1 st1 hQ1
  subst lq1 yq1 zz1
  obtain ⟨rfl, Nq1, kq1, eq1, fq1_0, fq1_1⟩ := hQ1
  have N1 := Fr.app N0 Nq1
  have O1 : Old Z n0 T1.heap := O0.keep kq1 (allS g_a1 all0)
  have K1 : Keep h0 T1.heap [a1] := K0.trans kq1 (allS (Or.inl (List.mem_of_getElem? (i := 0) rfl)) all0)
  refine Go.tr (f' := (mkF m 5 #[rv a1, rv f1] [])) st1 ?_
  refine zan 6 X1 hx (D d29_5) rfl rfl ?_
  refine zan 7 X1 hx (D d29_6) rfl rfl ?_
  obtain ⟨T2, h2, X2, e2, W2, st2⟩ := putF X1 hx hZ hown (host := "") (Or.inl (ww hw 246 rfl)) Via.refl rfl fq1_1 eq1 (Or.inr ⟨(ww hw 247 rfl), rfl, hnm⟩) (ww hw 226 rfl) (ty := (.object "java/util/List")) (by decide) rfl rfl (g := (mkF m 7 #[rv a1, rv f1] [(.ref f1), (.ref a1)])) rfl rfl (D d29_7)
  have N2 := Fr.snoc X2 N1 g_a1
  have O2 : Old Z n0 h2 := O1.wr W2 g_a1
  have K2 : Keep h0 h2 [a1] := K1.wr W2 (Or.inl (List.mem_of_getElem? (i := 0) rfl))
  have Fw2 := fq1_1.same W2
  refine zst 10 #[rv a1, rv f1] [] st2 ?_
  refine Go.ret0 X2 hlk hx hret (D d29_10) e2 ?_ (by decide) (by decide)
  have ft3 := (eq1.wr W2)
  have ft4 := (fq1_0.other W2 (Or.inr (slot_ne (Or.inr (ww hw 245 rfl)) (Or.inr (ww hw 247 rfl)) (by decide) (t := (.object "java/util/Collection")) (t' := (.object "java/util/List")) (by decide) (by decide))))
  exact ⟨rfl, N2, K2, ft3, ft4, Fw2⟩
theorem pn_java_util_Collections_UnmodifiableRandomAccessList : plainName "java/util/Collections$UnmodifiableRandomAccessList" = true := by first | (simp [plainName, overriddenIn]; done) | decide +kernel
theorem d28_0 : decode jdk_121_method_1_code 0 = .ok (.aload_n 0, 1) := by decide +kernel
theorem d28_1 : decode jdk_121_method_1_code 1 = .ok (.aload_n 1, 1) := by decide +kernel
theorem d28_2 : decode jdk_121_method_1_code 2 = .ok (.invokespecial 1, 3) := by decide +kernel
theorem pd__Ljava_util_List__V : parseMethodDescriptor "(Ljava/util/List;)V" = some ⟨[(.object "java/util/List")], none⟩ := by decide +kernel
theorem d28_5 : decode jdk_121_method_1_code 5 = .ok (.return_, 1) := by decide +kernel
set_option maxRecDepth 65536 in
set_option maxHeartbeats 40000000 in
theorem rmUR (l : Launch) (Z : State) (a0 : Array Value) (hw : ∀ d ∈ tables_1, d.before a0 Z = true) (ws : List Jvm.Cond) (a1 : Addr) (f1 : Addr) (h0 : Heap) (n0 : Nat) (O0 : Old Z n0 h0) (g_a1 : n0 ≤ a1) (E_a1 : Exa Z h0 a1 "java/util/Collections$UnmodifiableRandomAccessList") (F_a1_c : Fld Z h0 a1 "java/util/Collections$UnmodifiableCollection" "c" "Ljava/util/Collection;" .null) (F_a1_list : Fld Z h0 a1 "java/util/Collections$UnmodifiableList" "list" "Ljava/util/List;" .null) :
    Con l Z mq31 jdk_121_method_1_code 2 none ws ({ frames := 3, cells := 0, slots := 0, locals := 38 } : Room) #[(.ref a1), (.ref f1)] h0 (fun v h L => v = none ∧ Fr n0 L ∧ Keep h0 h [a1] ∧ Exa Z h a1 "java/util/Collections$UnmodifiableRandomAccessList" ∧ Fld Z h a1 "java/util/Collections$UnmodifiableCollection" "c" "Ljava/util/Collection;" (.ref f1) ∧ Fld Z h a1 "java/util/Collections$UnmodifiableList" "list" "Ljava/util/List;" (.ref f1)) := by
  refine own_body (plainFor_of_name pn_java_util_Collections_UnmodifiableRandomAccessList) ?_
  intro p e s m below meth c s₁ hx hby hml hZ hown hnm hlk hret X0 e0
  have N0 := Fr.nil n0
  have D := @hb _ _ hby
  have K0 : Keep h0 h0 [a1] := Keep.refl _ _
  refine Go.st (T' := s₁) (f' := (mkF m 0 #[rv a1, rv f1] [])) (fun _ k => castTop (by first | (simp [entryFrame, mkF, argsToLocals, Value.category]; done) | rfl) k) ?_
  have lt_a1 := E_a1.lt
  refine zan 1 X0 hx (D d28_0) rfl rfl ?_
  refine zan 2 X0 hx (D d28_1) rfl rfl ?_
  obtain ⟨_, _, ⟨T1, L1, kk1, nn1⟩, -, X1, ⟨Lc1, hQ1, lq1, yq1, zz1⟩, st1⟩ := X0.specialBack hx (y := mq30) rfl hown (mvT hZ (ww hw 231 rfl)) (mvT hZ (ww hw 232 rfl)) (mvT hZ (ww hw 236 rfl)) (by decide) (own_back (W := 0) (rmUL l Z a0 hw [] a1 f1 h0 n0 O0 g_a1 E_a1 F_a1_c F_a1_list ) hZ (ww hw 236 rfl) (ww hw 235 rfl) (by decide) (by decide)) (g := (mkF m 2 #[rv a1, rv f1] [(.ref f1), (.ref a1)])) rfl (by rw [hml]; rfl) (Steps.refl _) (a := a1) (argsL := [(.ref f1)]) (rest := []) (lenOf pd__Ljava_util_List__V rfl) rfl (by show 2 * 0 + _ ≤ _; exact Nat.le_of_eq rfl) (D d28_2) (fun _ _ => ⟨rfl, e0, (by decide : 0 + 0 ≤ _), (by decide : 0 + 0 ≤ _)⟩)
  dsimp only [Pt.U, Pt.locs, Pt.cells, Pt.slots] at X1 lq1 yq1 zz1 st1 hQ1
  subst lq1 yq1 zz1
  obtain ⟨rfl, Nq1, kq1, eq1, fq1_0, fq1_1⟩ := hQ1
  have N1 := Fr.app N0 Nq1
  have O1 : Old Z n0 T1.heap := O0.keep kq1 (allS g_a1 all0)
  have K1 : Keep h0 T1.heap [a1] := K0.trans kq1 (allS (Or.inl (List.mem_of_getElem? (i := 0) rfl)) all0)
  refine Go.tr (f' := (mkF m 5 #[rv a1, rv f1] [])) st1 ?_
  refine Go.ret0 X1 hlk hx hret (D d28_5) rfl ?_ (by decide) (by decide)
  exact ⟨rfl, N1, K1, eq1, fq1_0, fq1_1⟩
theorem pn_java_util_Collections : plainName "java/util/Collections" = true := by first | (simp [plainName, overriddenIn]; done) | decide +kernel
theorem d27_0 : decode jdk_79_method_35_code 0 = .ok (.aload_n 0, 1) := by decide +kernel
theorem d27_1 : decode jdk_79_method_35_code 1 = .ok (.invokeinterface 211 1, 5) := by decide +kernel
theorem d27_6 : decode jdk_79_method_35_code 6 = .ok (.ldc 212, 2) := by decide +kernel
theorem d27_8 : decode jdk_79_method_35_code 8 = .ok (.if_acmp .eq 14, 3) := by decide +kernel
theorem d27_11 : decode jdk_79_method_35_code 11 = .ok (.aload_n 0, 1) := by decide +kernel
theorem d27_12 : decode jdk_79_method_35_code 12 = .ok (.invokeinterface 214 1, 5) := by decide +kernel
theorem d27_17 : decode jdk_79_method_35_code 17 = .ok (.ldc 215, 2) := by decide +kernel
theorem d27_19 : decode jdk_79_method_35_code 19 = .ok (.if_acmp .ne 5, 3) := by decide +kernel
theorem d27_24 : decode jdk_79_method_35_code 24 = .ok (.aload_n 0, 1) := by decide +kernel
theorem d27_25 : decode jdk_79_method_35_code 25 = .ok (.instanceof 13, 3) := by decide +kernel
theorem d27_28 : decode jdk_79_method_35_code 28 = .ok (.ifCond .eq 14, 3) := by decide +kernel
theorem d27_31 : decode jdk_79_method_35_code 31 = .ok (.new 215, 3) := by decide +kernel
theorem d27_34 : decode jdk_79_method_35_code 34 = .ok (.dup, 1) := by decide +kernel
theorem d27_35 : decode jdk_79_method_35_code 35 = .ok (.aload_n 0, 1) := by decide +kernel
theorem d27_36 : decode jdk_79_method_35_code 36 = .ok (.invokespecial 217, 3) := by decide +kernel
theorem d27_39 : decode jdk_79_method_35_code 39 = .ok (.goto 11, 3) := by decide +kernel
theorem d27_50 : decode jdk_79_method_35_code 50 = .ok (.areturn, 1) := by decide +kernel
set_option maxRecDepth 65536 in
set_option maxHeartbeats 40000000 in
theorem rmUm (l : Launch) (Z : State) (a0 : Array Value) (hw : ∀ d ∈ tables_1, d.before a0 Z = true) (ws : List Jvm.Cond) (a2 : Addr) (mir_0 : Addr) (mir_1 : Addr) (mir_2 : Addr) (mir_3 : Addr) (wE : Addr) (wD : Addr) (kE : ClassId) (kD : ClassId) (h0 : Heap) (n0 : Nat) (O0 : Old Z n0 h0) (E_a2 : Exa Z h0 a2 "java/util/ArrayList") (WW : World1 Z mir_0 mir_1 mir_2 mir_3 wE wD kE kD) :
    Con l Z mq32 jdk_79_method_35_code 1 (some (.object "java/util/List")) ws ({ frames := 4, cells := 1, slots := 2, locals := 52 } : Room) #[(.ref a2)] h0 (fun v h L => ∃ b : Addr, v = some (.ref b) ∧ Fr n0 L ∧ h0.size ≤ b ∧ Keep h0 h []) := by
  refine own_body (plainFor_of_name pn_java_util_Collections) ?_
  intro p e s m below meth c s₁ hx hby hml hZ hown hnm hlk hret X0 e0
  have N0 := Fr.nil n0
  have D := @hb _ _ hby
  have K0 : Keep h0 h0 [] := Keep.refl _ _
  refine Go.st (T' := s₁) (f' := (mkF m 0 #[rv a2] [])) (fun _ k => castTop (by first | (simp [entryFrame, mkF, argsToLocals, Value.category]; done) | rfl) k) ?_
  have ⟨M_0, M_1, M_2, M_3, S_wE, E_wE, S_wD, E_wD, V_wE, V_wD⟩ := WW
  have lt_wE := E_wE.lt
  have lt_wD := E_wD.lt
  have lt_a2 := E_a2.lt
  refine zan 1 X0 hx (D d27_0) rfl rfl ?_
  obtain ⟨T1, X1, e1, st1⟩ := own_gcI X0 hx hZ hown (xi := mq33) (ww hw 216 rfl) (ww hw 188 rfl) (ww hw 217 rfl) (ww hw 218 rfl) (ww hw 189 rfl) (ww hw 208 rfl) (ww hw 209 rfl) (ww hw 113 rfl) (ww hw 191 rfl) (by decide) (by decide) rfl rfl e0 E_a2 M_1 (g := (mkF m 1 #[rv a2] [(.ref a2)])) rfl (by rw [hml]; rfl) rfl (D d27_1) (by decide) (by show 2 * 0 + 0 + _ ≤ _; decide)
  refine zst 6 #[rv a2] [(.ref mir_1)] st1 ?_
  obtain ⟨T2, X2, e2, st2⟩ := own_ldcM X1 hx hZ hown (ww hw 219 rfl) e1 M_2 (g := (mkF m 6 #[rv a2] [(.ref mir_1)])) rfl (D d27_6)
  refine zst 8 #[rv a2] [(.ref mir_2), (.ref mir_1)] st2 ?_
  refine Go.st (f' := (mkF m 11 #[rv a2] [])) (fun _ k => Jvm.RoadKit.acmp (g := (mkF m 8 #[rv a2] [(.ref mir_2), (.ref mir_1)])) X2 hx rfl rfl rfl (pc0 := 8) (pc' := 11) (same := false) rfl (D d27_8) rfl (decide_eq_false fun q => (Mir.ne M_1 M_2 (by decide)) (Value.ref.inj q)) (by decide) (by decide) k) ?_
  refine zan 12 X2 hx (D d27_11) rfl rfl ?_
  obtain ⟨T3, X3, e3, st3⟩ := own_gcI X2 hx hZ hown (xi := mq33) (ww hw 221 rfl) (ww hw 188 rfl) (ww hw 217 rfl) (ww hw 218 rfl) (ww hw 189 rfl) (ww hw 208 rfl) (ww hw 209 rfl) (ww hw 113 rfl) (ww hw 191 rfl) (by decide) (by decide) rfl rfl e2 E_a2 M_1 (g := (mkF m 12 #[rv a2] [(.ref a2)])) rfl (by rw [hml]; rfl) rfl (D d27_12) (by decide) (by show 2 * 0 + 0 + _ ≤ _; decide)
  refine zst 17 #[rv a2] [(.ref mir_1)] st3 ?_
  obtain ⟨T4, X4, e4, st4⟩ := own_ldcM X3 hx hZ hown (ww hw 222 rfl) e3 M_3 (g := (mkF m 17 #[rv a2] [(.ref mir_1)])) rfl (D d27_17)
  refine zst 19 #[rv a2] [(.ref mir_3), (.ref mir_1)] st4 ?_
  refine Go.st (f' := (mkF m 24 #[rv a2] [])) (fun _ k => Jvm.RoadKit.acmp (g := (mkF m 19 #[rv a2] [(.ref mir_3), (.ref mir_1)])) X4 hx rfl rfl rfl (pc0 := 19) (pc' := 24) (same := false) rfl (D d27_19) rfl (decide_eq_false fun q => (Mir.ne M_1 M_3 (by decide)) (Value.ref.inj q)) (by decide) (by decide) k) ?_
  refine zan 25 X4 hx (D d27_24) rfl rfl ?_
  obtain ⟨T5, X5, e5, st5⟩ := instY X4 hx hZ hown (ww hw 224 rfl) e4 (Ins.of_exa E_a2 (ww hw 225 rfl)) (g := (mkF m 25 #[rv a2] [(.ref a2)])) rfl rfl (D d27_25)
  refine zst 28 #[rv a2] [(.int 1)] st5 ?_
  refine zfn 31 X5 hx (D d27_28) (by decide) ?_
  obtain ⟨T6, h6, X6, e6, E6, A6, D6, -, st6⟩ := newO X5 hx hZ hown (ww hw 222 rfl) (ww hw 226 rfl) (ww hw 227 rfl) e5 (g := (mkF m 31 #[rv a2] [])) rfl (D d27_31) (by decide) (by decide)
  obtain ⟨b6, g6⟩ : ∃ z, z = h0.size := ⟨_, rfl⟩
  rw [← g6] at A6 D6 st6
  have ne_a2_b6 : a2 ≠ b6 := Nat.ne_of_lt (lteq lt_a2 g6.symm)
  have ne_wE_b6 : wE ≠ b6 := Nat.ne_of_lt (ltle lt_wE (Nat.le_trans O0.2.1 (Nat.le_of_eq g6.symm)))
  have ne_wD_b6 : wD ≠ b6 := Nat.ne_of_lt (ltle lt_wD (Nat.le_trans O0.2.1 (Nat.le_of_eq g6.symm)))
  have g_b6 : n0 ≤ b6 := Nat.le_trans (O0.1 ▸ O0.2.1) (Nat.le_of_eq g6.symm)
  have O6 : Old Z n0 h6 := O0.ext E6
  have sz_b6 : h0.size ≤ b6 := Nat.le_trans K0.1 (Nat.le_of_eq g6.symm)
  have K6 : Keep h0 h6 [] := K0.ext E6
  have lt_b6 := A6.lt
  have F_c_b6 : Fld Z h6 b6 "java/util/Collections$UnmodifiableCollection" "c" "Ljava/util/Collection;" .null := D6 (Or.inr (ww hw 245 rfl)) (ty := (.object "java/util/Collection")) (by decide)
  have F_list_b6 : Fld Z h6 b6 "java/util/Collections$UnmodifiableList" "list" "Ljava/util/List;" .null := D6 (Or.inr (ww hw 247 rfl)) (ty := (.object "java/util/List")) (by decide)
  refine zst 34 #[rv a2] [(.ref b6)] st6 ?_
  refine Go.st (f' := (mkF m 35 #[rv a2] [(.ref b6), (.ref b6)])) (fun _ k => XS.dup X6.here hx rfl (D d27_34) rfl rfl k) ?_
  refine zan 36 X6 hx (D d27_35) rfl rfl ?_
  obtain ⟨_, _, ⟨T7, L7, kk7, nn7⟩, -, X7, ⟨Lc7, hQ7, lq7, yq7, zz7⟩, st7⟩ := X6.specialBack hx (y := mq31) rfl hown (mvT hZ (ww hw 228 rfl)) (mvT hZ (ww hw 229 rfl)) (mvT hZ (ww hw 230 rfl)) (by decide) (own_back (W := 1) (rmUR l Z a0 hw [] b6 a2 h6 n0 O6 g_b6 A6 F_c_b6 F_list_b6 ) hZ (ww hw 230 rfl) (ww hw 227 rfl) (by decide) (by decide)) (g := (mkF m 36 #[rv a2] [(.ref a2), (.ref b6), (.ref b6)])) rfl (by rw [hml]; rfl) (Steps.refl _) (a := b6) (argsL := [(.ref a2)]) (rest := [(.ref b6)]) (lenOf pd__Ljava_util_List__V rfl) rfl (by show 2 * 0 + _ ≤ _; exact Nat.le_of_eq rfl) (D d27_36) (fun _ _ => ⟨rfl, e6, (by decide : 1 + 0 ≤ _), (by decide : 2 + 0 ≤ _)⟩)
  dsimp only [Pt.U, Pt.locs, Pt.cells, Pt.slots] at X7 lq7 yq7 zz7 st7 hQ7
  subst lq7 yq7 zz7
  obtain ⟨rfl, Nq7, kq7, eq7, fq7_0, fq7_1⟩ := hQ7
  have N7 := Fr.app N0 Nq7
  have O7 : Old Z n0 T7.heap := O6.keep kq7 (allS g_b6 all0)
  have K7 : Keep h0 T7.heap [] := K6.trans kq7 (allS (Or.inr sz_b6) all0)
  refine Go.tr (f' := (mkF m 39 #[rv a2] [(.ref b6)])) st7 ?_
  refine zgo 50 X7 hx (D d27_39) ?_
  refine Go.retV X7 hlk hx (t := (.object "java/util/List")) hret rfl (Or.inr (Or.inr (Or.inr (Or.inr ⟨rfl, rfl, rfl⟩)))) (D d27_50) rfl ?_ (by decide) (by decide)
  exact ⟨b6, rfl, N7, sz_b6, K7⟩
theorem d20_0 : decode prog_22_method_2_code 0 = .ok (.aload_n 0, 1) := by decide +kernel
theorem d20_1 : decode prog_22_method_2_code 1 = .ok (.getfield 36, 3) := by decide +kernel
theorem d20_4 : decode prog_22_method_2_code 4 = .ok (.arraylength, 1) := by decide +kernel
theorem d20_5 : decode prog_22_method_2_code 5 = .ok (.ireturn, 1) := by decide +kernel
set_option maxRecDepth 65536 in
set_option maxHeartbeats 40000000 in
theorem rmSc (l : Launch) (Z : State) (a0 : Array Value) (hw : ∀ d ∈ tables_1, d.before a0 Z = true) (ws : List Jvm.Cond) (a1 : Addr) (sa : Addr) (kA : ClassId) (na : Int32) (ea : List Value) (h0 : Heap) (n0 : Nat) (O0 : Old Z n0 h0) (E_a1 : Exa Z h0 a1 "com/example/kinetic_city/kineticcity/engine/TransitLine") (F_a1_stops : Fld Z h0 a1 "com/example/kinetic_city/kineticcity/engine/TransitLine" "stops" "[I" (.ref sa)) (V_sa : Arv Z h0 sa kA .int na ea (.int 0)) :
    Con l Z mq34 prog_22_method_2_code 1 (some .int) ws ({ frames := 0, cells := 0, slots := 0, locals := 0 } : Room) #[(.ref a1)] h0 (fun v h L => v = some (.int na) ∧ Fr n0 L ∧ h = h0) := by
  refine own_body (plainFor_of_name pn_com_example_kinetic_city_kineticcity_engine_TransitLine) ?_
  intro p e s m below meth c s₁ hx hby hml hZ hown hnm hlk hret X0 e0
  have N0 := Fr.nil n0
  have D := @hb _ _ hby
  refine Go.st (T' := s₁) (f' := (mkF m 0 #[rv a1] [])) (fun _ k => castTop (by first | (simp [entryFrame, mkF, argsToLocals, Value.category]; done) | rfl) k) ?_
  have lt_a1 := E_a1.lt
  have lt_sa := V_sa.lt
  refine zan 1 X0 hx (D d20_0) rfl rfl ?_
  refine zgf 4 X0 hx hZ hown (host := "") (Or.inl (ww hw 57 rfl)) Via.refl e0 F_a1_stops (D d20_1) fun T1 X1 e1 => ?_
  obtain ⟨cl2, Ar2, -, S2, Nx2, -, -⟩ := id V_sa
  refine Go.st (T' := T1) (f' := (mkF m 5 #[rv a1] [(.int na)])) (fun _ k => X1.arraylength hx (by rw [e1]; exact Ar2.1) (State.isArrayOf_alike hZ.alike Ar2.2.1) (g := (mkF m 4 #[rv a1] [(.ref sa)])) rfl rfl (D d20_4) _ (by rw [len_of S2 Nx2]; exact k)) ?_
  refine Go.retV X1 hlk hx (t := .int) hret rfl (Or.inl ⟨rfl, Or.inl rfl, _, rfl⟩) (D d20_5) e1 ?_ (by decide) (by decide)
  exact ⟨rfl, N0, rfl⟩
theorem d21_0 : decode prog_22_method_3_code 0 = .ok (.aload_n 0, 1) := by decide +kernel
theorem d21_1 : decode prog_22_method_3_code 1 = .ok (.getfield 36, 3) := by decide +kernel
theorem d21_4 : decode prog_22_method_3_code 4 = .ok (.iload_n 1, 1) := by decide +kernel
theorem d21_5 : decode prog_22_method_3_code 5 = .ok (.iaload, 1) := by decide +kernel
theorem d21_6 : decode prog_22_method_3_code 6 = .ok (.ireturn, 1) := by decide +kernel
set_option maxRecDepth 65536 in
set_option maxHeartbeats 40000000 in
theorem rmSa (l : Launch) (Z : State) (a0 : Array Value) (hw : ∀ d ∈ tables_1, d.before a0 Z = true) (ws : List Jvm.Cond) (a1 : Addr) (sa : Addr) (kA : ClassId) (na : Int32) (ea : List Value) (i : Int32) (h0 : Heap) (n0 : Nat) (O0 : Old Z n0 h0) (ln : Ln na ea) (al : AllE (.int 1) ea) (hlo : ¬ i < (0 : Int32)) (hhi : i < na) (E_a1 : Exa Z h0 a1 "com/example/kinetic_city/kineticcity/engine/TransitLine") (F_a1_stops : Fld Z h0 a1 "com/example/kinetic_city/kineticcity/engine/TransitLine" "stops" "[I" (.ref sa)) (V_sa : Arv Z h0 sa kA .int na ea (.int 0)) :
    Con l Z mq35 prog_22_method_3_code 2 (some .int) ws ({ frames := 0, cells := 0, slots := 0, locals := 0 } : Room) #[(.ref a1), (.int i)] h0 (fun v h L => v = some (.int 1) ∧ Fr n0 L ∧ h = h0) := by
  refine own_body (plainFor_of_name pn_com_example_kinetic_city_kineticcity_engine_TransitLine) ?_
  intro p e s m below meth c s₁ hx hby hml hZ hown hnm hlk hret X0 e0
  have N0 := Fr.nil n0
  have D := @hb _ _ hby
  refine Go.st (T' := s₁) (f' := (mkF m 0 #[rv a1, iv i] [])) (fun _ k => castTop (by first | (simp [entryFrame, mkF, argsToLocals, Value.category]; done) | rfl) k) ?_
  have lt_a1 := E_a1.lt
  have lt_sa := V_sa.lt
  refine zan 1 X0 hx (D d21_0) rfl rfl ?_
  refine zgf 4 X0 hx hZ hown (host := "") (Or.inl (ww hw 57 rfl)) Via.refl e0 F_a1_stops (D d21_1) fun T1 X1 e1 => ?_
  refine zin 5 X1 hx (D d21_4) rfl ?_
  obtain ⟨cl2, Ar2, -, S2, -, H2, -⟩ := id V_sa
  have hin2 : ¬ (i < 0 ∨ cl2.slots.size ≤ (i).toNatClampNeg) := inb_of S2 ⟨hlo, hhi⟩
  have hat2 : cl2.slots[(i).toNatClampNeg]? = some (.int (1 : Int32)) := H2.at hin2 (own_g al ln hlo hhi)
  refine Go.st (f' := (mkF m 6 #[rv a1, iv i] [(.int 1)])) (fun _ k => X1.iaload hx (j := i) (v := (.int (1 : Int32))) (by rw [e1]; exact Ar2.1) (State.isArrayOf_alike hZ.alike Ar2.2.1) Ar2.2.2 hin2 hat2 (g := (mkF m 5 #[rv a1, iv i] [(.int i), (.ref sa)])) rfl rfl (D d21_5) _ k) ?_
  refine Go.retV X1 hlk hx (t := .int) hret rfl (Or.inl ⟨rfl, Or.inl rfl, _, rfl⟩) (D d21_6) e1 ?_ (by decide) (by decide)
  exact ⟨rfl, N0, rfl⟩
theorem d37_0 : decode jdk_65_method_30_code 0 = .ok (.iload_n 1, 1) := by decide +kernel
theorem d37_1 : decode jdk_65_method_30_code 1 = .ok (.iload_n 2, 1) := by decide +kernel
theorem d37_2 : decode jdk_65_method_30_code 2 = .ok (.if_icmp .le 44, 3) := by decide +kernel
theorem d37_46 : decode jdk_65_method_30_code 46 = .ok (.iload_n 1, 1) := by decide +kernel
theorem d37_47 : decode jdk_65_method_30_code 47 = .ok (.ifCond .ge 12, 3) := by decide +kernel
theorem d37_59 : decode jdk_65_method_30_code 59 = .ok (.iload_n 2, 1) := by decide +kernel
theorem d37_60 : decode jdk_65_method_30_code 60 = .ok (.iload_n 0, 1) := by decide +kernel
theorem d37_61 : decode jdk_65_method_30_code 61 = .ok (.if_icmp .le 12, 3) := by decide +kernel
theorem d37_73 : decode jdk_65_method_30_code 73 = .ok (.return_, 1) := by decide +kernel
set_option maxRecDepth 65536 in
set_option maxHeartbeats 40000000 in
theorem rmRc (l : Launch) (Z : State) (a0 : Array Value) (hw : ∀ d ∈ tables_1, d.before a0 Z = true) (ws : List Jvm.Cond) (q0 : Int32) (q1 : Int32) (q2 : Int32) (h0 : Heap) (n0 : Nat) (O0 : Old Z n0 h0) (h01 : 0 ≤ q1.toInt) (h12 : q1.toInt ≤ q2.toInt) (h23 : q2.toInt ≤ q0.toInt) :
    Con l Z mq36 jdk_65_method_30_code 3 none ws ({ frames := 0, cells := 0, slots := 0, locals := 0 } : Room) #[(.int q0), (.int q1), (.int q2)] h0 (fun v h L => v = none ∧ Fr n0 L ∧ h = h0) := by
  refine own_body (plainFor_of_name pn_java_util_Arrays) ?_
  intro p e s m below meth c s₁ hx hby hml hZ hown hnm hlk hret X0 e0
  have N0 := Fr.nil n0
  have D := @hb _ _ hby
  refine Go.st (T' := s₁) (f' := (mkF m 0 #[iv q0, iv q1, iv q2] [])) (fun _ k => castTop (by first | (simp [entryFrame, mkF, argsToLocals, Value.category]; done) | rfl) k) ?_
  refine zin 1 X0 hx (D d37_0) rfl ?_
  refine zin 2 X0 hx (D d37_1) rfl ?_
  refine zcy 46 X0 hx (D d37_2) (flt (i_nlt h12)).2.2.2 ?_
  refine zin 47 X0 hx (D d37_46) rfl ?_
  refine zfy 59 X0 hx (D d37_47) ((if0 _ _).trans (flt (i_ge0 h01)).2.1) ?_
  refine zin 60 X0 hx (D d37_59) rfl ?_
  refine zin 61 X0 hx (D d37_60) rfl ?_
  refine zcy 73 X0 hx (D d37_61) (flt (i_nlt h23)).2.2.2 ?_
  refine Go.ret0 X0 hlk hx hret (D d37_73) e0 ?_ (by decide) (by decide)
  exact ⟨rfl, N0, rfl⟩
theorem d36_0 : decode jdk_65_method_104_code 0 = .ok (.aload_n 0, 1) := by decide +kernel
theorem d36_1 : decode jdk_65_method_104_code 1 = .ok (.arraylength, 1) := by decide +kernel
theorem d36_2 : decode jdk_65_method_104_code 2 = .ok (.iload_n 1, 1) := by decide +kernel
theorem d36_3 : decode jdk_65_method_104_code 3 = .ok (.iload_n 2, 1) := by decide +kernel
theorem d36_4 : decode jdk_65_method_104_code 4 = .ok (.invokestatic 13, 3) := by decide +kernel
theorem pd__III_V : parseMethodDescriptor "(III)V" = some ⟨[.int, .int, .int], none⟩ := by decide +kernel
theorem d36_7 : decode jdk_65_method_104_code 7 = .ok (.iload_n 1, 1) := by decide +kernel
theorem d36_8 : decode jdk_65_method_104_code 8 = .ok (.istore 4, 2) := by decide +kernel
theorem d36_10 : decode jdk_65_method_104_code 10 = .ok (.iload 4, 2) := by decide +kernel
theorem d36_12 : decode jdk_65_method_104_code 12 = .ok (.iload_n 2, 1) := by decide +kernel
theorem d36_13 : decode jdk_65_method_104_code 13 = .ok (.if_icmp .ge 14, 3) := by decide +kernel
theorem d36_27 : decode jdk_65_method_104_code 27 = .ok (.return_, 1) := by decide +kernel
theorem d36_16 : decode jdk_65_method_104_code 16 = .ok (.aload_n 0, 1) := by decide +kernel
theorem d36_17 : decode jdk_65_method_104_code 17 = .ok (.iload 4, 2) := by decide +kernel
theorem d36_19 : decode jdk_65_method_104_code 19 = .ok (.iload_n 3, 1) := by decide +kernel
theorem d36_20 : decode jdk_65_method_104_code 20 = .ok (.iastore, 1) := by decide +kernel
theorem d36_21 : decode jdk_65_method_104_code 21 = .ok (.iinc 4 1, 3) := by decide +kernel
theorem d36_24 : decode jdk_65_method_104_code 24 = .ok (.goto (-14), 3) := by decide +kernel
set_option maxRecDepth 65536 in
set_option maxHeartbeats 40000000 in
theorem rmFl (l : Launch) (Z : State) (a0 : Array Value) (hw : ∀ d ∈ tables_1, d.before a0 Z = true) (ws : List Jvm.Cond) (a1 : Addr) (q0 : Int32) (q1 : Int32) (q2 : Int32) (q3 : Int32) (h0 : Heap) (n0 : Nat) (O0 : Old Z n0 h0) (h01 : 0 ≤ q1.toInt) (h12 : q1.toInt ≤ q2.toInt) (h23 : q2.toInt ≤ q0.toInt) (g_a1 : n0 ≤ a1) (I_a1 : Ia Z h0 a1 q0) :
    Con l Z mq37 jdk_65_method_104_code 5 none ws ({ frames := 1, cells := 0, slots := 0, locals := 14 } : Room) #[(.ref a1), (.int q1), (.int q2), (.int q3)] h0 (fun v h L => v = none ∧ Fr n0 L ∧ Keep h0 h [a1] ∧ Ia Z h a1 q0) := by
  refine own_body (plainFor_of_name pn_java_util_Arrays) ?_
  intro p e s m below meth c s₁ hx hby hml hZ hown hnm hlk hret X0 e0
  have N0 := Fr.nil n0
  have D := @hb _ _ hby
  have K0 : Keep h0 h0 [a1] := Keep.refl _ _
  refine Go.st (T' := s₁) (f' := (mkF m 0 #[rv a1, iv q1, iv q2, iv q3, .unset] [])) (fun _ k => castTop (by first | (simp [entryFrame, mkF, argsToLocals, Value.category]; done) | rfl) k) ?_
  have lt_a1 := I_a1.lt
  refine zan 1 X0 hx (D d36_0) rfl rfl ?_
  obtain ⟨cl1, Ar1, S1, Nx1, -⟩ := id I_a1
  refine Go.st (T' := s₁) (f' := (mkF m 2 #[rv a1, iv q1, iv q2, iv q3, .unset] [(.int q0)])) (fun _ k => X0.arraylength hx (by rw [e0]; exact Ar1.1) (State.isArrayOf_alike hZ.alike Ar1.2.1) (g := (mkF m 1 #[rv a1, iv q1, iv q2, iv q3, .unset] [(.ref a1)])) rfl rfl (D d36_1) _ (by rw [len_of S1 Nx1]; exact k)) ?_
  refine zin 3 X0 hx (D d36_2) rfl ?_
  refine zin 4 X0 hx (D d36_3) rfl ?_
  refine gS 7 0 0 0 X0 N0 hx hZ (y := mq36) hown hml (ww hw 286 rfl) (ww hw 287 rfl) (ww hw 185 rfl) (rmRc l Z a0 hw [] q0 q1 q2 h0 n0 O0 h01 h12 h23) (ww hw 288 rfl) e0 [(.int q0), (.int q1), (.int q2)] [] (lenOf pd__III_V rfl) (D d36_4) ?_
  rintro T2 L2 M2 _ X2 uu2 ⟨rfl, Nq2, kq2⟩
  have N2 := uu2 Nq2
  refine zsk [] ?_
  refine zin 8 X2 hx (D d36_7) rfl ?_
  refine zsl 10 #[rv a1, iv q1, iv q2, iv q3, iv q1] X2 hx (D d36_8) ?_
  have LF : ∀ (fuel : Nat) (TJ3 : State) (hJ3 : Heap) (LJ3 : List Loc) (i : Int32), (Stand p l e ({ frames := 1, cells := 0, slots := 0, locals := 14 } : Room) s m #[(.ref a1), (.int q1), (.int q2), (.int q3)] below meth c TJ3 LJ3 0 0) → (TJ3.heap = hJ3) → (Old Z n0 hJ3) → (Fr n0 LJ3) → (Keep h0 hJ3 [a1]) → (Ia Z hJ3 a1 q0) → (a1 < hJ3.size) → (0 ≤ i.toInt) → (i.toInt + (fuel : Int) = q2.toInt) → Go p e below (Done s (fun v h L => v = none ∧ Fr n0 L ∧ Keep h0 h [a1] ∧ Ia Z h a1 q0) ({ frames := 1, cells := 0, slots := 0, locals := 14 } : Room).cells ({ frames := 1, cells := 0, slots := 0, locals := 14 } : Room).slots) TJ3 (mkF m 10 #[rv a1, iv q1, iv q2, iv q3, iv i] []) := by
   intro fuel
   induction fuel with
   | zero =>
    intro TJ3 hJ3 LJ3 i XJ3 eJ3 OJ3 NJ3 KJ3 cyJ3_0 cyJ3_1 hi0 hi1
    have hge : ¬ i < q2 := i_nlt (by omega)
    refine zil 12 XJ3 hx (D d36_10) rfl ?_
    refine zin 13 XJ3 hx (D d36_12) rfl ?_
    refine zcy 27 XJ3 hx (D d36_13) (flt hge).2.1 ?_
    refine Go.ret0 XJ3 hlk hx hret (D d36_27) eJ3 ?_ (by decide) (by decide)
    exact ⟨rfl, NJ3, KJ3, cyJ3_0⟩
   | succ fuel ih =>
    intro TJ3 hJ3 LJ3 i XJ3 eJ3 OJ3 NJ3 KJ3 cyJ3_0 cyJ3_1 hi0 hi1
    have hlt : i < q2 := i_lt (by omega)
    refine zil 12 XJ3 hx (D d36_10) rfl ?_
    refine zin 13 XJ3 hx (D d36_12) rfl ?_
    refine zcn 16 XJ3 hx (D d36_13) (tlt hlt).2.1 ?_
    refine zan 17 XJ3 hx (D d36_16) rfl rfl ?_
    refine zil 19 XJ3 hx (D d36_17) rfl ?_
    refine zin 20 XJ3 hx (D d36_19) rfl ?_
    obtain ⟨cl4, Ar4, S4, Nx4, H4⟩ := id cyJ3_0
    have hin4 := inb_of S4 ⟨(i_ge0 (by omega)), (i_lt (a := i) (b := q0) (by omega))⟩
    obtain ⟨T5, h5, X5, e5, W5, st5⟩ := stI XJ3 hx hZ eJ3 Ar4 (j := i) hin4 (g := (mkF m 20 #[rv a1, iv q1, iv q2, iv q3, iv i] [(.int q3), (.int i), (.ref a1)])) rfl rfl (D d36_20)
    have I_a1_5 : Ia Z h5 a1 q0 := Ia.set Ar4 S4 Nx4 H4 hin4 W5
    have N5 := Fr.snoc X5 NJ3 g_a1
    have O5 : Old Z n0 h5 := OJ3.wr W5 g_a1
    have K5 : Keep h0 h5 [a1] := KJ3.wr W5 (Or.inl (List.mem_of_getElem? (i := 0) rfl))
    refine zst 21 #[rv a1, iv q1, iv q2, iv q3, iv i] [] st5 ?_
    refine zii 24 #[rv a1, iv q1, iv q2, iv q3, .val (.int (i + (1 : Int32)))] X5 hx (D d36_21) rfl ?_
    refine zgo 10 X5 hx (D d36_24) ?_
    have hinc := i_inc (i := i) (n := q2) (by omega) (by omega)
    have ft6 := (lteq cyJ3_1 W5.size.symm)
    exact ih _ h5 _ (i + (1 : Int32)) X5 e5 O5 N5 K5 I_a1_5 ft6 (by omega) (by omega)
  exact LF (q2.toInt - q1.toInt).toNat _ h0 _ q1 X2 kq2 O0 N2 K0 I_a1 lt_a1 h01 (by omega)
theorem own_fs {na nb nc : Int32} (a2 : 2 ≤ na.toInt) (a5 : na.toInt ≤ 5) (b2 : 2 ≤ nb.toInt) (b5 : nb.toInt ≤ 5) (c2 : 2 ≤ nc.toInt) (c5 : nc.toInt ≤ 5) : (na - (1 : Int32)).toInt = na.toInt - 1 ∧ (((na - (1 : Int32)) + nb) - (1 : Int32)).toInt = na.toInt + nb.toInt - 2 ∧ (((((na - (1 : Int32)) + nb) - (1 : Int32)) + nc) - (1 : Int32)).toInt = na.toInt + nb.toInt + nc.toInt - 3 ∧ ((na + nb) + nc).toInt = na.toInt + nb.toInt + nc.toInt := by
  have e1 : (1 : Int32).toInt = 1 := by decide
  have k1 : ∀ u : Int32, 1 ≤ u.toInt → u.toInt ≤ 15 → (u - (1 : Int32)).toInt = u.toInt - 1 := fun u h1 h2 => by
    have x := c_isub u 1
    have r := rng32 (u - 1)
    omega
  have k2 : ∀ u v : Int32, 0 ≤ u.toInt → u.toInt ≤ 15 → 0 ≤ v.toInt → v.toInt ≤ 15 → (u + v).toInt = u.toInt + v.toInt := fun u v h1 h2 h3 h4 => by
    have x := c_iadd u v
    have r := rng32 (u + v)
    omega
  have x1 := k1 na (by omega) (by omega)
  have x2 := k2 (na - 1) nb (by omega) (by omega) (by omega) (by omega)
  have x3 := k1 ((na - 1) + nb) (by omega) (by omega)
  have x4 := k2 (((na - 1) + nb) - 1) nc (by omega) (by omega) (by omega) (by omega)
  have x5 := k1 ((((na - 1) + nb) - 1) + nc) (by omega) (by omega)
  have x6 := k2 na nb (by omega) (by omega) (by omega) (by omega)
  have x7 := k2 (na + nb) nc (by omega) (by omega) (by omega) (by omega)
  refine ⟨x1, ?_, ?_, ?_⟩ <;> omega
def Cx (Z : State) (h : Heap) (a2 ed : Addr) (ke : ClassId) (l0 l1 l2 sa : Addr) (kA : ClassId) (na : Int32) (ea : List Value) (sb : Addr) (kB : ClassId) (nb : Int32) (eb : List Value) (sc : Addr) (kC : ClassId) (nc : Int32) (ec : List Value) : Prop :=
  Exa Z h a2 "java/util/ArrayList" ∧
  Fld Z h a2 "java/util/AbstractList" "modCount" "I" (.int (3 : Int32)) ∧
  Fld Z h a2 "java/util/ArrayList" "elementData" "[Ljava/lang/Object;" (.ref ed) ∧
  Fld Z h a2 "java/util/ArrayList" "size" "I" (.int (3 : Int32)) ∧
  Exa Z h ed "[Ljava/lang/Object;" ∧
  Arv Z h ed ke (.object "java/lang/Object") (10 : Int32) [(.ref l0), (.ref l1), (.ref l2)] .null ∧
  Exa Z h l0 "com/example/kinetic_city/kineticcity/engine/TransitLine" ∧
  Fld Z h l0 "com/example/kinetic_city/kineticcity/engine/TransitLine" "stops" "[I" (.ref sa) ∧
  Arv Z h sa kA .int na ea (.int (0 : Int32)) ∧
  Exa Z h l1 "com/example/kinetic_city/kineticcity/engine/TransitLine" ∧
  Fld Z h l1 "com/example/kinetic_city/kineticcity/engine/TransitLine" "stops" "[I" (.ref sb) ∧
  Arv Z h sb kB .int nb eb (.int (0 : Int32)) ∧
  Exa Z h l2 "com/example/kinetic_city/kineticcity/engine/TransitLine" ∧
  Fld Z h l2 "com/example/kinetic_city/kineticcity/engine/TransitLine" "stops" "[I" (.ref sc) ∧
  Arv Z h sc kC .int nc ec (.int (0 : Int32))
theorem Cx.ext {Z : State} {h h' : Heap} {a2 ed : Addr} {ke : ClassId} {l0 l1 l2 sa : Addr} {kA : ClassId} {na : Int32} {ea : List Value} {sb : Addr} {kB : ClassId} {nb : Int32} {eb : List Value} {sc : Addr} {kC : ClassId} {nc : Int32} {ec : List Value} (C : Cx Z h a2 ed ke l0 l1 l2 sa kA na ea sb kB nb eb sc kC nc ec) (E : Ext h h') : Cx Z h' a2 ed ke l0 l1 l2 sa kA na ea sb kB nb eb sc kC nc ec := ⟨C.1.ext E, C.2.1.ext E, C.2.2.1.ext E, C.2.2.2.1.ext E, C.2.2.2.2.1.ext E, C.2.2.2.2.2.1.ext E, C.2.2.2.2.2.2.1.ext E, C.2.2.2.2.2.2.2.1.ext E, C.2.2.2.2.2.2.2.2.1.ext E, C.2.2.2.2.2.2.2.2.2.1.ext E, C.2.2.2.2.2.2.2.2.2.2.1.ext E, C.2.2.2.2.2.2.2.2.2.2.2.1.ext E, C.2.2.2.2.2.2.2.2.2.2.2.2.1.ext E, C.2.2.2.2.2.2.2.2.2.2.2.2.2.1.ext E, C.2.2.2.2.2.2.2.2.2.2.2.2.2.2.ext E⟩
theorem Cx.wr {Z : State} {h h' : Heap} {a2 ed : Addr} {ke : ClassId} {l0 l1 l2 sa : Addr} {kA : ClassId} {na : Int32} {ea : List Value} {sb : Addr} {kB : ClassId} {nb : Int32} {eb : List Value} {sc : Addr} {kC : ClassId} {nc : Int32} {ec : List Value} {o : Addr} {sl : Nat} {v : Value} (C : Cx Z h a2 ed ke l0 l1 l2 sa kA na ea sb kB nb eb sc kC nc ec) (W : Wr h h' o sl v) (n_a2 : a2 ≠ o) (n_ed : ed ≠ o) (n_l0 : l0 ≠ o) (n_l1 : l1 ≠ o) (n_l2 : l2 ≠ o) (n_sa : sa ≠ o) (n_sb : sb ≠ o) (n_sc : sc ≠ o) : Cx Z h' a2 ed ke l0 l1 l2 sa kA na ea sb kB nb eb sc kC nc ec := ⟨C.1.wr W, C.2.1.other W (Or.inl n_a2), C.2.2.1.other W (Or.inl n_a2), C.2.2.2.1.other W (Or.inl n_a2), C.2.2.2.2.1.wr W, C.2.2.2.2.2.1.other W n_ed, C.2.2.2.2.2.2.1.wr W, C.2.2.2.2.2.2.2.1.other W (Or.inl n_l0), C.2.2.2.2.2.2.2.2.1.other W n_sa, C.2.2.2.2.2.2.2.2.2.1.wr W, C.2.2.2.2.2.2.2.2.2.2.1.other W (Or.inl n_l1), C.2.2.2.2.2.2.2.2.2.2.2.1.other W n_sb, C.2.2.2.2.2.2.2.2.2.2.2.2.1.wr W, C.2.2.2.2.2.2.2.2.2.2.2.2.2.1.other W (Or.inl n_l2), C.2.2.2.2.2.2.2.2.2.2.2.2.2.2.other W n_sc⟩
theorem Cx.keep {Z : State} {h h' : Heap} {a2 ed : Addr} {ke : ClassId} {l0 l1 l2 sa : Addr} {kA : ClassId} {na : Int32} {ea : List Value} {sb : Addr} {kB : ClassId} {nb : Int32} {eb : List Value} {sc : Addr} {kC : ClassId} {nc : Int32} {ec : List Value} {ws : List Addr} (C : Cx Z h a2 ed ke l0 l1 l2 sa kA na ea sb kB nb eb sc kC nc ec) (K : Keep h h' ws) (n_a2 : a2 ∉ ws) (n_ed : ed ∉ ws) (n_l0 : l0 ∉ ws) (n_l1 : l1 ∉ ws) (n_l2 : l2 ∉ ws) (n_sa : sa ∉ ws) (n_sb : sb ∉ ws) (n_sc : sc ∉ ws) : Cx Z h' a2 ed ke l0 l1 l2 sa kA na ea sb kB nb eb sc kC nc ec := ⟨C.1.keep K, C.2.1.keep K n_a2, C.2.2.1.keep K n_a2, C.2.2.2.1.keep K n_a2, C.2.2.2.2.1.keep K, C.2.2.2.2.2.1.keep K n_ed, C.2.2.2.2.2.2.1.keep K, C.2.2.2.2.2.2.2.1.keep K n_l0, C.2.2.2.2.2.2.2.2.1.keep K n_sa, C.2.2.2.2.2.2.2.2.2.1.keep K, C.2.2.2.2.2.2.2.2.2.2.1.keep K n_l1, C.2.2.2.2.2.2.2.2.2.2.2.1.keep K n_sb, C.2.2.2.2.2.2.2.2.2.2.2.2.1.keep K, C.2.2.2.2.2.2.2.2.2.2.2.2.2.1.keep K n_l2, C.2.2.2.2.2.2.2.2.2.2.2.2.2.2.keep K n_sc⟩
theorem Cx.keep0 {Z : State} {h h' : Heap} {a2 ed : Addr} {ke : ClassId} {l0 l1 l2 sa : Addr} {kA : ClassId} {na : Int32} {ea : List Value} {sb : Addr} {kB : ClassId} {nb : Int32} {eb : List Value} {sc : Addr} {kC : ClassId} {nc : Int32} {ec : List Value} (C : Cx Z h a2 ed ke l0 l1 l2 sa kA na ea sb kB nb eb sc kC nc ec) (K : Keep h h' []) : Cx Z h' a2 ed ke l0 l1 l2 sa kA na ea sb kB nb eb sc kC nc ec := C.keep K nin0 nin0 nin0 nin0 nin0 nin0 nin0 nin0
theorem lpZ {i n : Int32} (h : i.toInt + ((0 : Nat) : Int) = n.toInt) : ¬ i < n := i_nlt (by omega)
theorem lpS {i n : Int32} {f : Nat} (h : i.toInt + ((f + 1 : Nat) : Int) = n.toInt) : i < n := i_lt (by omega)
theorem lpN {i : Int32} {k : Nat} (h : (k : Int) ≤ i.toInt) : ¬ i < (0 : Int32) := i_ge0 (by omega)
theorem lpI {i n : Int32} {f k : Nat} (h : (k : Int) ≤ i.toInt) (h1 : i.toInt + ((f + 1 : Nat) : Int) = n.toInt) : (k : Int) ≤ (i + (1 : Int32)).toInt ∧ (i + (1 : Int32)).toInt + (f : Int) = n.toInt := by
  have q := i_inc (i := i) (n := n) (by omega) (by omega)
  omega
theorem lp0 {n : Int32} (h : 2 ≤ n.toInt) : (0 : Int32).toInt + ((n.toInt - 0).toNat : Int) = n.toInt := by
  have e : (0 : Int32).toInt = 0 := by decide
  omega
theorem lp1 {n : Int32} (h : 2 ≤ n.toInt) : (1 : Int32).toInt + ((n.toInt - 1).toNat : Int) = n.toInt := by
  have e : (1 : Int32).toInt = 1 := by decide
  omega
theorem lpP {n : Int32} (h : 2 ≤ n.toInt) : (0 : Int32) < n := by
  rw [Int32.lt_iff_toInt_lt]
  have e : (0 : Int32).toInt = 0 := by decide
  omega
theorem lpF {f i n T : Int32} {B : Int} {g k : Nat} (hf : f.toInt = B + i.toInt) (hB : 0 ≤ B) (hk : (k : Int) ≤ i.toInt) (h1 : i.toInt + ((g + 1 : Nat) : Int) = n.toInt) (hT : B + n.toInt ≤ T.toInt) : (f + (1 : Int32)).toInt = B + (i + (1 : Int32)).toInt := by
  have q := i_inc (i := i) (n := n) (by omega) (by omega)
  have r := i_inc (i := f) (n := T) (by omega) (by omega)
  omega
theorem lpG {f T : Int32} {B C : Int} (hf : f.toInt = B + C) (hB : 0 ≤ B + C) (hT : B + C < T.toInt) : (f + (1 : Int32)).toInt = B + C + 1 := by
  have r := i_inc (i := f) (n := T) (by omega) (by omega)
  omega
theorem lpA {f i n T : Int32} {B : Int} {g k : Nat} (hf : f.toInt = B + i.toInt) (hB : 0 ≤ B) (hk : (k : Int) ≤ i.toInt) (h1 : i.toInt + ((g + 1 : Nat) : Int) = n.toInt) (hT : B + n.toInt ≤ T.toInt) : ¬ f < (0 : Int32) ∧ f < T := ⟨i_ge0 (by omega), i_lt (by omega)⟩
theorem lpB {f T : Int32} {B : Int} (hf : f.toInt = B) (hB : 0 ≤ B) (hT : B < T.toInt) : ¬ f < (0 : Int32) ∧ f < T := ⟨i_ge0 (by omega), i_lt (by omega)⟩
theorem lpQ {i n : Int32} (h : i.toInt + ((0 : Nat) : Int) = n.toInt) : i.toInt = n.toInt := by omega
theorem lpH {f T : Int32} {B : Int} (hf : f.toInt = B) (hB : 0 ≤ B) (hT : B < T.toInt) : (f + (1 : Int32)).toInt = B + (1 : Int32).toInt := by
  have r := i_inc (i := f) (n := T) (by omega) (by omega)
  have e : (1 : Int32).toInt = 1 := by decide
  omega
theorem own_ks {na nb nc T : Int32} (a : 2 ≤ na.toInt) (b : 2 ≤ nb.toInt) (c : 2 ≤ nc.toInt) (t : T.toInt = na.toInt + nb.toInt + nc.toInt) : (0 : Int) ≤ 0 ∧ 0 ≤ na.toInt ∧ 0 ≤ (na.toInt + nb.toInt) ∧ 0 + na.toInt ≤ T.toInt ∧ na.toInt + nb.toInt ≤ T.toInt ∧ (na.toInt + nb.toInt) + nc.toInt ≤ T.toInt ∧ (0 : Int32) < T ∧ na.toInt < T.toInt ∧ (na.toInt + nb.toInt) < T.toInt := by
  have e : (0 : Int32).toInt = 0 := by decide
  refine ⟨?_, ?_, ?_, ?_, ?_, ?_, i_lt ?_, ?_, ?_⟩ <;> omega
theorem own_gs {na nb nc : Int32} (a2 : 2 ≤ na.toInt) (a5 : na.toInt ≤ 5) (b2 : 2 ≤ nb.toInt) (b5 : nb.toInt ≤ 5) (c2 : 2 ≤ nc.toInt) (c5 : nc.toInt ≤ 5) (f1 : (na - (1 : Int32)).toInt = na.toInt - 1) (f2 : (((na - (1 : Int32)) + nb) - (1 : Int32)).toInt = na.toInt + nb.toInt - 2) (f3 : (((((na - (1 : Int32)) + nb) - (1 : Int32)) + nc) - (1 : Int32)).toInt = na.toInt + nb.toInt + nc.toInt - 3) (f4 : ((na + nb) + nc).toInt = na.toInt + nb.toInt + nc.toInt) : (0 : Int32).toInt ≤ (na - (1 : Int32)).toInt ∧ 0 ≤ (na - (1 : Int32)).toInt ∧ (na - (1 : Int32)).toInt ≤ (((na - (1 : Int32)) + nb) - (1 : Int32)).toInt ∧ (na - (1 : Int32)).toInt ≤ (((((na - (1 : Int32)) + nb) - (1 : Int32)) + nc) - (1 : Int32)).toInt ∧ (((na - (1 : Int32)) + nb) - (1 : Int32)).toInt ≤ (((((na - (1 : Int32)) + nb) - (1 : Int32)) + nc) - (1 : Int32)).toInt ∧ 0 ≤ (((na - (1 : Int32)) + nb) - (1 : Int32)).toInt ∧ (((na - (1 : Int32)) + nb) - (1 : Int32)).toInt ≤ (((((na - (1 : Int32)) + nb) - (1 : Int32)) + nc) - (1 : Int32)).toInt := by
  have e : (0 : Int32).toInt = 0 := by decide
  omega
theorem own_nn {x : Int32} {k : Nat} (h0 : 0 ≤ x.toInt) (h : x.toInt ≤ k) : ¬ x < (0 : Int32) ∧ x.toNatClampNeg ≤ k := ⟨i_ge0 h0, i_cap h⟩
theorem own_c12 {na nb nc x y : Int32} (a2 : 2 ≤ na.toInt) (a5 : na.toInt ≤ 5) (b2 : 2 ≤ nb.toInt) (b5 : nb.toInt ≤ 5) (c2 : 2 ≤ nc.toInt) (c5 : nc.toInt ≤ 5) (f3 : x.toInt = na.toInt + nb.toInt + nc.toInt - 3) (f4 : y.toInt = na.toInt + nb.toInt + nc.toInt) : (¬ x < (0 : Int32) ∧ x.toNatClampNeg ≤ 12) ∧ (¬ y < (0 : Int32) ∧ y.toNatClampNeg ≤ 15) := ⟨own_nn (by omega) (by omega), own_nn (by omega) (by omega)⟩
theorem pn_com_example_kinetic_city_kineticcity_engine_TransitNetwork : plainName "com/example/kinetic_city/kineticcity/engine/TransitNetwork" = true := by first | (simp [plainName, overriddenIn]; done) | decide +kernel
theorem d14_0 : decode prog_23_method_1_code 0 = .ok (.aload_n 0, 1) := by decide +kernel
theorem d14_1 : decode prog_23_method_1_code 1 = .ok (.invokespecial 1, 3) := by decide +kernel
theorem d14_362 : decode prog_23_method_1_code 362 = .ok (.aload_n 0, 1) := by decide +kernel
theorem d14_363 : decode prog_23_method_1_code 363 = .ok (.iload_n 3, 1) := by decide +kernel
theorem d14_364 : decode prog_23_method_1_code 364 = .ok (.newarray .int, 2) := by decide +kernel
theorem d14_366 : decode prog_23_method_1_code 366 = .ok (.putfield 86, 3) := by decide +kernel
theorem d14_369 : decode prog_23_method_1_code 369 = .ok (.aload_n 0, 1) := by decide +kernel
theorem d14_370 : decode prog_23_method_1_code 370 = .ok (.iload_n 3, 1) := by decide +kernel
theorem d14_371 : decode prog_23_method_1_code 371 = .ok (.newarray .int, 2) := by decide +kernel
theorem d14_373 : decode prog_23_method_1_code 373 = .ok (.putfield 89, 3) := by decide +kernel
theorem d14_376 : decode prog_23_method_1_code 376 = .ok (.iload_n 1, 1) := by decide +kernel
theorem d14_377 : decode prog_23_method_1_code 377 = .ok (.iconst 1, 1) := by decide +kernel
theorem d14_378 : decode prog_23_method_1_code 378 = .ok (.iadd, 1) := by decide +kernel
theorem d14_379 : decode prog_23_method_1_code 379 = .ok (.newarray .int, 2) := by decide +kernel
theorem d14_381 : decode prog_23_method_1_code 381 = .ok (.astore 4, 2) := by decide +kernel
theorem d14_383 : decode prog_23_method_1_code 383 = .ok (.iconst 0, 1) := by decide +kernel
theorem d14_384 : decode prog_23_method_1_code 384 = .ok (.istore 5, 2) := by decide +kernel
theorem d14_386 : decode prog_23_method_1_code 386 = .ok (.iload 5, 2) := by decide +kernel
theorem d14_388 : decode prog_23_method_1_code 388 = .ok (.aload_n 2, 1) := by decide +kernel
theorem d14_389 : decode prog_23_method_1_code 389 = .ok (.invokeinterface 63 1, 5) := by decide +kernel
theorem pd___I : parseMethodDescriptor "()I" = some ⟨[], some .int⟩ := by decide +kernel
theorem d14_394 : decode prog_23_method_1_code 394 = .ok (.if_icmp .ge 92, 3) := by decide +kernel
theorem d14_397 : decode prog_23_method_1_code 397 = .ok (.aload_n 2, 1) := by decide +kernel
theorem d14_398 : decode prog_23_method_1_code 398 = .ok (.iload 5, 2) := by decide +kernel
theorem d14_400 : decode prog_23_method_1_code 400 = .ok (.invokeinterface 70 2, 5) := by decide +kernel
theorem d14_405 : decode prog_23_method_1_code 405 = .ok (.checkcast 23, 3) := by decide +kernel
theorem d14_408 : decode prog_23_method_1_code 408 = .ok (.astore 6, 2) := by decide +kernel
theorem d14_410 : decode prog_23_method_1_code 410 = .ok (.iconst 0, 1) := by decide +kernel
theorem d14_411 : decode prog_23_method_1_code 411 = .ok (.istore 7, 2) := by decide +kernel
theorem d14_413 : decode prog_23_method_1_code 413 = .ok (.iload 7, 2) := by decide +kernel
theorem d14_415 : decode prog_23_method_1_code 415 = .ok (.aload 6, 2) := by decide +kernel
theorem d14_417 : decode prog_23_method_1_code 417 = .ok (.invokevirtual 25, 3) := by decide +kernel
theorem d14_420 : decode prog_23_method_1_code 420 = .ok (.if_icmp .ge 60, 3) := by decide +kernel
theorem d14_423 : decode prog_23_method_1_code 423 = .ok (.aload 6, 2) := by decide +kernel
theorem d14_425 : decode prog_23_method_1_code 425 = .ok (.iload 7, 2) := by decide +kernel
theorem d14_427 : decode prog_23_method_1_code 427 = .ok (.invokevirtual 29, 3) := by decide +kernel
theorem pd__I_I : parseMethodDescriptor "(I)I" = some ⟨[.int], some .int⟩ := by decide +kernel
theorem d14_430 : decode prog_23_method_1_code 430 = .ok (.istore 8, 2) := by decide +kernel
theorem d14_432 : decode prog_23_method_1_code 432 = .ok (.aload_n 0, 1) := by decide +kernel
theorem d14_433 : decode prog_23_method_1_code 433 = .ok (.getfield 83, 3) := by decide +kernel
theorem d14_436 : decode prog_23_method_1_code 436 = .ok (.iload 8, 2) := by decide +kernel
theorem d14_438 : decode prog_23_method_1_code 438 = .ok (.iaload, 1) := by decide +kernel
theorem d14_439 : decode prog_23_method_1_code 439 = .ok (.aload 4, 2) := by decide +kernel
theorem d14_441 : decode prog_23_method_1_code 441 = .ok (.iload 8, 2) := by decide +kernel
theorem d14_443 : decode prog_23_method_1_code 443 = .ok (.iaload, 1) := by decide +kernel
theorem d14_444 : decode prog_23_method_1_code 444 = .ok (.iadd, 1) := by decide +kernel
theorem d14_445 : decode prog_23_method_1_code 445 = .ok (.istore 9, 2) := by decide +kernel
theorem d14_447 : decode prog_23_method_1_code 447 = .ok (.aload_n 0, 1) := by decide +kernel
theorem d14_448 : decode prog_23_method_1_code 448 = .ok (.getfield 86, 3) := by decide +kernel
theorem d14_451 : decode prog_23_method_1_code 451 = .ok (.iload 9, 2) := by decide +kernel
theorem d14_453 : decode prog_23_method_1_code 453 = .ok (.iload 5, 2) := by decide +kernel
theorem d14_455 : decode prog_23_method_1_code 455 = .ok (.iastore, 1) := by decide +kernel
theorem d14_456 : decode prog_23_method_1_code 456 = .ok (.aload_n 0, 1) := by decide +kernel
theorem d14_457 : decode prog_23_method_1_code 457 = .ok (.getfield 89, 3) := by decide +kernel
theorem d14_460 : decode prog_23_method_1_code 460 = .ok (.iload 9, 2) := by decide +kernel
theorem d14_462 : decode prog_23_method_1_code 462 = .ok (.iload 7, 2) := by decide +kernel
theorem d14_464 : decode prog_23_method_1_code 464 = .ok (.iastore, 1) := by decide +kernel
theorem d14_465 : decode prog_23_method_1_code 465 = .ok (.aload 4, 2) := by decide +kernel
theorem d14_467 : decode prog_23_method_1_code 467 = .ok (.iload 8, 2) := by decide +kernel
theorem d14_469 : decode prog_23_method_1_code 469 = .ok (.dup2, 1) := by decide +kernel
theorem d14_470 : decode prog_23_method_1_code 470 = .ok (.iaload, 1) := by decide +kernel
theorem d14_471 : decode prog_23_method_1_code 471 = .ok (.iconst 1, 1) := by decide +kernel
theorem d14_472 : decode prog_23_method_1_code 472 = .ok (.iadd, 1) := by decide +kernel
theorem d14_473 : decode prog_23_method_1_code 473 = .ok (.iastore, 1) := by decide +kernel
theorem d14_474 : decode prog_23_method_1_code 474 = .ok (.iinc 7 1, 3) := by decide +kernel
theorem d14_477 : decode prog_23_method_1_code 477 = .ok (.goto (-64), 3) := by decide +kernel
theorem d14_480 : decode prog_23_method_1_code 480 = .ok (.iinc 5 1, 3) := by decide +kernel
theorem d14_483 : decode prog_23_method_1_code 483 = .ok (.goto (-97), 3) := by decide +kernel
theorem d14_486 : decode prog_23_method_1_code 486 = .ok (.return_, 1) := by decide +kernel
theorem d14_247 : decode prog_23_method_1_code 247 = .ok (.aload_n 0, 1) := by decide +kernel
theorem d14_248 : decode prog_23_method_1_code 248 = .ok (.iload_n 1, 1) := by decide +kernel
theorem d14_249 : decode prog_23_method_1_code 249 = .ok (.iconst 2, 1) := by decide +kernel
theorem d14_250 : decode prog_23_method_1_code 250 = .ok (.iadd, 1) := by decide +kernel
theorem d14_251 : decode prog_23_method_1_code 251 = .ok (.newarray .int, 2) := by decide +kernel
theorem d14_253 : decode prog_23_method_1_code 253 = .ok (.putfield 83, 3) := by decide +kernel
theorem d14_256 : decode prog_23_method_1_code 256 = .ok (.aload_n 2, 1) := by decide +kernel
theorem d14_257 : decode prog_23_method_1_code 257 = .ok (.invokeinterface 7 1, 5) := by decide +kernel
theorem pd___Ljava_util_Iterator_ : parseMethodDescriptor "()Ljava/util/Iterator;" = some ⟨[], some (.object "java/util/Iterator")⟩ := by decide +kernel
theorem d14_262 : decode prog_23_method_1_code 262 = .ok (.astore 4, 2) := by decide +kernel
theorem d14_264 : decode prog_23_method_1_code 264 = .ok (.aload 4, 2) := by decide +kernel
theorem d14_266 : decode prog_23_method_1_code 266 = .ok (.invokeinterface 13 1, 5) := by decide +kernel
theorem pd___Z : parseMethodDescriptor "()Z" = some ⟨[], some .boolean⟩ := by decide +kernel
theorem d14_271 : decode prog_23_method_1_code 271 = .ok (.ifCond .eq 55, 3) := by decide +kernel
theorem d14_274 : decode prog_23_method_1_code 274 = .ok (.aload 4, 2) := by decide +kernel
theorem d14_276 : decode prog_23_method_1_code 276 = .ok (.invokeinterface 19 1, 5) := by decide +kernel
theorem pd___Ljava_lang_Object_ : parseMethodDescriptor "()Ljava/lang/Object;" = some ⟨[], some (.object "java/lang/Object")⟩ := by decide +kernel
theorem d14_281 : decode prog_23_method_1_code 281 = .ok (.checkcast 23, 3) := by decide +kernel
theorem d14_284 : decode prog_23_method_1_code 284 = .ok (.astore 5, 2) := by decide +kernel
theorem d14_286 : decode prog_23_method_1_code 286 = .ok (.iconst 0, 1) := by decide +kernel
theorem d14_287 : decode prog_23_method_1_code 287 = .ok (.istore 6, 2) := by decide +kernel
theorem d14_289 : decode prog_23_method_1_code 289 = .ok (.iload 6, 2) := by decide +kernel
theorem d14_291 : decode prog_23_method_1_code 291 = .ok (.aload 5, 2) := by decide +kernel
theorem d14_293 : decode prog_23_method_1_code 293 = .ok (.invokevirtual 25, 3) := by decide +kernel
theorem d14_296 : decode prog_23_method_1_code 296 = .ok (.if_icmp .ge 27, 3) := by decide +kernel
theorem d14_323 : decode prog_23_method_1_code 323 = .ok (.goto (-59), 3) := by decide +kernel
theorem d14_326 : decode prog_23_method_1_code 326 = .ok (.iconst 1, 1) := by decide +kernel
theorem d14_327 : decode prog_23_method_1_code 327 = .ok (.istore 4, 2) := by decide +kernel
theorem d14_329 : decode prog_23_method_1_code 329 = .ok (.iload 4, 2) := by decide +kernel
theorem d14_331 : decode prog_23_method_1_code 331 = .ok (.iload_n 1, 1) := by decide +kernel
theorem d14_332 : decode prog_23_method_1_code 332 = .ok (.iconst 1, 1) := by decide +kernel
theorem d14_333 : decode prog_23_method_1_code 333 = .ok (.iadd, 1) := by decide +kernel
theorem d14_334 : decode prog_23_method_1_code 334 = .ok (.if_icmp .gt 28, 3) := by decide +kernel
theorem d14_337 : decode prog_23_method_1_code 337 = .ok (.aload_n 0, 1) := by decide +kernel
theorem d14_338 : decode prog_23_method_1_code 338 = .ok (.getfield 83, 3) := by decide +kernel
theorem d14_341 : decode prog_23_method_1_code 341 = .ok (.iload 4, 2) := by decide +kernel
theorem d14_343 : decode prog_23_method_1_code 343 = .ok (.dup2, 1) := by decide +kernel
theorem d14_344 : decode prog_23_method_1_code 344 = .ok (.iaload, 1) := by decide +kernel
theorem d14_345 : decode prog_23_method_1_code 345 = .ok (.aload_n 0, 1) := by decide +kernel
theorem d14_346 : decode prog_23_method_1_code 346 = .ok (.getfield 83, 3) := by decide +kernel
theorem d14_349 : decode prog_23_method_1_code 349 = .ok (.iload 4, 2) := by decide +kernel
theorem d14_351 : decode prog_23_method_1_code 351 = .ok (.iconst 1, 1) := by decide +kernel
theorem d14_352 : decode prog_23_method_1_code 352 = .ok (.isub, 1) := by decide +kernel
theorem d14_353 : decode prog_23_method_1_code 353 = .ok (.iaload, 1) := by decide +kernel
theorem d14_354 : decode prog_23_method_1_code 354 = .ok (.iadd, 1) := by decide +kernel
theorem d14_355 : decode prog_23_method_1_code 355 = .ok (.iastore, 1) := by decide +kernel
theorem d14_356 : decode prog_23_method_1_code 356 = .ok (.iinc 4 1, 3) := by decide +kernel
theorem d14_359 : decode prog_23_method_1_code 359 = .ok (.goto (-30), 3) := by decide +kernel
theorem d14_299 : decode prog_23_method_1_code 299 = .ok (.aload_n 0, 1) := by decide +kernel
theorem d14_300 : decode prog_23_method_1_code 300 = .ok (.getfield 83, 3) := by decide +kernel
theorem d14_303 : decode prog_23_method_1_code 303 = .ok (.aload 5, 2) := by decide +kernel
theorem d14_305 : decode prog_23_method_1_code 305 = .ok (.iload 6, 2) := by decide +kernel
theorem d14_307 : decode prog_23_method_1_code 307 = .ok (.invokevirtual 29, 3) := by decide +kernel
theorem d14_310 : decode prog_23_method_1_code 310 = .ok (.iconst 1, 1) := by decide +kernel
theorem d14_311 : decode prog_23_method_1_code 311 = .ok (.iadd, 1) := by decide +kernel
theorem d14_312 : decode prog_23_method_1_code 312 = .ok (.dup2, 1) := by decide +kernel
theorem d14_313 : decode prog_23_method_1_code 313 = .ok (.iaload, 1) := by decide +kernel
theorem d14_314 : decode prog_23_method_1_code 314 = .ok (.iconst 1, 1) := by decide +kernel
theorem d14_315 : decode prog_23_method_1_code 315 = .ok (.iadd, 1) := by decide +kernel
theorem d14_316 : decode prog_23_method_1_code 316 = .ok (.iastore, 1) := by decide +kernel
theorem d14_317 : decode prog_23_method_1_code 317 = .ok (.iinc 6 1, 3) := by decide +kernel
theorem d14_320 : decode prog_23_method_1_code 320 = .ok (.goto (-31), 3) := by decide +kernel
theorem d14_185 : decode prog_23_method_1_code 185 = .ok (.aload_n 0, 1) := by decide +kernel
theorem d14_186 : decode prog_23_method_1_code 186 = .ok (.aload_n 0, 1) := by decide +kernel
theorem d14_187 : decode prog_23_method_1_code 187 = .ok (.getfield 66, 3) := by decide +kernel
theorem d14_190 : decode prog_23_method_1_code 190 = .ok (.aload_n 2, 1) := by decide +kernel
theorem d14_191 : decode prog_23_method_1_code 191 = .ok (.invokeinterface 63 1, 5) := by decide +kernel
theorem d14_196 : decode prog_23_method_1_code 196 = .ok (.iaload, 1) := by decide +kernel
theorem d14_197 : decode prog_23_method_1_code 197 = .ok (.newarray .int, 2) := by decide +kernel
theorem d14_199 : decode prog_23_method_1_code 199 = .ok (.putfield 74, 3) := by decide +kernel
theorem d14_202 : decode prog_23_method_1_code 202 = .ok (.iconst 0, 1) := by decide +kernel
theorem d14_203 : decode prog_23_method_1_code 203 = .ok (.istore 4, 2) := by decide +kernel
theorem d14_205 : decode prog_23_method_1_code 205 = .ok (.iload 4, 2) := by decide +kernel
theorem d14_207 : decode prog_23_method_1_code 207 = .ok (.aload_n 2, 1) := by decide +kernel
theorem d14_208 : decode prog_23_method_1_code 208 = .ok (.invokeinterface 63 1, 5) := by decide +kernel
theorem d14_213 : decode prog_23_method_1_code 213 = .ok (.if_icmp .ge 34, 3) := by decide +kernel
theorem d14_216 : decode prog_23_method_1_code 216 = .ok (.aload_n 0, 1) := by decide +kernel
theorem d14_217 : decode prog_23_method_1_code 217 = .ok (.getfield 74, 3) := by decide +kernel
theorem d14_220 : decode prog_23_method_1_code 220 = .ok (.aload_n 0, 1) := by decide +kernel
theorem d14_221 : decode prog_23_method_1_code 221 = .ok (.getfield 66, 3) := by decide +kernel
theorem d14_224 : decode prog_23_method_1_code 224 = .ok (.iload 4, 2) := by decide +kernel
theorem d14_226 : decode prog_23_method_1_code 226 = .ok (.iaload, 1) := by decide +kernel
theorem d14_227 : decode prog_23_method_1_code 227 = .ok (.aload_n 0, 1) := by decide +kernel
theorem d14_228 : decode prog_23_method_1_code 228 = .ok (.getfield 66, 3) := by decide +kernel
theorem d14_231 : decode prog_23_method_1_code 231 = .ok (.iload 4, 2) := by decide +kernel
theorem d14_233 : decode prog_23_method_1_code 233 = .ok (.iconst 1, 1) := by decide +kernel
theorem d14_234 : decode prog_23_method_1_code 234 = .ok (.iadd, 1) := by decide +kernel
theorem d14_235 : decode prog_23_method_1_code 235 = .ok (.iaload, 1) := by decide +kernel
theorem d14_236 : decode prog_23_method_1_code 236 = .ok (.iload 4, 2) := by decide +kernel
theorem d14_238 : decode prog_23_method_1_code 238 = .ok (.invokestatic 77, 3) := by decide +kernel
theorem pd___IIII_V : parseMethodDescriptor "([IIII)V" = some ⟨[(.array .int), .int, .int, .int], none⟩ := by decide +kernel
theorem d14_241 : decode prog_23_method_1_code 241 = .ok (.iinc 4 1, 3) := by decide +kernel
theorem d14_244 : decode prog_23_method_1_code 244 = .ok (.goto (-39), 3) := by decide +kernel
theorem d14_98 : decode prog_23_method_1_code 98 = .ok (.aload_n 0, 1) := by decide +kernel
theorem d14_99 : decode prog_23_method_1_code 99 = .ok (.iload_n 1, 1) := by decide +kernel
theorem d14_100 : decode prog_23_method_1_code 100 = .ok (.putfield 42, 3) := by decide +kernel
theorem d14_103 : decode prog_23_method_1_code 103 = .ok (.aload_n 0, 1) := by decide +kernel
theorem d14_104 : decode prog_23_method_1_code 104 = .ok (.new 48, 3) := by decide +kernel
theorem d14_107 : decode prog_23_method_1_code 107 = .ok (.dup, 1) := by decide +kernel
theorem d14_108 : decode prog_23_method_1_code 108 = .ok (.aload_n 2, 1) := by decide +kernel
theorem d14_109 : decode prog_23_method_1_code 109 = .ok (.invokespecial 50, 3) := by decide +kernel
theorem d14_112 : decode prog_23_method_1_code 112 = .ok (.invokestatic 53, 3) := by decide +kernel
theorem pd__Ljava_util_List__Ljava_util_List_ : parseMethodDescriptor "(Ljava/util/List;)Ljava/util/List;" = some ⟨[(.object "java/util/List")], some (.object "java/util/List")⟩ := by decide +kernel
theorem d14_115 : decode prog_23_method_1_code 115 = .ok (.putfield 59, 3) := by decide +kernel
theorem d14_118 : decode prog_23_method_1_code 118 = .ok (.aload_n 0, 1) := by decide +kernel
theorem d14_119 : decode prog_23_method_1_code 119 = .ok (.aload_n 2, 1) := by decide +kernel
theorem d14_120 : decode prog_23_method_1_code 120 = .ok (.invokeinterface 63 1, 5) := by decide +kernel
theorem d14_125 : decode prog_23_method_1_code 125 = .ok (.iconst 1, 1) := by decide +kernel
theorem d14_126 : decode prog_23_method_1_code 126 = .ok (.iadd, 1) := by decide +kernel
theorem d14_127 : decode prog_23_method_1_code 127 = .ok (.newarray .int, 2) := by decide +kernel
theorem d14_129 : decode prog_23_method_1_code 129 = .ok (.putfield 66, 3) := by decide +kernel
theorem d14_132 : decode prog_23_method_1_code 132 = .ok (.iconst 0, 1) := by decide +kernel
theorem d14_133 : decode prog_23_method_1_code 133 = .ok (.istore 4, 2) := by decide +kernel
theorem d14_135 : decode prog_23_method_1_code 135 = .ok (.iload 4, 2) := by decide +kernel
theorem d14_137 : decode prog_23_method_1_code 137 = .ok (.aload_n 2, 1) := by decide +kernel
theorem d14_138 : decode prog_23_method_1_code 138 = .ok (.invokeinterface 63 1, 5) := by decide +kernel
theorem d14_143 : decode prog_23_method_1_code 143 = .ok (.if_icmp .ge 42, 3) := by decide +kernel
theorem d14_146 : decode prog_23_method_1_code 146 = .ok (.aload_n 0, 1) := by decide +kernel
theorem d14_147 : decode prog_23_method_1_code 147 = .ok (.getfield 66, 3) := by decide +kernel
theorem d14_150 : decode prog_23_method_1_code 150 = .ok (.iload 4, 2) := by decide +kernel
theorem d14_152 : decode prog_23_method_1_code 152 = .ok (.iconst 1, 1) := by decide +kernel
theorem d14_153 : decode prog_23_method_1_code 153 = .ok (.iadd, 1) := by decide +kernel
theorem d14_154 : decode prog_23_method_1_code 154 = .ok (.aload_n 0, 1) := by decide +kernel
theorem d14_155 : decode prog_23_method_1_code 155 = .ok (.getfield 66, 3) := by decide +kernel
theorem d14_158 : decode prog_23_method_1_code 158 = .ok (.iload 4, 2) := by decide +kernel
theorem d14_160 : decode prog_23_method_1_code 160 = .ok (.iaload, 1) := by decide +kernel
theorem d14_161 : decode prog_23_method_1_code 161 = .ok (.aload_n 2, 1) := by decide +kernel
theorem d14_162 : decode prog_23_method_1_code 162 = .ok (.iload 4, 2) := by decide +kernel
theorem d14_164 : decode prog_23_method_1_code 164 = .ok (.invokeinterface 70 2, 5) := by decide +kernel
theorem d14_169 : decode prog_23_method_1_code 169 = .ok (.checkcast 23, 3) := by decide +kernel
theorem d14_172 : decode prog_23_method_1_code 172 = .ok (.invokevirtual 25, 3) := by decide +kernel
theorem d14_175 : decode prog_23_method_1_code 175 = .ok (.iadd, 1) := by decide +kernel
theorem d14_176 : decode prog_23_method_1_code 176 = .ok (.iconst 1, 1) := by decide +kernel
theorem d14_177 : decode prog_23_method_1_code 177 = .ok (.isub, 1) := by decide +kernel
theorem d14_178 : decode prog_23_method_1_code 178 = .ok (.iastore, 1) := by decide +kernel
theorem d14_179 : decode prog_23_method_1_code 179 = .ok (.iinc 4 1, 3) := by decide +kernel
theorem d14_182 : decode prog_23_method_1_code 182 = .ok (.goto (-47), 3) := by decide +kernel
theorem d14_4 : decode prog_23_method_1_code 4 = .ok (.iconst 0, 1) := by decide +kernel
theorem d14_5 : decode prog_23_method_1_code 5 = .ok (.istore_n 3, 1) := by decide +kernel
theorem d14_6 : decode prog_23_method_1_code 6 = .ok (.aload_n 2, 1) := by decide +kernel
theorem d14_7 : decode prog_23_method_1_code 7 = .ok (.invokeinterface 7 1, 5) := by decide +kernel
theorem d14_12 : decode prog_23_method_1_code 12 = .ok (.astore 4, 2) := by decide +kernel
theorem d14_14 : decode prog_23_method_1_code 14 = .ok (.aload 4, 2) := by decide +kernel
theorem d14_16 : decode prog_23_method_1_code 16 = .ok (.invokeinterface 13 1, 5) := by decide +kernel
theorem d14_21 : decode prog_23_method_1_code 21 = .ok (.ifCond .eq 77, 3) := by decide +kernel
theorem d14_24 : decode prog_23_method_1_code 24 = .ok (.aload 4, 2) := by decide +kernel
theorem d14_26 : decode prog_23_method_1_code 26 = .ok (.invokeinterface 19 1, 5) := by decide +kernel
theorem d14_31 : decode prog_23_method_1_code 31 = .ok (.checkcast 23, 3) := by decide +kernel
theorem d14_34 : decode prog_23_method_1_code 34 = .ok (.astore 5, 2) := by decide +kernel
theorem d14_36 : decode prog_23_method_1_code 36 = .ok (.iconst 0, 1) := by decide +kernel
theorem d14_37 : decode prog_23_method_1_code 37 = .ok (.istore 6, 2) := by decide +kernel
theorem d14_39 : decode prog_23_method_1_code 39 = .ok (.iload 6, 2) := by decide +kernel
theorem d14_41 : decode prog_23_method_1_code 41 = .ok (.aload 5, 2) := by decide +kernel
theorem d14_43 : decode prog_23_method_1_code 43 = .ok (.invokevirtual 25, 3) := by decide +kernel
theorem d14_46 : decode prog_23_method_1_code 46 = .ok (.if_icmp .ge 41, 3) := by decide +kernel
theorem d14_87 : decode prog_23_method_1_code 87 = .ok (.iload_n 3, 1) := by decide +kernel
theorem d14_88 : decode prog_23_method_1_code 88 = .ok (.aload 5, 2) := by decide +kernel
theorem d14_90 : decode prog_23_method_1_code 90 = .ok (.invokevirtual 25, 3) := by decide +kernel
theorem d14_93 : decode prog_23_method_1_code 93 = .ok (.iadd, 1) := by decide +kernel
theorem d14_94 : decode prog_23_method_1_code 94 = .ok (.istore_n 3, 1) := by decide +kernel
theorem d14_95 : decode prog_23_method_1_code 95 = .ok (.goto (-81), 3) := by decide +kernel
theorem d14_49 : decode prog_23_method_1_code 49 = .ok (.aload 5, 2) := by decide +kernel
theorem d14_51 : decode prog_23_method_1_code 51 = .ok (.iload 6, 2) := by decide +kernel
theorem d14_53 : decode prog_23_method_1_code 53 = .ok (.invokevirtual 29, 3) := by decide +kernel
theorem d14_56 : decode prog_23_method_1_code 56 = .ok (.iload_n 1, 1) := by decide +kernel
theorem d14_57 : decode prog_23_method_1_code 57 = .ok (.if_icmp .le 24, 3) := by decide +kernel
theorem d14_81 : decode prog_23_method_1_code 81 = .ok (.iinc 6 1, 3) := by decide +kernel
theorem d14_84 : decode prog_23_method_1_code 84 = .ok (.goto (-45), 3) := by decide +kernel
/-- what a piece of a walk knows of its run -/
def Stp (p : Program) (Z s : State) (m : MethodId) (meth : Method) (c : Code) (bytes : ByteArray) (ml : Nat) (rt : Option FieldType) (y : MethodName) : Prop :=
  p.tables.exec = Jvm.exec ∧ c.code = bytes ∧ c.maxLocals = ml ∧ meth.name = y.name ∧ meth.locks = false ∧ meth.sig.returnType = rt ∧ Z.Warmed39 s.vm ∧ s.vm.findClass y.cls = some m.cls
set_option maxRecDepth 65536 in
set_option maxHeartbeats 40000000 in
theorem rmN_C5 (l : Launch) (Z : State) (a0 : Array Value) (hw : ∀ d ∈ tables_1, d.before a0 Z = true) (a1 : Addr) (a2 : Addr) (ed : Addr) (ke : ClassId) (l0 : Addr) (l1 : Addr) (l2 : Addr) (sa : Addr) (kA : ClassId) (na : Int32) (ea : List Value) (sb : Addr) (kB : ClassId) (nb : Int32) (eb : List Value) (sc : Addr) (kC : ClassId) (nc : Int32) (ec : List Value) (mir_0 : Addr) (mir_1 : Addr) (mir_2 : Addr) (mir_3 : Addr) (wE : Addr) (wD : Addr) (kE : ClassId) (kD : ClassId) (h0 : Heap) (n0 : Nat) (O0 : Old Z n0 h0) (ba2 : 2 ≤ na.toInt) (ba5 : na.toInt ≤ 5) (bb2 : 2 ≤ nb.toInt) (bb5 : nb.toInt ≤ 5) (bc2 : 2 ≤ nc.toInt) (bc5 : nc.toInt ≤ 5) (g_a1 : n0 ≤ a1) (ne12 : a1 ≠ a2) (E_a1 : Exa Z h0 a1 "com/example/kinetic_city/kineticcity/engine/TransitNetwork") (F_a1_stopCount : Fld Z h0 a1 "com/example/kinetic_city/kineticcity/engine/TransitNetwork" "stopCount" "I" (.int 0)) (F_a1_lines : Fld Z h0 a1 "com/example/kinetic_city/kineticcity/engine/TransitNetwork" "lines" "Ljava/util/List;" .null) (F_a1_firstSegment : Fld Z h0 a1 "com/example/kinetic_city/kineticcity/engine/TransitNetwork" "firstSegment" "[I" .null) (F_a1_lineOfSegment : Fld Z h0 a1 "com/example/kinetic_city/kineticcity/engine/TransitNetwork" "lineOfSegment" "[I" .null) (F_a1_callStart : Fld Z h0 a1 "com/example/kinetic_city/kineticcity/engine/TransitNetwork" "callStart" "[I" .null) (F_a1_callLine : Fld Z h0 a1 "com/example/kinetic_city/kineticcity/engine/TransitNetwork" "callLine" "[I" .null) (F_a1_callPosition : Fld Z h0 a1 "com/example/kinetic_city/kineticcity/engine/TransitNetwork" "callPosition" "[I" .null) (E_a2 : Exa Z h0 a2 "java/util/ArrayList") (F_a2_modCount : Fld Z h0 a2 "java/util/AbstractList" "modCount" "I" (.int 3)) (F_a2_elementData : Fld Z h0 a2 "java/util/ArrayList" "elementData" "[Ljava/lang/Object;" (.ref ed)) (F_a2_size : Fld Z h0 a2 "java/util/ArrayList" "size" "I" (.int 3)) (V_ed : Arv Z h0 ed ke (.object "java/lang/Object") (10 : Int32) [(.ref l0), (.ref l1), (.ref l2)] .null) (E_ed : Exa Z h0 ed "[Ljava/lang/Object;") (E_l0 : Exa Z h0 l0 "com/example/kinetic_city/kineticcity/engine/TransitLine") (E_l1 : Exa Z h0 l1 "com/example/kinetic_city/kineticcity/engine/TransitLine") (E_l2 : Exa Z h0 l2 "com/example/kinetic_city/kineticcity/engine/TransitLine") (ln_sa : Ln na ea) (al_sa : AllE (.int 1) ea) (F_l0_stops : Fld Z h0 l0 "com/example/kinetic_city/kineticcity/engine/TransitLine" "stops" "[I" (.ref sa)) (V_sa : Arv Z h0 sa kA .int na ea (.int 0)) (ln_sb : Ln nb eb) (al_sb : AllE (.int 1) eb) (F_l1_stops : Fld Z h0 l1 "com/example/kinetic_city/kineticcity/engine/TransitLine" "stops" "[I" (.ref sb)) (V_sb : Arv Z h0 sb kB .int nb eb (.int 0)) (ln_sc : Ln nc ec) (al_sc : AllE (.int 1) ec) (F_l2_stops : Fld Z h0 l2 "com/example/kinetic_city/kineticcity/engine/TransitLine" "stops" "[I" (.ref sc)) (V_sc : Arv Z h0 sc kC .int nc ec (.int 0)) (WW : World1 Z mir_0 mir_1 mir_2 mir_3 wE wD kE kD) {p : Program} {e : Env} {s : State} {m : MethodId} {below : List Frame} {meth : Method} {c : Code} (St : Stp p Z s m meth c prog_23_method_1_code 10 none mq38) :
    ∀ (TJ2 : State) (hJ2 : Heap) (LJ2 : List Loc) (i6 : Int32) (cv5 : Int32) (fs : Addr) (kf : ClassId) (cs : Addr) (kc : ClassId), (Stand p l e ({ frames := 5, cells := 11, slots := 67, locals := 76 } : Room) s m #[(.ref a1), (.int 1), (.ref a2)] below meth c TJ2 LJ2 8 35) → (TJ2.heap = hJ2) → (Old Z n0 hJ2) → (Fr n0 LJ2) → (Keep h0 hJ2 [a1]) → (h0.size ≤ fs) → (h0.size ≤ cs) → (fs ≠ cs) → (Exa Z hJ2 a1 "com/example/kinetic_city/kineticcity/engine/TransitNetwork") → (Fld Z hJ2 a1 "com/example/kinetic_city/kineticcity/engine/TransitNetwork" "firstSegment" "[I" (.ref fs)) → (Fld Z hJ2 a1 "com/example/kinetic_city/kineticcity/engine/TransitNetwork" "callStart" "[I" (.ref cs)) → (Fld Z hJ2 a1 "com/example/kinetic_city/kineticcity/engine/TransitNetwork" "callLine" "[I" .null) → (Fld Z hJ2 a1 "com/example/kinetic_city/kineticcity/engine/TransitNetwork" "callPosition" "[I" .null) → (Arv Z hJ2 fs kf .int (4 : Int32) [(.int (0 : Int32)), (.int (na - (1 : Int32))), (.int (((na - (1 : Int32)) + nb) - (1 : Int32))), (.int (((((na - (1 : Int32)) + nb) - (1 : Int32)) + nc) - (1 : Int32)))] (.int (0 : Int32))) → (Arv Z hJ2 cs kc .int (3 : Int32) [(.int (0 : Int32)), (.int (0 : Int32)), (.int cv5)] (.int (0 : Int32))) → (Cx Z hJ2 a2 ed ke l0 l1 l2 sa kA na ea sb kB nb eb sc kC nc ec) → Go p e below (Done s (fun v h L => v = none ∧ Fr n0 L ∧ Keep h0 h [a1] ∧ Exa Z h a1 "com/example/kinetic_city/kineticcity/engine/TransitNetwork" ∧ ∃ (fs : Addr) (kf : ClassId), Fld Z h a1 "com/example/kinetic_city/kineticcity/engine/TransitNetwork" "firstSegment" "[I" (.ref fs) ∧ Arv Z h fs kf .int (4 : Int32) [(.int (0 : Int32)), (.int (na - (1 : Int32))), (.int (((na - (1 : Int32)) + nb) - (1 : Int32))), (.int (((((na - (1 : Int32)) + nb) - (1 : Int32)) + nc) - (1 : Int32)))] (.int (0 : Int32))) ({ frames := 5, cells := 11, slots := 67, locals := 76 } : Room).cells ({ frames := 5, cells := 11, slots := 67, locals := 76 } : Room).slots) TJ2 (mkF m 362 #[rv a1, iv 1, rv a2, .val (.int ((na + nb) + nc)), iv 3, rv l2, iv i6, .unset, .unset, .unset] []) := by
  obtain ⟨hx, hby, hml, hnm, hlk, hret, hZ, hown⟩ := St
  have N0 := Fr.nil n0
  have D := @hb _ _ hby
  have K0 : Keep h0 h0 [a1] := Keep.refl _ _
  have ⟨M_0, M_1, M_2, M_3, S_wE, E_wE, S_wD, E_wD, V_wE, V_wD⟩ := WW
  have lt_wE := E_wE.lt
  have lt_wD := E_wD.lt
  have z0 : (0 : Int32).toInt = 0 := by decide
  have z1 : (1 : Int32).toInt = 1 := by decide
  obtain ⟨f1, f2, f3, f4⟩ := own_fs ba2 ba5 bb2 bb5 bc2 bc5
  have lt_a1 := E_a1.lt
  have ne_wE_a1 : wE ≠ a1 := O0.ne lt_wE g_a1
  have ne_wD_a1 : wD ≠ a1 := O0.ne lt_wD g_a1
  have lt_a2 := E_a2.lt
  have lt_ed := V_ed.lt
  have lt_l0 := E_l0.lt
  have lt_l1 := E_l1.lt
  have lt_l2 := E_l2.lt
  have lt_sa := V_sa.lt
  have nl_l0 : a1 ≠ l0 := Exa.ne E_a1 E_l0 (by decide)
  have ns_sa : a1 ≠ sa := Exa.neArv E_a1 V_sa (ww hw 100 rfl)
  have lt_sb := V_sb.lt
  have nl_l1 : a1 ≠ l1 := Exa.ne E_a1 E_l1 (by decide)
  have ns_sb : a1 ≠ sb := Exa.neArv E_a1 V_sb (ww hw 100 rfl)
  have lt_sc := V_sc.lt
  have nl_l2 : a1 ≠ l2 := Exa.ne E_a1 E_l2 (by decide)
  have ns_sc : a1 ≠ sc := Exa.neArv E_a1 V_sc (ww hw 100 rfl)
  have n1d : a1 ≠ ed := Exa.neArv E_a1 V_ed (ww hw 100 rfl)
  have cc := own_c12 ba2 ba5 bb2 bb5 bc2 bc5 f3 f4
  obtain ⟨g1, g2, g3, g4, g5, g6, g7⟩ := own_gs ba2 ba5 bb2 bb5 bc2 bc5 f1 f2 f3 f4
  have cx0 : Cx Z h0 a2 ed ke l0 l1 l2 sa kA na ea sb kB nb eb sc kC nc ec := ⟨E_a2, F_a2_modCount, F_a2_elementData, F_a2_size, E_ed, V_ed, E_l0, F_l0_stops, V_sa, E_l1, F_l1_stops, V_sb, E_l2, F_l2_stops, V_sc⟩
  intro TJ2 hJ2 LJ2 i6 cv5 fs kf cs kc XJ2 eJ2 OJ2 NJ2 KJ2 sz_fs sz_cs ne_fs_cs pE pF_firstSegment pF_callStart pF_callLine pF_callPosition pV_fs pV_cs pC
  have lt_a1J := pE.lt
  have lt_fs := pV_fs.lt
  have g_fs : n0 ≤ fs := Nat.le_trans (O0.1 ▸ O0.2.1) sz_fs
  have ne_a1_fs : a1 ≠ fs := Nat.ne_of_lt (ltle lt_a1 sz_fs)
  have ne_a2_fs : a2 ≠ fs := Nat.ne_of_lt (ltle lt_a2 sz_fs)
  have ne_ed_fs : ed ≠ fs := Nat.ne_of_lt (ltle lt_ed sz_fs)
  have ne_l0_fs : l0 ≠ fs := Nat.ne_of_lt (ltle lt_l0 sz_fs)
  have ne_l1_fs : l1 ≠ fs := Nat.ne_of_lt (ltle lt_l1 sz_fs)
  have ne_l2_fs : l2 ≠ fs := Nat.ne_of_lt (ltle lt_l2 sz_fs)
  have ne_sa_fs : sa ≠ fs := Nat.ne_of_lt (ltle lt_sa sz_fs)
  have ne_sb_fs : sb ≠ fs := Nat.ne_of_lt (ltle lt_sb sz_fs)
  have ne_sc_fs : sc ≠ fs := Nat.ne_of_lt (ltle lt_sc sz_fs)
  have lt_cs := pV_cs.lt
  have g_cs : n0 ≤ cs := Nat.le_trans (O0.1 ▸ O0.2.1) sz_cs
  have ne_a1_cs : a1 ≠ cs := Nat.ne_of_lt (ltle lt_a1 sz_cs)
  have ne_a2_cs : a2 ≠ cs := Nat.ne_of_lt (ltle lt_a2 sz_cs)
  have ne_ed_cs : ed ≠ cs := Nat.ne_of_lt (ltle lt_ed sz_cs)
  have ne_l0_cs : l0 ≠ cs := Nat.ne_of_lt (ltle lt_l0 sz_cs)
  have ne_l1_cs : l1 ≠ cs := Nat.ne_of_lt (ltle lt_l1 sz_cs)
  have ne_l2_cs : l2 ≠ cs := Nat.ne_of_lt (ltle lt_l2 sz_cs)
  have ne_sa_cs : sa ≠ cs := Nat.ne_of_lt (ltle lt_sa sz_cs)
  have ne_sb_cs : sb ≠ cs := Nat.ne_of_lt (ltle lt_sb sz_cs)
  have ne_sc_cs : sc ≠ cs := Nat.ne_of_lt (ltle lt_sc sz_cs)
  refine zan 363 XJ2 hx (D d14_362) rfl rfl ?_
  refine zin 364 XJ2 hx (D d14_363) rfl ?_
  obtain ⟨T3, h3, kc3, X3, e3, E3, A3, st3⟩ := newP XJ2 hx hZ (ww hw 33 rfl) eJ2 (g := (mkF m 364 #[rv a1, iv 1, rv a2, .val (.int ((na + nb) + nc)), iv 3, rv l2, iv i6, .unset, .unset, .unset] [(.int ((na + nb) + nc)), (.ref a1)])) rfl (D d14_364) rfl cc.2.1 (cap := 15) cc.2.2 (by decide) (by decide) (by decide)
  obtain ⟨b3, g3⟩ : ∃ z, z = hJ2.size := ⟨_, rfl⟩
  rw [← g3] at A3 st3
  have ne_a2_b3 : a2 ≠ b3 := Nat.ne_of_lt (lteq pC.1.lt g3.symm)
  have ne_ed_b3 : ed ≠ b3 := Nat.ne_of_lt (lteq pC.2.2.2.2.1.lt g3.symm)
  have ne_l0_b3 : l0 ≠ b3 := Nat.ne_of_lt (lteq pC.2.2.2.2.2.2.1.lt g3.symm)
  have ne_l1_b3 : l1 ≠ b3 := Nat.ne_of_lt (lteq pC.2.2.2.2.2.2.2.2.2.1.lt g3.symm)
  have ne_l2_b3 : l2 ≠ b3 := Nat.ne_of_lt (lteq pC.2.2.2.2.2.2.2.2.2.2.2.2.1.lt g3.symm)
  have ne_sa_b3 : sa ≠ b3 := Nat.ne_of_lt (lteq pC.2.2.2.2.2.2.2.2.1.lt g3.symm)
  have ne_sb_b3 : sb ≠ b3 := Nat.ne_of_lt (lteq pC.2.2.2.2.2.2.2.2.2.2.2.1.lt g3.symm)
  have ne_sc_b3 : sc ≠ b3 := Nat.ne_of_lt (lteq pC.2.2.2.2.2.2.2.2.2.2.2.2.2.2.lt g3.symm)
  have ne_a1_b3 : a1 ≠ b3 := Nat.ne_of_lt (lteq lt_a1J g3.symm)
  have ne_fs_b3 : fs ≠ b3 := Nat.ne_of_lt (lteq lt_fs g3.symm)
  have ne_cs_b3 : cs ≠ b3 := Nat.ne_of_lt (lteq lt_cs g3.symm)
  have ne_wE_b3 : wE ≠ b3 := Nat.ne_of_lt (ltle lt_wE (Nat.le_trans OJ2.2.1 (Nat.le_of_eq g3.symm)))
  have ne_wD_b3 : wD ≠ b3 := Nat.ne_of_lt (ltle lt_wD (Nat.le_trans OJ2.2.1 (Nat.le_of_eq g3.symm)))
  have g_b3 : n0 ≤ b3 := Nat.le_trans (OJ2.1 ▸ OJ2.2.1) (Nat.le_of_eq g3.symm)
  have O3 : Old Z n0 h3 := OJ2.ext E3
  have sz_b3 : h0.size ≤ b3 := Nat.le_trans KJ2.1 (Nat.le_of_eq g3.symm)
  have K3 : Keep h0 h3 [a1] := KJ2.ext E3
  have I_b3 : Ia Z h3 b3 ((na + nb) + nc) := Ia.new A3 cc.2.1
  have lt_b3 := A3.lt
  refine zst 366 #[rv a1, iv 1, rv a2, .val (.int ((na + nb) + nc)), iv 3, rv l2, iv i6, .unset, .unset, .unset] [(.ref b3), (.ref a1)] st3 ?_
  have ft4 := (pE.ext E3)
  have ft5 := (pF_callLine.ext E3)
  obtain ⟨T6, h6, X6, e6, W6, st6⟩ := putF X3 hx hZ hown (host := "") (Or.inl (ww hw 291 rfl)) Via.refl e3 ft5 ft4 (Or.inr ⟨(ww hw 292 rfl), rfl, hnm⟩) (ww hw 100 rfl) (ty := (.array .int)) (by decide) rfl rfl (g := (mkF m 366 #[rv a1, iv 1, rv a2, .val (.int ((na + nb) + nc)), iv 3, rv l2, iv i6, .unset, .unset, .unset] [(.ref b3), (.ref a1)])) rfl rfl (D d14_366)
  have N6 := Fr.snoc X6 NJ2 g_a1
  have O6 : Old Z n0 h6 := O3.wr W6 g_a1
  have K6 : Keep h0 h6 [a1] := K3.wr W6 (Or.inl (List.mem_of_getElem? (i := 0) rfl))
  have Fw6 := ft5.same W6
  refine zst 369 #[rv a1, iv 1, rv a2, .val (.int ((na + nb) + nc)), iv 3, rv l2, iv i6, .unset, .unset, .unset] [] st6 ?_
  refine zan 370 X6 hx (D d14_369) rfl rfl ?_
  refine zin 371 X6 hx (D d14_370) rfl ?_
  obtain ⟨T7, h7, kc7, X7, e7, E7, A7, st7⟩ := newP X6 hx hZ (ww hw 33 rfl) e6 (g := (mkF m 371 #[rv a1, iv 1, rv a2, .val (.int ((na + nb) + nc)), iv 3, rv l2, iv i6, .unset, .unset, .unset] [(.int ((na + nb) + nc)), (.ref a1)])) rfl (D d14_371) rfl cc.2.1 (cap := 15) cc.2.2 (by decide) (by decide) (by decide)
  obtain ⟨b7, g7⟩ : ∃ z, z = h6.size := ⟨_, rfl⟩
  rw [← g7] at A7 st7
  have ft8 := (Cx.wr (Cx.ext pC E3) W6 (Ne.symm ne12) (Ne.symm n1d) (Ne.symm nl_l0) (Ne.symm nl_l1) (Ne.symm nl_l2) (Ne.symm ns_sa) (Ne.symm ns_sb) (Ne.symm ns_sc))
  have ne_a2_b7 : a2 ≠ b7 := Nat.ne_of_lt (lteq ft8.1.lt g7.symm)
  have ne_ed_b7 : ed ≠ b7 := Nat.ne_of_lt (lteq ft8.2.2.2.2.1.lt g7.symm)
  have ne_l0_b7 : l0 ≠ b7 := Nat.ne_of_lt (lteq ft8.2.2.2.2.2.2.1.lt g7.symm)
  have ne_l1_b7 : l1 ≠ b7 := Nat.ne_of_lt (lteq ft8.2.2.2.2.2.2.2.2.2.1.lt g7.symm)
  have ne_l2_b7 : l2 ≠ b7 := Nat.ne_of_lt (lteq ft8.2.2.2.2.2.2.2.2.2.2.2.2.1.lt g7.symm)
  have ne_sa_b7 : sa ≠ b7 := Nat.ne_of_lt (lteq ft8.2.2.2.2.2.2.2.2.1.lt g7.symm)
  have ne_sb_b7 : sb ≠ b7 := Nat.ne_of_lt (lteq ft8.2.2.2.2.2.2.2.2.2.2.2.1.lt g7.symm)
  have ne_sc_b7 : sc ≠ b7 := Nat.ne_of_lt (lteq ft8.2.2.2.2.2.2.2.2.2.2.2.2.2.2.lt g7.symm)
  have ft9 := (lteq (ltle lt_a1J E3.1) W6.size.symm)
  have ne_a1_b7 : a1 ≠ b7 := Nat.ne_of_lt (lteq ft9 g7.symm)
  have ft10 := (lteq (ltle lt_fs E3.1) W6.size.symm)
  have ne_fs_b7 : fs ≠ b7 := Nat.ne_of_lt (lteq ft10 g7.symm)
  have ft11 := (lteq (ltle lt_cs E3.1) W6.size.symm)
  have ne_cs_b7 : cs ≠ b7 := Nat.ne_of_lt (lteq ft11 g7.symm)
  have ft12 := (lteq lt_b3 W6.size.symm)
  have ne_b3_b7 : b3 ≠ b7 := Nat.ne_of_lt (lteq ft12 g7.symm)
  have ne_wE_b7 : wE ≠ b7 := Nat.ne_of_lt (ltle lt_wE (Nat.le_trans O6.2.1 (Nat.le_of_eq g7.symm)))
  have ne_wD_b7 : wD ≠ b7 := Nat.ne_of_lt (ltle lt_wD (Nat.le_trans O6.2.1 (Nat.le_of_eq g7.symm)))
  have g_b7 : n0 ≤ b7 := Nat.le_trans (O6.1 ▸ O6.2.1) (Nat.le_of_eq g7.symm)
  have O7 : Old Z n0 h7 := O6.ext E7
  have sz_b7 : h0.size ≤ b7 := Nat.le_trans K6.1 (Nat.le_of_eq g7.symm)
  have K7 : Keep h0 h7 [a1] := K6.ext E7
  have I_b7 : Ia Z h7 b7 ((na + nb) + nc) := Ia.new A7 cc.2.1
  have lt_b7 := A7.lt
  refine zst 373 #[rv a1, iv 1, rv a2, .val (.int ((na + nb) + nc)), iv 3, rv l2, iv i6, .unset, .unset, .unset] [(.ref b7), (.ref a1)] st7 ?_
  have ft13 := ((ft4.wr W6).ext E7)
  have ft14 := (((pF_callPosition.ext E3).other W6 (Or.inr (slot_ne (Or.inr (ww hw 294 rfl)) (Or.inr (ww hw 292 rfl)) (by decide) (t := (.array .int)) (t' := (.array .int)) (by decide) (by decide)))).ext E7)
  obtain ⟨T15, h15, X15, e15, W15, st15⟩ := putF X7 hx hZ hown (host := "") (Or.inl (ww hw 293 rfl)) Via.refl e7 ft14 ft13 (Or.inr ⟨(ww hw 294 rfl), rfl, hnm⟩) (ww hw 100 rfl) (ty := (.array .int)) (by decide) rfl rfl (g := (mkF m 373 #[rv a1, iv 1, rv a2, .val (.int ((na + nb) + nc)), iv 3, rv l2, iv i6, .unset, .unset, .unset] [(.ref b7), (.ref a1)])) rfl rfl (D d14_373)
  have N15 := Fr.snoc X15 N6 g_a1
  have O15 : Old Z n0 h15 := O7.wr W15 g_a1
  have K15 : Keep h0 h15 [a1] := K7.wr W15 (Or.inl (List.mem_of_getElem? (i := 0) rfl))
  have Fw15 := ft14.same W15
  refine zst 376 #[rv a1, iv 1, rv a2, .val (.int ((na + nb) + nc)), iv 3, rv l2, iv i6, .unset, .unset, .unset] [] st15 ?_
  refine zin 377 X15 hx (D d14_376) rfl ?_
  refine zic 378 1 X15 hx (D d14_377) ?_
  refine Go.st (f' := (mkF m 379 #[rv a1, iv 1, rv a2, .val (.int ((na + nb) + nc)), iv 3, rv l2, iv i6, .unset, .unset, .unset] [(.int 2)])) (fun _ k => XS.iadd X15.here hx rfl (D d14_378) rfl k) ?_
  obtain ⟨T16, h16, kc16, X16, e16, E16, A16, st16⟩ := newP X15 hx hZ (ww hw 33 rfl) e15 (g := (mkF m 379 #[rv a1, iv 1, rv a2, .val (.int ((na + nb) + nc)), iv 3, rv l2, iv i6, .unset, .unset, .unset] [(.int 2)])) rfl (D d14_379) rfl (by decide) (cap := 2) (by decide) (by decide) (by decide) (by decide)
  obtain ⟨b16, g16⟩ : ∃ z, z = h15.size := ⟨_, rfl⟩
  rw [← g16] at A16 st16
  have ft17 := (Cx.wr (Cx.ext ft8 E7) W15 (Ne.symm ne12) (Ne.symm n1d) (Ne.symm nl_l0) (Ne.symm nl_l1) (Ne.symm nl_l2) (Ne.symm ns_sa) (Ne.symm ns_sb) (Ne.symm ns_sc))
  have ne_a2_b16 : a2 ≠ b16 := Nat.ne_of_lt (lteq ft17.1.lt g16.symm)
  have ne_ed_b16 : ed ≠ b16 := Nat.ne_of_lt (lteq ft17.2.2.2.2.1.lt g16.symm)
  have ne_l0_b16 : l0 ≠ b16 := Nat.ne_of_lt (lteq ft17.2.2.2.2.2.2.1.lt g16.symm)
  have ne_l1_b16 : l1 ≠ b16 := Nat.ne_of_lt (lteq ft17.2.2.2.2.2.2.2.2.2.1.lt g16.symm)
  have ne_l2_b16 : l2 ≠ b16 := Nat.ne_of_lt (lteq ft17.2.2.2.2.2.2.2.2.2.2.2.2.1.lt g16.symm)
  have ne_sa_b16 : sa ≠ b16 := Nat.ne_of_lt (lteq ft17.2.2.2.2.2.2.2.2.1.lt g16.symm)
  have ne_sb_b16 : sb ≠ b16 := Nat.ne_of_lt (lteq ft17.2.2.2.2.2.2.2.2.2.2.2.1.lt g16.symm)
  have ne_sc_b16 : sc ≠ b16 := Nat.ne_of_lt (lteq ft17.2.2.2.2.2.2.2.2.2.2.2.2.2.2.lt g16.symm)
  have ft18 := (lteq (ltle ft9 E7.1) W15.size.symm)
  have ne_a1_b16 : a1 ≠ b16 := Nat.ne_of_lt (lteq ft18 g16.symm)
  have ft19 := (lteq (ltle ft10 E7.1) W15.size.symm)
  have ne_fs_b16 : fs ≠ b16 := Nat.ne_of_lt (lteq ft19 g16.symm)
  have ft20 := (lteq (ltle ft11 E7.1) W15.size.symm)
  have ne_cs_b16 : cs ≠ b16 := Nat.ne_of_lt (lteq ft20 g16.symm)
  have ft21 := (lteq (ltle ft12 E7.1) W15.size.symm)
  have ne_b3_b16 : b3 ≠ b16 := Nat.ne_of_lt (lteq ft21 g16.symm)
  have ft22 := (lteq lt_b7 W15.size.symm)
  have ne_b7_b16 : b7 ≠ b16 := Nat.ne_of_lt (lteq ft22 g16.symm)
  have ne_wE_b16 : wE ≠ b16 := Nat.ne_of_lt (ltle lt_wE (Nat.le_trans O15.2.1 (Nat.le_of_eq g16.symm)))
  have ne_wD_b16 : wD ≠ b16 := Nat.ne_of_lt (ltle lt_wD (Nat.le_trans O15.2.1 (Nat.le_of_eq g16.symm)))
  have g_b16 : n0 ≤ b16 := Nat.le_trans (O15.1 ▸ O15.2.1) (Nat.le_of_eq g16.symm)
  have O16 : Old Z n0 h16 := O15.ext E16
  have sz_b16 : h0.size ≤ b16 := Nat.le_trans K15.1 (Nat.le_of_eq g16.symm)
  have K16 : Keep h0 h16 [a1] := K15.ext E16
  have V_b16 : Arv Z h16 b16 kc16 .int (2 : Int32) [(.int (0 : Int32)), (.int (0 : Int32))] (.int (0 : Int32)) := (Arv.new A16 (by decide)).pad (pad_rep [] (.int (0 : Int32)) 2)
  have lt_b16 := V_b16.lt
  refine zst 381 #[rv a1, iv 1, rv a2, .val (.int ((na + nb) + nc)), iv 3, rv l2, iv i6, .unset, .unset, .unset] [(.ref b16)] st16 ?_
  refine zrl 383 #[rv a1, iv 1, rv a2, .val (.int ((na + nb) + nc)), rv b16, rv l2, iv i6, .unset, .unset, .unset] X16 hx (D d14_381) rfl ?_
  refine zic 384 0 X16 hx (D d14_383) ?_
  refine zsl 386 #[rv a1, iv 1, rv a2, .val (.int ((na + nb) + nc)), rv b16, iv 0, iv i6, .unset, .unset, .unset] X16 hx (D d14_384) ?_
  refine zil 388 X16 hx (D d14_386) rfl ?_
  refine zan 389 X16 hx (D d14_388) rfl rfl ?_
  have ft24 := (Cx.ext ft17 E16)
  refine gI 394 1 11 67 X16 N15 hx hZ (y := mq18) (xi := mq39) hown hml (ww hw 250 rfl) (ww hw 251 rfl) (ww hw 252 rfl) (ww hw 253 rfl) (ww hw 254 rfl) (ww hw 255 rfl) (ww hw 256 rfl) (ww hw 113 rfl) (rmSz l Z a0 hw [] a2 ed ke l0 l1 l2 h16 n0 O16 ft24.1 ft24.2.1 ft24.2.2.1 ft24.2.2.2.1 ft24.2.2.2.2.2.1) (ww hw 257 rfl) (ww hw 2 rfl) e16 ft24.1 [] [(.int 0)] (lenOf pd___I rfl) (D d14_389) ?_
  rintro T23 L23 M23 _ X23 uu23 ⟨rfl, Nq23, kq23⟩
  have N23 := uu23 Nq23
  refine zsk [(.int 3), (.int 0)] ?_
  refine zcn 397 X23 hx (D d14_394) (by decide) ?_
  refine zan 398 X23 hx (D d14_397) rfl rfl ?_
  refine zil 400 X23 hx (D d14_398) rfl ?_
  refine gI 405 0 11 67 X23 N23 hx hZ (y := mq22) (xi := mq40) hown hml (ww hw 260 rfl) (ww hw 261 rfl) (ww hw 262 rfl) (ww hw 263 rfl) (ww hw 264 rfl) (ww hw 265 rfl) (ww hw 266 rfl) (ww hw 113 rfl) (rmGt0 l Z a0 hw [] a2 ed ke l0 l1 l2 h16 n0 O16 ft24.1 ft24.2.1 ft24.2.2.1 ft24.2.2.2.1 ft24.2.2.2.2.2.1) (ww hw 267 rfl) (ww hw 2 rfl) kq23 ft24.1 [(.int 0)] [] (lenOf pd__I_Ljava_lang_Object_ rfl) (D d14_400) ?_
  rintro T25 L25 M25 _ X25 uu25 ⟨rfl, Nq25, kq25⟩
  have N25 := uu25 Nq25
  refine zsk [(.ref l0)] ?_
  obtain ⟨T26, X26, e26, st26⟩ := castY X25 hx hZ hown (ww hw 156 rfl) kq25 (Ins.self ft24.2.2.2.2.2.2.1) (g := (mkF m 405 #[rv a1, iv 1, rv a2, .val (.int ((na + nb) + nc)), rv b16, iv 0, iv i6, .unset, .unset, .unset] [(.ref l0)])) rfl rfl (D d14_405)
  refine zst 408 #[rv a1, iv 1, rv a2, .val (.int ((na + nb) + nc)), rv b16, iv 0, iv i6, .unset, .unset, .unset] [(.ref l0)] st26 ?_
  refine zrl 410 #[rv a1, iv 1, rv a2, .val (.int ((na + nb) + nc)), rv b16, iv 0, rv l0, .unset, .unset, .unset] X26 hx (D d14_408) rfl ?_
  refine zic 411 0 X26 hx (D d14_410) ?_
  refine zsl 413 #[rv a1, iv 1, rv a2, .val (.int ((na + nb) + nc)), rv b16, iv 0, rv l0, iv 0, .unset, .unset] X26 hx (D d14_411) ?_
  obtain ⟨k0, k1, k2, k3, k4, k5, k6, k7, k8⟩ := own_ks ba2 bb2 bc2 f4
  refine zil 415 X26 hx (D d14_413) rfl ?_
  refine zal 417 X26 hx (D d14_415) rfl rfl ?_
  refine gV 420 1 11 67 X26 N25 hx hZ (y := mq34) hown hml (ww hw 158 rfl) (ww hw 159 rfl) (ww hw 161 rfl) (ww hw 160 rfl) (rmSc l Z a0 hw [] l0 sa kA na ea h16 n0 O16 ft24.2.2.2.2.2.2.1 ft24.2.2.2.2.2.2.2.1 ft24.2.2.2.2.2.2.2.2.1) (ww hw 162 rfl) (ww hw 32 rfl) e26 ft24.2.2.2.2.2.2.1 [] [(.int 0)] (lenOf pd___I rfl) (D d14_417) ?_
  rintro T27 L27 M27 _ X27 uu27 ⟨rfl, Nq27, kq27⟩
  have N27 := uu27 Nq27
  refine zsk [(.int na), (.int 0)] ?_
  refine zcn 423 X27 hx (D d14_420) (tlt (lpP ba2)).2.1 ?_
  refine zal 425 X27 hx (D d14_423) rfl rfl ?_
  refine zil 427 X27 hx (D d14_425) rfl ?_
  refine gV 430 0 11 67 X27 N27 hx hZ (y := mq35) hown hml (ww hw 163 rfl) (ww hw 164 rfl) (ww hw 166 rfl) (ww hw 165 rfl) (rmSa l Z a0 hw [] l0 sa kA na ea (0 : Int32) h16 n0 O16 ln_sa al_sa (by decide) (lpP ba2) ft24.2.2.2.2.2.2.1 ft24.2.2.2.2.2.2.2.1 ft24.2.2.2.2.2.2.2.2.1) (ww hw 167 rfl) (ww hw 32 rfl) kq27 ft24.2.2.2.2.2.2.1 [(.int 0)] [] (lenOf pd__I_I rfl) (D d14_427) ?_
  rintro T28 L28 M28 _ X28 uu28 ⟨rfl, Nq28, kq28⟩
  have N28 := uu28 Nq28
  refine zsk [(.int 1)] ?_
  refine zsl 432 #[rv a1, iv 1, rv a2, .val (.int ((na + nb) + nc)), rv b16, iv 0, rv l0, iv 0, iv 1, .unset] X28 hx (D d14_430) ?_
  refine zan 433 X28 hx (D d14_432) rfl rfl ?_
  have ft29 := (((((pF_callStart.ext E3).other W6 (Or.inr (slot_ne (Or.inr (ww hw 290 rfl)) (Or.inr (ww hw 292 rfl)) (by decide) (t := (.array .int)) (t' := (.array .int)) (by decide) (by decide)))).ext E7).other W15 (Or.inr (slot_ne (Or.inr (ww hw 290 rfl)) (Or.inr (ww hw 294 rfl)) (by decide) (t := (.array .int)) (t' := (.array .int)) (by decide) (by decide)))).ext E16)
  refine zgf 436 X28 hx hZ hown (host := "") (Or.inl (ww hw 289 rfl)) Via.refl kq28 ft29 (D d14_433) fun T30 X30 e30 => ?_
  refine zil 438 X30 hx (D d14_436) rfl ?_
  have ft32 := (((((pV_cs.ext E3).other W6 (Ne.symm ne_a1_cs)).ext E7).other W15 (Ne.symm ne_a1_cs)).ext E16)
  obtain ⟨cl31, Ar31, -, S31, -, H31, -⟩ := id ft32
  have hin31 : ¬ ((1 : Int32) < 0 ∨ cl31.slots.size ≤ ((1 : Int32)).toNatClampNeg) := inb_of S31 ⟨by decide, by decide⟩
  have hat31 : cl31.slots[((1 : Int32)).toNatClampNeg]? = some (.int (0 : Int32)) := H31.at hin31 rfl
  refine Go.st (f' := (mkF m 439 #[rv a1, iv 1, rv a2, .val (.int ((na + nb) + nc)), rv b16, iv 0, rv l0, iv 0, iv 1, .unset] [(.int 0)])) (fun _ k => X30.iaload hx (j := (1 : Int32)) (v := (.int (0 : Int32))) (by rw [e30]; exact Ar31.1) (State.isArrayOf_alike hZ.alike Ar31.2.1) Ar31.2.2 hin31 hat31 (g := (mkF m 438 #[rv a1, iv 1, rv a2, .val (.int ((na + nb) + nc)), rv b16, iv 0, rv l0, iv 0, iv 1, .unset] [(.int 1), (.ref cs)])) rfl rfl (D d14_438) _ k) ?_
  refine zal 441 X30 hx (D d14_439) rfl rfl ?_
  refine zil 443 X30 hx (D d14_441) rfl ?_
  obtain ⟨cl33, Ar33, -, S33, -, H33, -⟩ := id V_b16
  have hin33 : ¬ ((1 : Int32) < 0 ∨ cl33.slots.size ≤ ((1 : Int32)).toNatClampNeg) := inb_of S33 ⟨by decide, by decide⟩
  have hat33 : cl33.slots[((1 : Int32)).toNatClampNeg]? = some (.int (0 : Int32)) := H33.at hin33 rfl
  refine Go.st (f' := (mkF m 444 #[rv a1, iv 1, rv a2, .val (.int ((na + nb) + nc)), rv b16, iv 0, rv l0, iv 0, iv 1, .unset] [(.int 0), (.int 0)])) (fun _ k => X30.iaload hx (j := (1 : Int32)) (v := (.int (0 : Int32))) (by rw [e30]; exact Ar33.1) (State.isArrayOf_alike hZ.alike Ar33.2.1) Ar33.2.2 hin33 hat33 (g := (mkF m 443 #[rv a1, iv 1, rv a2, .val (.int ((na + nb) + nc)), rv b16, iv 0, rv l0, iv 0, iv 1, .unset] [(.int 1), (.ref b16), (.int 0)])) rfl rfl (D d14_443) _ k) ?_
  refine Go.st (f' := (mkF m 445 #[rv a1, iv 1, rv a2, .val (.int ((na + nb) + nc)), rv b16, iv 0, rv l0, iv 0, iv 1, .unset] [(.int 0)])) (fun _ k => XS.iadd X30.here hx rfl (D d14_444) rfl k) ?_
  refine zsl 447 #[rv a1, iv 1, rv a2, .val (.int ((na + nb) + nc)), rv b16, iv 0, rv l0, iv 0, iv 1, iv 0] X30 hx (D d14_445) ?_
  refine zan 448 X30 hx (D d14_447) rfl rfl ?_
  have ft34 := (((Fw6.ext E7).other W15 (Or.inr (slot_ne (Or.inr (ww hw 292 rfl)) (Or.inr (ww hw 294 rfl)) (by decide) (t := (.array .int)) (t' := (.array .int)) (by decide) (by decide)))).ext E16)
  refine zgf 451 X30 hx hZ hown (host := "") (Or.inl (ww hw 291 rfl)) Via.refl e30 ft34 (D d14_448) fun T35 X35 e35 => ?_
  refine zil 453 X35 hx (D d14_451) rfl ?_
  refine zil 455 X35 hx (D d14_453) rfl ?_
  have ft37 := (Ia.ext (Ia.other (Ia.ext (Ia.other I_b3 W6 (Ne.symm ne_a1_b3)) E7) W15 (Ne.symm ne_a1_b3)) E16)
  obtain ⟨cl36, Ar36, S36, Nx36, H36⟩ := id ft37
  have hin36 := inb_of S36 ⟨(by decide), k6⟩
  obtain ⟨T38, h38, X38, e38, W38, st38⟩ := stI X35 hx hZ e35 Ar36 (j := (0 : Int32)) hin36 (g := (mkF m 455 #[rv a1, iv 1, rv a2, .val (.int ((na + nb) + nc)), rv b16, iv 0, rv l0, iv 0, iv 1, iv 0] [(.int 0), (.int 0), (.ref b3)])) rfl rfl (D d14_455)
  have I_b3_38 : Ia Z h38 b3 ((na + nb) + nc) := Ia.set Ar36 S36 Nx36 H36 hin36 W38
  have N38 := Fr.snoc X38 N28 g_b3
  have O38 : Old Z n0 h38 := O16.wr W38 g_b3
  have K38 : Keep h0 h38 [a1] := K16.wr W38 (Or.inr sz_b3)
  refine zst 456 #[rv a1, iv 1, rv a2, .val (.int ((na + nb) + nc)), rv b16, iv 0, rv l0, iv 0, iv 1, iv 0] [] st38 ?_
  refine zan 457 X38 hx (D d14_456) rfl rfl ?_
  have ft39 := ((Fw15.ext E16).other W38 (Or.inl ne_a1_b3))
  refine zgf 460 X38 hx hZ hown (host := "") (Or.inl (ww hw 293 rfl)) Via.refl e38 ft39 (D d14_457) fun T40 X40 e40 => ?_
  refine zil 462 X40 hx (D d14_460) rfl ?_
  refine zil 464 X40 hx (D d14_462) rfl ?_
  have ft42 := (Ia.other (Ia.ext (Ia.other I_b7 W15 (Ne.symm ne_a1_b7)) E16) W38 (Ne.symm ne_b3_b7))
  obtain ⟨cl41, Ar41, S41, Nx41, H41⟩ := id ft42
  have hin41 := inb_of S41 ⟨(by decide), k6⟩
  obtain ⟨T43, h43, X43, e43, W43, st43⟩ := stI X40 hx hZ e40 Ar41 (j := (0 : Int32)) hin41 (g := (mkF m 464 #[rv a1, iv 1, rv a2, .val (.int ((na + nb) + nc)), rv b16, iv 0, rv l0, iv 0, iv 1, iv 0] [(.int 0), (.int 0), (.ref b7)])) rfl rfl (D d14_464)
  have I_b7_43 : Ia Z h43 b7 ((na + nb) + nc) := Ia.set Ar41 S41 Nx41 H41 hin41 W43
  have N43 := Fr.snoc X43 N38 g_b7
  have O43 : Old Z n0 h43 := O38.wr W43 g_b7
  have K43 : Keep h0 h43 [a1] := K38.wr W43 (Or.inr sz_b7)
  refine zst 465 #[rv a1, iv 1, rv a2, .val (.int ((na + nb) + nc)), rv b16, iv 0, rv l0, iv 0, iv 1, iv 0] [] st43 ?_
  refine zal 467 X43 hx (D d14_465) rfl rfl ?_
  refine zil 469 X43 hx (D d14_467) rfl ?_
  refine Go.st (f' := (mkF m 470 #[rv a1, iv 1, rv a2, .val (.int ((na + nb) + nc)), rv b16, iv 0, rv l0, iv 0, iv 1, iv 0] [(.int 1), (.ref b16), (.int 1), (.ref b16)])) (fun _ k => XT.dup2 X43.here hx rfl (D d14_469) rfl rfl rfl k) ?_
  have ft45 := ((V_b16.other W38 (Ne.symm ne_b3_b16)).other W43 (Ne.symm ne_b7_b16))
  obtain ⟨cl44, Ar44, -, S44, -, H44, -⟩ := id ft45
  have hin44 : ¬ ((1 : Int32) < 0 ∨ cl44.slots.size ≤ ((1 : Int32)).toNatClampNeg) := inb_of S44 ⟨by decide, by decide⟩
  have hat44 : cl44.slots[((1 : Int32)).toNatClampNeg]? = some (.int (0 : Int32)) := H44.at hin44 rfl
  refine Go.st (f' := (mkF m 471 #[rv a1, iv 1, rv a2, .val (.int ((na + nb) + nc)), rv b16, iv 0, rv l0, iv 0, iv 1, iv 0] [(.int 0), (.int 1), (.ref b16)])) (fun _ k => X43.iaload hx (j := (1 : Int32)) (v := (.int (0 : Int32))) (by rw [e43]; exact Ar44.1) (State.isArrayOf_alike hZ.alike Ar44.2.1) Ar44.2.2 hin44 hat44 (g := (mkF m 470 #[rv a1, iv 1, rv a2, .val (.int ((na + nb) + nc)), rv b16, iv 0, rv l0, iv 0, iv 1, iv 0] [(.int 1), (.ref b16), (.int 1), (.ref b16)])) rfl rfl (D d14_470) _ k) ?_
  refine zic 472 1 X43 hx (D d14_471) ?_
  refine Go.st (f' := (mkF m 473 #[rv a1, iv 1, rv a2, .val (.int ((na + nb) + nc)), rv b16, iv 0, rv l0, iv 0, iv 1, iv 0] [(.int 1), (.int 1), (.ref b16)])) (fun _ k => XS.iadd X43.here hx rfl (D d14_472) rfl k) ?_
  obtain ⟨cl46, Ar46, q46, S46, Nx46, H46, G46⟩ := id ft45
  have hin46 : ¬ ((1 : Int32) < 0 ∨ cl46.slots.size ≤ ((1 : Int32)).toNatClampNeg) := inb_of S46 ⟨by decide, by decide⟩
  obtain ⟨T47, h47, X47, e47, W47, st47⟩ := stI X43 hx hZ e43 Ar46 (j := (1 : Int32)) hin46 (g := (mkF m 473 #[rv a1, iv 1, rv a2, .val (.int ((na + nb) + nc)), rv b16, iv 0, rv l0, iv 0, iv 1, iv 0] [(.int 1), (.int 1), (.ref b16)])) rfl rfl (D d14_473)
  have V_b16_47 : Arv Z h47 b16 kc16 .int (2 : Int32) [(.int (0 : Int32)), (.int (1 : Int32))] (.int (0 : Int32)) := Arv.set Ar46 q46 S46 Nx46 H46 G46 rfl W47 1 rfl (Nat.le_of_ble_eq_true rfl)
  have N47 := Fr.snoc X47 N43 g_b16
  have O47 : Old Z n0 h47 := O43.wr W47 g_b16
  have K47 : Keep h0 h47 [a1] := K43.wr W47 (Or.inr sz_b16)
  refine zst 474 #[rv a1, iv 1, rv a2, .val (.int ((na + nb) + nc)), rv b16, iv 0, rv l0, iv 0, iv 1, iv 0] [] st47 ?_
  refine zii 477 #[rv a1, iv 1, rv a2, .val (.int ((na + nb) + nc)), rv b16, iv 0, rv l0, iv 1, iv 1, iv 0] X47 hx (D d14_474) rfl ?_
  refine zgo 413 X47 hx (D d14_477) ?_
  have LEl0 : ∀ (fuel : Nat) (TJ48 : State) (hJ48 : Heap) (LJ48 : List Loc) (i : Int32) (fl0 : Int32) (dl0 : Int32), (Stand p l e ({ frames := 5, cells := 11, slots := 67, locals := 76 } : Room) s m #[(.ref a1), (.int 1), (.ref a2)] below meth c TJ48 LJ48 11 67) → (TJ48.heap = hJ48) → (Old Z n0 hJ48) → (Fr n0 LJ48) → (Keep h0 hJ48 [a1]) → (Exa Z hJ48 a1 "com/example/kinetic_city/kineticcity/engine/TransitNetwork") → (a1 < hJ48.size) → (Cx Z hJ48 a2 ed ke l0 l1 l2 sa kA na ea sb kB nb eb sc kC nc ec) → (Fld Z hJ48 a1 "com/example/kinetic_city/kineticcity/engine/TransitNetwork" "firstSegment" "[I" (.ref fs)) → (Fld Z hJ48 a1 "com/example/kinetic_city/kineticcity/engine/TransitNetwork" "callStart" "[I" (.ref cs)) → (Fld Z hJ48 a1 "com/example/kinetic_city/kineticcity/engine/TransitNetwork" "callLine" "[I" (.ref b3)) → (Fld Z hJ48 a1 "com/example/kinetic_city/kineticcity/engine/TransitNetwork" "callPosition" "[I" (.ref b7)) → (Arv Z hJ48 fs kf .int (4 : Int32) [(.int (0 : Int32)), (.int (na - (1 : Int32))), (.int (((na - (1 : Int32)) + nb) - (1 : Int32))), (.int (((((na - (1 : Int32)) + nb) - (1 : Int32)) + nc) - (1 : Int32)))] (.int (0 : Int32))) → (fs < hJ48.size) → (Arv Z hJ48 cs kc .int (3 : Int32) [(.int (0 : Int32)), (.int (0 : Int32)), (.int cv5)] (.int (0 : Int32))) → (cs < hJ48.size) → (Ia Z hJ48 b3 ((na + nb) + nc)) → (b3 < hJ48.size) → (Ia Z hJ48 b7 ((na + nb) + nc)) → (b7 < hJ48.size) → (Arv Z hJ48 b16 kc16 .int (2 : Int32) [(.int (0 : Int32)), (.int fl0)] (.int (0 : Int32))) → (b16 < hJ48.size) → (((1 : Nat) : Int) ≤ i.toInt) → (i.toInt + (fuel : Int) = na.toInt) → (fl0.toInt = 0 + i.toInt) → Go p e below (Done s (fun v h L => v = none ∧ Fr n0 L ∧ Keep h0 h [a1] ∧ Exa Z h a1 "com/example/kinetic_city/kineticcity/engine/TransitNetwork" ∧ ∃ (fs : Addr) (kf : ClassId), Fld Z h a1 "com/example/kinetic_city/kineticcity/engine/TransitNetwork" "firstSegment" "[I" (.ref fs) ∧ Arv Z h fs kf .int (4 : Int32) [(.int (0 : Int32)), (.int (na - (1 : Int32))), (.int (((na - (1 : Int32)) + nb) - (1 : Int32))), (.int (((((na - (1 : Int32)) + nb) - (1 : Int32)) + nc) - (1 : Int32)))] (.int (0 : Int32))) ({ frames := 5, cells := 11, slots := 67, locals := 76 } : Room).cells ({ frames := 5, cells := 11, slots := 67, locals := 76 } : Room).slots) TJ48 (mkF m 413 #[rv a1, iv 1, rv a2, .val (.int ((na + nb) + nc)), rv b16, iv 0, rv l0, iv i, iv 1, iv dl0] []) := by
   intro fuel
   induction fuel with
   | zero =>
    intro TJ48 hJ48 LJ48 i fl0 dl0 XJ48 eJ48 OJ48 NJ48 KJ48 cyJ48_0 cyJ48_1 cyJ48_2 cyJ48_3 cyJ48_4 cyJ48_5 cyJ48_6 cyJ48_7 cyJ48_8 cyJ48_9 cyJ48_10 cyJ48_11 cyJ48_12 cyJ48_13 cyJ48_14 cyJ48_15 cyJ48_16 hi0_LEl0 hi1_LEl0 hf_LEl0
    refine zil 415 XJ48 hx (D d14_413) rfl ?_
    refine zal 417 XJ48 hx (D d14_415) rfl rfl ?_
    refine gV 420 1 11 67 XJ48 NJ48 hx hZ (y := mq34) hown hml (ww hw 158 rfl) (ww hw 159 rfl) (ww hw 161 rfl) (ww hw 160 rfl) (rmSc l Z a0 hw [] l0 sa kA na ea hJ48 n0 OJ48 cyJ48_2.2.2.2.2.2.2.1 cyJ48_2.2.2.2.2.2.2.2.1 cyJ48_2.2.2.2.2.2.2.2.2.1) (ww hw 162 rfl) (ww hw 32 rfl) eJ48 cyJ48_2.2.2.2.2.2.2.1 [] [(.int i)] (lenOf pd___I rfl) (D d14_417) ?_
    rintro T49 L49 M49 _ X49 uu49 ⟨rfl, Nq49, kq49⟩
    have N49 := uu49 Nq49
    refine zsk [(.int na), (.int i)] ?_
    refine zcy 480 X49 hx (D d14_420) (flt (lpZ hi1_LEl0)).2.1 ?_
    refine zii 483 #[rv a1, iv 1, rv a2, .val (.int ((na + nb) + nc)), rv b16, iv 1, rv l0, iv i, iv 1, iv dl0] X49 hx (D d14_480) rfl ?_
    refine zgo 386 X49 hx (D d14_483) ?_
    refine zil 388 X49 hx (D d14_386) rfl ?_
    refine zan 389 X49 hx (D d14_388) rfl rfl ?_
    refine gI 394 1 11 67 X49 N49 hx hZ (y := mq18) (xi := mq39) hown hml (ww hw 250 rfl) (ww hw 251 rfl) (ww hw 252 rfl) (ww hw 253 rfl) (ww hw 254 rfl) (ww hw 255 rfl) (ww hw 256 rfl) (ww hw 113 rfl) (rmSz l Z a0 hw [] a2 ed ke l0 l1 l2 hJ48 n0 OJ48 cyJ48_2.1 cyJ48_2.2.1 cyJ48_2.2.2.1 cyJ48_2.2.2.2.1 cyJ48_2.2.2.2.2.2.1) (ww hw 257 rfl) (ww hw 2 rfl) kq49 cyJ48_2.1 [] [(.int 1)] (lenOf pd___I rfl) (D d14_389) ?_
    rintro T50 L50 M50 _ X50 uu50 ⟨rfl, Nq50, kq50⟩
    have N50 := uu50 Nq50
    refine zsk [(.int 3), (.int 1)] ?_
    refine zcn 397 X50 hx (D d14_394) (by decide) ?_
    refine zan 398 X50 hx (D d14_397) rfl rfl ?_
    refine zil 400 X50 hx (D d14_398) rfl ?_
    refine gI 405 0 11 67 X50 N50 hx hZ (y := mq22) (xi := mq40) hown hml (ww hw 260 rfl) (ww hw 261 rfl) (ww hw 262 rfl) (ww hw 263 rfl) (ww hw 264 rfl) (ww hw 265 rfl) (ww hw 266 rfl) (ww hw 113 rfl) (rmGt1 l Z a0 hw [] a2 ed ke l0 l1 l2 hJ48 n0 OJ48 cyJ48_2.1 cyJ48_2.2.1 cyJ48_2.2.2.1 cyJ48_2.2.2.2.1 cyJ48_2.2.2.2.2.2.1) (ww hw 267 rfl) (ww hw 2 rfl) kq50 cyJ48_2.1 [(.int 1)] [] (lenOf pd__I_Ljava_lang_Object_ rfl) (D d14_400) ?_
    rintro T51 L51 M51 _ X51 uu51 ⟨rfl, Nq51, kq51⟩
    have N51 := uu51 Nq51
    refine zsk [(.ref l1)] ?_
    obtain ⟨T52, X52, e52, st52⟩ := castY X51 hx hZ hown (ww hw 156 rfl) kq51 (Ins.self cyJ48_2.2.2.2.2.2.2.2.2.2.1) (g := (mkF m 405 #[rv a1, iv 1, rv a2, .val (.int ((na + nb) + nc)), rv b16, iv 1, rv l0, iv i, iv 1, iv dl0] [(.ref l1)])) rfl rfl (D d14_405)
    refine zst 408 #[rv a1, iv 1, rv a2, .val (.int ((na + nb) + nc)), rv b16, iv 1, rv l0, iv i, iv 1, iv dl0] [(.ref l1)] st52 ?_
    refine zrl 410 #[rv a1, iv 1, rv a2, .val (.int ((na + nb) + nc)), rv b16, iv 1, rv l1, iv i, iv 1, iv dl0] X52 hx (D d14_408) rfl ?_
    refine zic 411 0 X52 hx (D d14_410) ?_
    refine zsl 413 #[rv a1, iv 1, rv a2, .val (.int ((na + nb) + nc)), rv b16, iv 1, rv l1, iv 0, iv 1, iv dl0] X52 hx (D d14_411) ?_
    have hs_l1 : fl0.toInt = na.toInt := by rw [hf_LEl0, lpQ hi1_LEl0]; exact Int.zero_add _
    refine zil 415 X52 hx (D d14_413) rfl ?_
    refine zal 417 X52 hx (D d14_415) rfl rfl ?_
    refine gV 420 1 11 67 X52 N51 hx hZ (y := mq34) hown hml (ww hw 158 rfl) (ww hw 159 rfl) (ww hw 161 rfl) (ww hw 160 rfl) (rmSc l Z a0 hw [] l1 sb kB nb eb hJ48 n0 OJ48 cyJ48_2.2.2.2.2.2.2.2.2.2.1 cyJ48_2.2.2.2.2.2.2.2.2.2.2.1 cyJ48_2.2.2.2.2.2.2.2.2.2.2.2.1) (ww hw 162 rfl) (ww hw 32 rfl) e52 cyJ48_2.2.2.2.2.2.2.2.2.2.1 [] [(.int 0)] (lenOf pd___I rfl) (D d14_417) ?_
    rintro T53 L53 M53 _ X53 uu53 ⟨rfl, Nq53, kq53⟩
    have N53 := uu53 Nq53
    refine zsk [(.int nb), (.int 0)] ?_
    refine zcn 423 X53 hx (D d14_420) (tlt (lpP bb2)).2.1 ?_
    refine zal 425 X53 hx (D d14_423) rfl rfl ?_
    refine zil 427 X53 hx (D d14_425) rfl ?_
    refine gV 430 0 11 67 X53 N53 hx hZ (y := mq35) hown hml (ww hw 163 rfl) (ww hw 164 rfl) (ww hw 166 rfl) (ww hw 165 rfl) (rmSa l Z a0 hw [] l1 sb kB nb eb (0 : Int32) hJ48 n0 OJ48 ln_sb al_sb (by decide) (lpP bb2) cyJ48_2.2.2.2.2.2.2.2.2.2.1 cyJ48_2.2.2.2.2.2.2.2.2.2.2.1 cyJ48_2.2.2.2.2.2.2.2.2.2.2.2.1) (ww hw 167 rfl) (ww hw 32 rfl) kq53 cyJ48_2.2.2.2.2.2.2.2.2.2.1 [(.int 0)] [] (lenOf pd__I_I rfl) (D d14_427) ?_
    rintro T54 L54 M54 _ X54 uu54 ⟨rfl, Nq54, kq54⟩
    have N54 := uu54 Nq54
    refine zsk [(.int 1)] ?_
    refine zsl 432 #[rv a1, iv 1, rv a2, .val (.int ((na + nb) + nc)), rv b16, iv 1, rv l1, iv 0, iv 1, iv dl0] X54 hx (D d14_430) ?_
    refine zan 433 X54 hx (D d14_432) rfl rfl ?_
    refine zgf 436 X54 hx hZ hown (host := "") (Or.inl (ww hw 289 rfl)) Via.refl kq54 cyJ48_4 (D d14_433) fun T55 X55 e55 => ?_
    refine zil 438 X55 hx (D d14_436) rfl ?_
    obtain ⟨cl56, Ar56, -, S56, -, H56, -⟩ := id cyJ48_9
    have hin56 : ¬ ((1 : Int32) < 0 ∨ cl56.slots.size ≤ ((1 : Int32)).toNatClampNeg) := inb_of S56 ⟨by decide, by decide⟩
    have hat56 : cl56.slots[((1 : Int32)).toNatClampNeg]? = some (.int (0 : Int32)) := H56.at hin56 rfl
    refine Go.st (f' := (mkF m 439 #[rv a1, iv 1, rv a2, .val (.int ((na + nb) + nc)), rv b16, iv 1, rv l1, iv 0, iv 1, iv dl0] [(.int 0)])) (fun _ k => X55.iaload hx (j := (1 : Int32)) (v := (.int (0 : Int32))) (by rw [e55]; exact Ar56.1) (State.isArrayOf_alike hZ.alike Ar56.2.1) Ar56.2.2 hin56 hat56 (g := (mkF m 438 #[rv a1, iv 1, rv a2, .val (.int ((na + nb) + nc)), rv b16, iv 1, rv l1, iv 0, iv 1, iv dl0] [(.int 1), (.ref cs)])) rfl rfl (D d14_438) _ k) ?_
    refine zal 441 X55 hx (D d14_439) rfl rfl ?_
    refine zil 443 X55 hx (D d14_441) rfl ?_
    obtain ⟨cl57, Ar57, -, S57, -, H57, -⟩ := id cyJ48_15
    have hin57 : ¬ ((1 : Int32) < 0 ∨ cl57.slots.size ≤ ((1 : Int32)).toNatClampNeg) := inb_of S57 ⟨by decide, by decide⟩
    have hat57 : cl57.slots[((1 : Int32)).toNatClampNeg]? = some (.int fl0) := H57.at hin57 rfl
    refine Go.st (f' := (mkF m 444 #[rv a1, iv 1, rv a2, .val (.int ((na + nb) + nc)), rv b16, iv 1, rv l1, iv 0, iv 1, iv dl0] [(.int fl0), (.int 0)])) (fun _ k => X55.iaload hx (j := (1 : Int32)) (v := (.int fl0)) (by rw [e55]; exact Ar57.1) (State.isArrayOf_alike hZ.alike Ar57.2.1) Ar57.2.2 hin57 hat57 (g := (mkF m 443 #[rv a1, iv 1, rv a2, .val (.int ((na + nb) + nc)), rv b16, iv 1, rv l1, iv 0, iv 1, iv dl0] [(.int 1), (.ref b16), (.int 0)])) rfl rfl (D d14_443) _ k) ?_
    refine zad 445 X55 hx (D d14_444) ?_
    rw [Int32.zero_add fl0]
    refine zsl 447 #[rv a1, iv 1, rv a2, .val (.int ((na + nb) + nc)), rv b16, iv 1, rv l1, iv 0, iv 1, iv fl0] X55 hx (D d14_445) ?_
    refine zan 448 X55 hx (D d14_447) rfl rfl ?_
    refine zgf 451 X55 hx hZ hown (host := "") (Or.inl (ww hw 291 rfl)) Via.refl e55 cyJ48_5 (D d14_448) fun T58 X58 e58 => ?_
    refine zil 453 X58 hx (D d14_451) rfl ?_
    refine zil 455 X58 hx (D d14_453) rfl ?_
    obtain ⟨cl59, Ar59, S59, Nx59, H59⟩ := id cyJ48_11
    have hin59 := inb_of S59 ⟨(lpB hs_l1 k1 (k7)).1, (lpB hs_l1 k1 (k7)).2⟩
    obtain ⟨T60, h60, X60, e60, W60, st60⟩ := stI X58 hx hZ e58 Ar59 (j := fl0) hin59 (g := (mkF m 455 #[rv a1, iv 1, rv a2, .val (.int ((na + nb) + nc)), rv b16, iv 1, rv l1, iv 0, iv 1, iv fl0] [(.int 1), (.int fl0), (.ref b3)])) rfl rfl (D d14_455)
    have I_b3_60 : Ia Z h60 b3 ((na + nb) + nc) := Ia.set Ar59 S59 Nx59 H59 hin59 W60
    have N60 := Fr.snoc X60 N54 g_b3
    have O60 : Old Z n0 h60 := OJ48.wr W60 g_b3
    have K60 : Keep h0 h60 [a1] := KJ48.wr W60 (Or.inr sz_b3)
    refine zst 456 #[rv a1, iv 1, rv a2, .val (.int ((na + nb) + nc)), rv b16, iv 1, rv l1, iv 0, iv 1, iv fl0] [] st60 ?_
    refine zan 457 X60 hx (D d14_456) rfl rfl ?_
    have ft61 := (cyJ48_6.other W60 (Or.inl ne_a1_b3))
    refine zgf 460 X60 hx hZ hown (host := "") (Or.inl (ww hw 293 rfl)) Via.refl e60 ft61 (D d14_457) fun T62 X62 e62 => ?_
    refine zil 462 X62 hx (D d14_460) rfl ?_
    refine zil 464 X62 hx (D d14_462) rfl ?_
    have ft64 := (Ia.other cyJ48_13 W60 (Ne.symm ne_b3_b7))
    obtain ⟨cl63, Ar63, S63, Nx63, H63⟩ := id ft64
    have hin63 := inb_of S63 ⟨(lpB hs_l1 k1 (k7)).1, (lpB hs_l1 k1 (k7)).2⟩
    obtain ⟨T65, h65, X65, e65, W65, st65⟩ := stI X62 hx hZ e62 Ar63 (j := fl0) hin63 (g := (mkF m 464 #[rv a1, iv 1, rv a2, .val (.int ((na + nb) + nc)), rv b16, iv 1, rv l1, iv 0, iv 1, iv fl0] [(.int 0), (.int fl0), (.ref b7)])) rfl rfl (D d14_464)
    have I_b7_65 : Ia Z h65 b7 ((na + nb) + nc) := Ia.set Ar63 S63 Nx63 H63 hin63 W65
    have N65 := Fr.snoc X65 N60 g_b7
    have O65 : Old Z n0 h65 := O60.wr W65 g_b7
    have K65 : Keep h0 h65 [a1] := K60.wr W65 (Or.inr sz_b7)
    refine zst 465 #[rv a1, iv 1, rv a2, .val (.int ((na + nb) + nc)), rv b16, iv 1, rv l1, iv 0, iv 1, iv fl0] [] st65 ?_
    refine zal 467 X65 hx (D d14_465) rfl rfl ?_
    refine zil 469 X65 hx (D d14_467) rfl ?_
    refine Go.st (f' := (mkF m 470 #[rv a1, iv 1, rv a2, .val (.int ((na + nb) + nc)), rv b16, iv 1, rv l1, iv 0, iv 1, iv fl0] [(.int 1), (.ref b16), (.int 1), (.ref b16)])) (fun _ k => XT.dup2 X65.here hx rfl (D d14_469) rfl rfl rfl k) ?_
    have ft67 := ((cyJ48_15.other W60 (Ne.symm ne_b3_b16)).other W65 (Ne.symm ne_b7_b16))
    obtain ⟨cl66, Ar66, -, S66, -, H66, -⟩ := id ft67
    have hin66 : ¬ ((1 : Int32) < 0 ∨ cl66.slots.size ≤ ((1 : Int32)).toNatClampNeg) := inb_of S66 ⟨by decide, by decide⟩
    have hat66 : cl66.slots[((1 : Int32)).toNatClampNeg]? = some (.int fl0) := H66.at hin66 rfl
    refine Go.st (f' := (mkF m 471 #[rv a1, iv 1, rv a2, .val (.int ((na + nb) + nc)), rv b16, iv 1, rv l1, iv 0, iv 1, iv fl0] [(.int fl0), (.int 1), (.ref b16)])) (fun _ k => X65.iaload hx (j := (1 : Int32)) (v := (.int fl0)) (by rw [e65]; exact Ar66.1) (State.isArrayOf_alike hZ.alike Ar66.2.1) Ar66.2.2 hin66 hat66 (g := (mkF m 470 #[rv a1, iv 1, rv a2, .val (.int ((na + nb) + nc)), rv b16, iv 1, rv l1, iv 0, iv 1, iv fl0] [(.int 1), (.ref b16), (.int 1), (.ref b16)])) rfl rfl (D d14_470) _ k) ?_
    refine zic 472 1 X65 hx (D d14_471) ?_
    refine zad 473 X65 hx (D d14_472) ?_
    obtain ⟨cl68, Ar68, q68, S68, Nx68, H68, G68⟩ := id ft67
    have hin68 : ¬ ((1 : Int32) < 0 ∨ cl68.slots.size ≤ ((1 : Int32)).toNatClampNeg) := inb_of S68 ⟨by decide, by decide⟩
    obtain ⟨T69, h69, X69, e69, W69, st69⟩ := stI X65 hx hZ e65 Ar68 (j := (1 : Int32)) hin68 (g := (mkF m 473 #[rv a1, iv 1, rv a2, .val (.int ((na + nb) + nc)), rv b16, iv 1, rv l1, iv 0, iv 1, iv fl0] [(.int (fl0 + (1 : Int32))), (.int 1), (.ref b16)])) rfl rfl (D d14_473)
    have V_b16_69 : Arv Z h69 b16 kc16 .int (2 : Int32) [(.int (0 : Int32)), (.int (fl0 + (1 : Int32)))] (.int (0 : Int32)) := Arv.set Ar68 q68 S68 Nx68 H68 G68 rfl W69 1 rfl (Nat.le_of_ble_eq_true rfl)
    have N69 := Fr.snoc X69 N65 g_b16
    have O69 : Old Z n0 h69 := O65.wr W69 g_b16
    have K69 : Keep h0 h69 [a1] := K65.wr W69 (Or.inr sz_b16)
    refine zst 474 #[rv a1, iv 1, rv a2, .val (.int ((na + nb) + nc)), rv b16, iv 1, rv l1, iv 0, iv 1, iv fl0] [] st69 ?_
    refine zii 477 #[rv a1, iv 1, rv a2, .val (.int ((na + nb) + nc)), rv b16, iv 1, rv l1, iv 1, iv 1, iv fl0] X69 hx (D d14_474) rfl ?_
    refine zgo 413 X69 hx (D d14_477) ?_
    have LEl1 : ∀ (fuel : Nat) (TJ70 : State) (hJ70 : Heap) (LJ70 : List Loc) (i : Int32) (fl1 : Int32) (dl1 : Int32), (Stand p l e ({ frames := 5, cells := 11, slots := 67, locals := 76 } : Room) s m #[(.ref a1), (.int 1), (.ref a2)] below meth c TJ70 LJ70 11 67) → (TJ70.heap = hJ70) → (Old Z n0 hJ70) → (Fr n0 LJ70) → (Keep h0 hJ70 [a1]) → (Exa Z hJ70 a1 "com/example/kinetic_city/kineticcity/engine/TransitNetwork") → (a1 < hJ70.size) → (Cx Z hJ70 a2 ed ke l0 l1 l2 sa kA na ea sb kB nb eb sc kC nc ec) → (Fld Z hJ70 a1 "com/example/kinetic_city/kineticcity/engine/TransitNetwork" "firstSegment" "[I" (.ref fs)) → (Fld Z hJ70 a1 "com/example/kinetic_city/kineticcity/engine/TransitNetwork" "callStart" "[I" (.ref cs)) → (Fld Z hJ70 a1 "com/example/kinetic_city/kineticcity/engine/TransitNetwork" "callLine" "[I" (.ref b3)) → (Fld Z hJ70 a1 "com/example/kinetic_city/kineticcity/engine/TransitNetwork" "callPosition" "[I" (.ref b7)) → (Arv Z hJ70 fs kf .int (4 : Int32) [(.int (0 : Int32)), (.int (na - (1 : Int32))), (.int (((na - (1 : Int32)) + nb) - (1 : Int32))), (.int (((((na - (1 : Int32)) + nb) - (1 : Int32)) + nc) - (1 : Int32)))] (.int (0 : Int32))) → (fs < hJ70.size) → (Arv Z hJ70 cs kc .int (3 : Int32) [(.int (0 : Int32)), (.int (0 : Int32)), (.int cv5)] (.int (0 : Int32))) → (cs < hJ70.size) → (Ia Z hJ70 b3 ((na + nb) + nc)) → (b3 < hJ70.size) → (Ia Z hJ70 b7 ((na + nb) + nc)) → (b7 < hJ70.size) → (Arv Z hJ70 b16 kc16 .int (2 : Int32) [(.int (0 : Int32)), (.int fl1)] (.int (0 : Int32))) → (b16 < hJ70.size) → (((1 : Nat) : Int) ≤ i.toInt) → (i.toInt + (fuel : Int) = nb.toInt) → (fl1.toInt = na.toInt + i.toInt) → Go p e below (Done s (fun v h L => v = none ∧ Fr n0 L ∧ Keep h0 h [a1] ∧ Exa Z h a1 "com/example/kinetic_city/kineticcity/engine/TransitNetwork" ∧ ∃ (fs : Addr) (kf : ClassId), Fld Z h a1 "com/example/kinetic_city/kineticcity/engine/TransitNetwork" "firstSegment" "[I" (.ref fs) ∧ Arv Z h fs kf .int (4 : Int32) [(.int (0 : Int32)), (.int (na - (1 : Int32))), (.int (((na - (1 : Int32)) + nb) - (1 : Int32))), (.int (((((na - (1 : Int32)) + nb) - (1 : Int32)) + nc) - (1 : Int32)))] (.int (0 : Int32))) ({ frames := 5, cells := 11, slots := 67, locals := 76 } : Room).cells ({ frames := 5, cells := 11, slots := 67, locals := 76 } : Room).slots) TJ70 (mkF m 413 #[rv a1, iv 1, rv a2, .val (.int ((na + nb) + nc)), rv b16, iv 1, rv l1, iv i, iv 1, iv dl1] []) := by
     intro fuel
     induction fuel with
     | zero =>
      intro TJ70 hJ70 LJ70 i fl1 dl1 XJ70 eJ70 OJ70 NJ70 KJ70 cyJ70_0 cyJ70_1 cyJ70_2 cyJ70_3 cyJ70_4 cyJ70_5 cyJ70_6 cyJ70_7 cyJ70_8 cyJ70_9 cyJ70_10 cyJ70_11 cyJ70_12 cyJ70_13 cyJ70_14 cyJ70_15 cyJ70_16 hi0_LEl1 hi1_LEl1 hf_LEl1
      refine zil 415 XJ70 hx (D d14_413) rfl ?_
      refine zal 417 XJ70 hx (D d14_415) rfl rfl ?_
      refine gV 420 1 11 67 XJ70 NJ70 hx hZ (y := mq34) hown hml (ww hw 158 rfl) (ww hw 159 rfl) (ww hw 161 rfl) (ww hw 160 rfl) (rmSc l Z a0 hw [] l1 sb kB nb eb hJ70 n0 OJ70 cyJ70_2.2.2.2.2.2.2.2.2.2.1 cyJ70_2.2.2.2.2.2.2.2.2.2.2.1 cyJ70_2.2.2.2.2.2.2.2.2.2.2.2.1) (ww hw 162 rfl) (ww hw 32 rfl) eJ70 cyJ70_2.2.2.2.2.2.2.2.2.2.1 [] [(.int i)] (lenOf pd___I rfl) (D d14_417) ?_
      rintro T71 L71 M71 _ X71 uu71 ⟨rfl, Nq71, kq71⟩
      have N71 := uu71 Nq71
      refine zsk [(.int nb), (.int i)] ?_
      refine zcy 480 X71 hx (D d14_420) (flt (lpZ hi1_LEl1)).2.1 ?_
      refine zii 483 #[rv a1, iv 1, rv a2, .val (.int ((na + nb) + nc)), rv b16, iv 2, rv l1, iv i, iv 1, iv dl1] X71 hx (D d14_480) rfl ?_
      refine zgo 386 X71 hx (D d14_483) ?_
      refine zil 388 X71 hx (D d14_386) rfl ?_
      refine zan 389 X71 hx (D d14_388) rfl rfl ?_
      refine gI 394 1 11 67 X71 N71 hx hZ (y := mq18) (xi := mq39) hown hml (ww hw 250 rfl) (ww hw 251 rfl) (ww hw 252 rfl) (ww hw 253 rfl) (ww hw 254 rfl) (ww hw 255 rfl) (ww hw 256 rfl) (ww hw 113 rfl) (rmSz l Z a0 hw [] a2 ed ke l0 l1 l2 hJ70 n0 OJ70 cyJ70_2.1 cyJ70_2.2.1 cyJ70_2.2.2.1 cyJ70_2.2.2.2.1 cyJ70_2.2.2.2.2.2.1) (ww hw 257 rfl) (ww hw 2 rfl) kq71 cyJ70_2.1 [] [(.int 2)] (lenOf pd___I rfl) (D d14_389) ?_
      rintro T72 L72 M72 _ X72 uu72 ⟨rfl, Nq72, kq72⟩
      have N72 := uu72 Nq72
      refine zsk [(.int 3), (.int 2)] ?_
      refine zcn 397 X72 hx (D d14_394) (by decide) ?_
      refine zan 398 X72 hx (D d14_397) rfl rfl ?_
      refine zil 400 X72 hx (D d14_398) rfl ?_
      refine gI 405 0 11 67 X72 N72 hx hZ (y := mq22) (xi := mq40) hown hml (ww hw 260 rfl) (ww hw 261 rfl) (ww hw 262 rfl) (ww hw 263 rfl) (ww hw 264 rfl) (ww hw 265 rfl) (ww hw 266 rfl) (ww hw 113 rfl) (rmGt2 l Z a0 hw [] a2 ed ke l0 l1 l2 hJ70 n0 OJ70 cyJ70_2.1 cyJ70_2.2.1 cyJ70_2.2.2.1 cyJ70_2.2.2.2.1 cyJ70_2.2.2.2.2.2.1) (ww hw 267 rfl) (ww hw 2 rfl) kq72 cyJ70_2.1 [(.int 2)] [] (lenOf pd__I_Ljava_lang_Object_ rfl) (D d14_400) ?_
      rintro T73 L73 M73 _ X73 uu73 ⟨rfl, Nq73, kq73⟩
      have N73 := uu73 Nq73
      refine zsk [(.ref l2)] ?_
      obtain ⟨T74, X74, e74, st74⟩ := castY X73 hx hZ hown (ww hw 156 rfl) kq73 (Ins.self cyJ70_2.2.2.2.2.2.2.2.2.2.2.2.2.1) (g := (mkF m 405 #[rv a1, iv 1, rv a2, .val (.int ((na + nb) + nc)), rv b16, iv 2, rv l1, iv i, iv 1, iv dl1] [(.ref l2)])) rfl rfl (D d14_405)
      refine zst 408 #[rv a1, iv 1, rv a2, .val (.int ((na + nb) + nc)), rv b16, iv 2, rv l1, iv i, iv 1, iv dl1] [(.ref l2)] st74 ?_
      refine zrl 410 #[rv a1, iv 1, rv a2, .val (.int ((na + nb) + nc)), rv b16, iv 2, rv l2, iv i, iv 1, iv dl1] X74 hx (D d14_408) rfl ?_
      refine zic 411 0 X74 hx (D d14_410) ?_
      refine zsl 413 #[rv a1, iv 1, rv a2, .val (.int ((na + nb) + nc)), rv b16, iv 2, rv l2, iv 0, iv 1, iv dl1] X74 hx (D d14_411) ?_
      have hs_l2 : fl1.toInt = (na.toInt + nb.toInt) := by rw [hf_LEl1, lpQ hi1_LEl1]
      refine zil 415 X74 hx (D d14_413) rfl ?_
      refine zal 417 X74 hx (D d14_415) rfl rfl ?_
      refine gV 420 1 11 67 X74 N73 hx hZ (y := mq34) hown hml (ww hw 158 rfl) (ww hw 159 rfl) (ww hw 161 rfl) (ww hw 160 rfl) (rmSc l Z a0 hw [] l2 sc kC nc ec hJ70 n0 OJ70 cyJ70_2.2.2.2.2.2.2.2.2.2.2.2.2.1 cyJ70_2.2.2.2.2.2.2.2.2.2.2.2.2.2.1 cyJ70_2.2.2.2.2.2.2.2.2.2.2.2.2.2.2) (ww hw 162 rfl) (ww hw 32 rfl) e74 cyJ70_2.2.2.2.2.2.2.2.2.2.2.2.2.1 [] [(.int 0)] (lenOf pd___I rfl) (D d14_417) ?_
      rintro T75 L75 M75 _ X75 uu75 ⟨rfl, Nq75, kq75⟩
      have N75 := uu75 Nq75
      refine zsk [(.int nc), (.int 0)] ?_
      refine zcn 423 X75 hx (D d14_420) (tlt (lpP bc2)).2.1 ?_
      refine zal 425 X75 hx (D d14_423) rfl rfl ?_
      refine zil 427 X75 hx (D d14_425) rfl ?_
      refine gV 430 0 11 67 X75 N75 hx hZ (y := mq35) hown hml (ww hw 163 rfl) (ww hw 164 rfl) (ww hw 166 rfl) (ww hw 165 rfl) (rmSa l Z a0 hw [] l2 sc kC nc ec (0 : Int32) hJ70 n0 OJ70 ln_sc al_sc (by decide) (lpP bc2) cyJ70_2.2.2.2.2.2.2.2.2.2.2.2.2.1 cyJ70_2.2.2.2.2.2.2.2.2.2.2.2.2.2.1 cyJ70_2.2.2.2.2.2.2.2.2.2.2.2.2.2.2) (ww hw 167 rfl) (ww hw 32 rfl) kq75 cyJ70_2.2.2.2.2.2.2.2.2.2.2.2.2.1 [(.int 0)] [] (lenOf pd__I_I rfl) (D d14_427) ?_
      rintro T76 L76 M76 _ X76 uu76 ⟨rfl, Nq76, kq76⟩
      have N76 := uu76 Nq76
      refine zsk [(.int 1)] ?_
      refine zsl 432 #[rv a1, iv 1, rv a2, .val (.int ((na + nb) + nc)), rv b16, iv 2, rv l2, iv 0, iv 1, iv dl1] X76 hx (D d14_430) ?_
      refine zan 433 X76 hx (D d14_432) rfl rfl ?_
      refine zgf 436 X76 hx hZ hown (host := "") (Or.inl (ww hw 289 rfl)) Via.refl kq76 cyJ70_4 (D d14_433) fun T77 X77 e77 => ?_
      refine zil 438 X77 hx (D d14_436) rfl ?_
      obtain ⟨cl78, Ar78, -, S78, -, H78, -⟩ := id cyJ70_9
      have hin78 : ¬ ((1 : Int32) < 0 ∨ cl78.slots.size ≤ ((1 : Int32)).toNatClampNeg) := inb_of S78 ⟨by decide, by decide⟩
      have hat78 : cl78.slots[((1 : Int32)).toNatClampNeg]? = some (.int (0 : Int32)) := H78.at hin78 rfl
      refine Go.st (f' := (mkF m 439 #[rv a1, iv 1, rv a2, .val (.int ((na + nb) + nc)), rv b16, iv 2, rv l2, iv 0, iv 1, iv dl1] [(.int 0)])) (fun _ k => X77.iaload hx (j := (1 : Int32)) (v := (.int (0 : Int32))) (by rw [e77]; exact Ar78.1) (State.isArrayOf_alike hZ.alike Ar78.2.1) Ar78.2.2 hin78 hat78 (g := (mkF m 438 #[rv a1, iv 1, rv a2, .val (.int ((na + nb) + nc)), rv b16, iv 2, rv l2, iv 0, iv 1, iv dl1] [(.int 1), (.ref cs)])) rfl rfl (D d14_438) _ k) ?_
      refine zal 441 X77 hx (D d14_439) rfl rfl ?_
      refine zil 443 X77 hx (D d14_441) rfl ?_
      obtain ⟨cl79, Ar79, -, S79, -, H79, -⟩ := id cyJ70_15
      have hin79 : ¬ ((1 : Int32) < 0 ∨ cl79.slots.size ≤ ((1 : Int32)).toNatClampNeg) := inb_of S79 ⟨by decide, by decide⟩
      have hat79 : cl79.slots[((1 : Int32)).toNatClampNeg]? = some (.int fl1) := H79.at hin79 rfl
      refine Go.st (f' := (mkF m 444 #[rv a1, iv 1, rv a2, .val (.int ((na + nb) + nc)), rv b16, iv 2, rv l2, iv 0, iv 1, iv dl1] [(.int fl1), (.int 0)])) (fun _ k => X77.iaload hx (j := (1 : Int32)) (v := (.int fl1)) (by rw [e77]; exact Ar79.1) (State.isArrayOf_alike hZ.alike Ar79.2.1) Ar79.2.2 hin79 hat79 (g := (mkF m 443 #[rv a1, iv 1, rv a2, .val (.int ((na + nb) + nc)), rv b16, iv 2, rv l2, iv 0, iv 1, iv dl1] [(.int 1), (.ref b16), (.int 0)])) rfl rfl (D d14_443) _ k) ?_
      refine zad 445 X77 hx (D d14_444) ?_
      rw [Int32.zero_add fl1]
      refine zsl 447 #[rv a1, iv 1, rv a2, .val (.int ((na + nb) + nc)), rv b16, iv 2, rv l2, iv 0, iv 1, iv fl1] X77 hx (D d14_445) ?_
      refine zan 448 X77 hx (D d14_447) rfl rfl ?_
      refine zgf 451 X77 hx hZ hown (host := "") (Or.inl (ww hw 291 rfl)) Via.refl e77 cyJ70_5 (D d14_448) fun T80 X80 e80 => ?_
      refine zil 453 X80 hx (D d14_451) rfl ?_
      refine zil 455 X80 hx (D d14_453) rfl ?_
      obtain ⟨cl81, Ar81, S81, Nx81, H81⟩ := id cyJ70_11
      have hin81 := inb_of S81 ⟨(lpB hs_l2 k2 (k8)).1, (lpB hs_l2 k2 (k8)).2⟩
      obtain ⟨T82, h82, X82, e82, W82, st82⟩ := stI X80 hx hZ e80 Ar81 (j := fl1) hin81 (g := (mkF m 455 #[rv a1, iv 1, rv a2, .val (.int ((na + nb) + nc)), rv b16, iv 2, rv l2, iv 0, iv 1, iv fl1] [(.int 2), (.int fl1), (.ref b3)])) rfl rfl (D d14_455)
      have I_b3_82 : Ia Z h82 b3 ((na + nb) + nc) := Ia.set Ar81 S81 Nx81 H81 hin81 W82
      have N82 := Fr.snoc X82 N76 g_b3
      have O82 : Old Z n0 h82 := OJ70.wr W82 g_b3
      have K82 : Keep h0 h82 [a1] := KJ70.wr W82 (Or.inr sz_b3)
      refine zst 456 #[rv a1, iv 1, rv a2, .val (.int ((na + nb) + nc)), rv b16, iv 2, rv l2, iv 0, iv 1, iv fl1] [] st82 ?_
      refine zan 457 X82 hx (D d14_456) rfl rfl ?_
      have ft83 := (cyJ70_6.other W82 (Or.inl ne_a1_b3))
      refine zgf 460 X82 hx hZ hown (host := "") (Or.inl (ww hw 293 rfl)) Via.refl e82 ft83 (D d14_457) fun T84 X84 e84 => ?_
      refine zil 462 X84 hx (D d14_460) rfl ?_
      refine zil 464 X84 hx (D d14_462) rfl ?_
      have ft86 := (Ia.other cyJ70_13 W82 (Ne.symm ne_b3_b7))
      obtain ⟨cl85, Ar85, S85, Nx85, H85⟩ := id ft86
      have hin85 := inb_of S85 ⟨(lpB hs_l2 k2 (k8)).1, (lpB hs_l2 k2 (k8)).2⟩
      obtain ⟨T87, h87, X87, e87, W87, st87⟩ := stI X84 hx hZ e84 Ar85 (j := fl1) hin85 (g := (mkF m 464 #[rv a1, iv 1, rv a2, .val (.int ((na + nb) + nc)), rv b16, iv 2, rv l2, iv 0, iv 1, iv fl1] [(.int 0), (.int fl1), (.ref b7)])) rfl rfl (D d14_464)
      have I_b7_87 : Ia Z h87 b7 ((na + nb) + nc) := Ia.set Ar85 S85 Nx85 H85 hin85 W87
      have N87 := Fr.snoc X87 N82 g_b7
      have O87 : Old Z n0 h87 := O82.wr W87 g_b7
      have K87 : Keep h0 h87 [a1] := K82.wr W87 (Or.inr sz_b7)
      refine zst 465 #[rv a1, iv 1, rv a2, .val (.int ((na + nb) + nc)), rv b16, iv 2, rv l2, iv 0, iv 1, iv fl1] [] st87 ?_
      refine zal 467 X87 hx (D d14_465) rfl rfl ?_
      refine zil 469 X87 hx (D d14_467) rfl ?_
      refine Go.st (f' := (mkF m 470 #[rv a1, iv 1, rv a2, .val (.int ((na + nb) + nc)), rv b16, iv 2, rv l2, iv 0, iv 1, iv fl1] [(.int 1), (.ref b16), (.int 1), (.ref b16)])) (fun _ k => XT.dup2 X87.here hx rfl (D d14_469) rfl rfl rfl k) ?_
      have ft89 := ((cyJ70_15.other W82 (Ne.symm ne_b3_b16)).other W87 (Ne.symm ne_b7_b16))
      obtain ⟨cl88, Ar88, -, S88, -, H88, -⟩ := id ft89
      have hin88 : ¬ ((1 : Int32) < 0 ∨ cl88.slots.size ≤ ((1 : Int32)).toNatClampNeg) := inb_of S88 ⟨by decide, by decide⟩
      have hat88 : cl88.slots[((1 : Int32)).toNatClampNeg]? = some (.int fl1) := H88.at hin88 rfl
      refine Go.st (f' := (mkF m 471 #[rv a1, iv 1, rv a2, .val (.int ((na + nb) + nc)), rv b16, iv 2, rv l2, iv 0, iv 1, iv fl1] [(.int fl1), (.int 1), (.ref b16)])) (fun _ k => X87.iaload hx (j := (1 : Int32)) (v := (.int fl1)) (by rw [e87]; exact Ar88.1) (State.isArrayOf_alike hZ.alike Ar88.2.1) Ar88.2.2 hin88 hat88 (g := (mkF m 470 #[rv a1, iv 1, rv a2, .val (.int ((na + nb) + nc)), rv b16, iv 2, rv l2, iv 0, iv 1, iv fl1] [(.int 1), (.ref b16), (.int 1), (.ref b16)])) rfl rfl (D d14_470) _ k) ?_
      refine zic 472 1 X87 hx (D d14_471) ?_
      refine zad 473 X87 hx (D d14_472) ?_
      obtain ⟨cl90, Ar90, q90, S90, Nx90, H90, G90⟩ := id ft89
      have hin90 : ¬ ((1 : Int32) < 0 ∨ cl90.slots.size ≤ ((1 : Int32)).toNatClampNeg) := inb_of S90 ⟨by decide, by decide⟩
      obtain ⟨T91, h91, X91, e91, W91, st91⟩ := stI X87 hx hZ e87 Ar90 (j := (1 : Int32)) hin90 (g := (mkF m 473 #[rv a1, iv 1, rv a2, .val (.int ((na + nb) + nc)), rv b16, iv 2, rv l2, iv 0, iv 1, iv fl1] [(.int (fl1 + (1 : Int32))), (.int 1), (.ref b16)])) rfl rfl (D d14_473)
      have V_b16_91 : Arv Z h91 b16 kc16 .int (2 : Int32) [(.int (0 : Int32)), (.int (fl1 + (1 : Int32)))] (.int (0 : Int32)) := Arv.set Ar90 q90 S90 Nx90 H90 G90 rfl W91 1 rfl (Nat.le_of_ble_eq_true rfl)
      have N91 := Fr.snoc X91 N87 g_b16
      have O91 : Old Z n0 h91 := O87.wr W91 g_b16
      have K91 : Keep h0 h91 [a1] := K87.wr W91 (Or.inr sz_b16)
      refine zst 474 #[rv a1, iv 1, rv a2, .val (.int ((na + nb) + nc)), rv b16, iv 2, rv l2, iv 0, iv 1, iv fl1] [] st91 ?_
      refine zii 477 #[rv a1, iv 1, rv a2, .val (.int ((na + nb) + nc)), rv b16, iv 2, rv l2, iv 1, iv 1, iv fl1] X91 hx (D d14_474) rfl ?_
      refine zgo 413 X91 hx (D d14_477) ?_
      have LEl2 : ∀ (fuel : Nat) (TJ92 : State) (hJ92 : Heap) (LJ92 : List Loc) (i : Int32) (fl2 : Int32) (dl2 : Int32), (Stand p l e ({ frames := 5, cells := 11, slots := 67, locals := 76 } : Room) s m #[(.ref a1), (.int 1), (.ref a2)] below meth c TJ92 LJ92 11 67) → (TJ92.heap = hJ92) → (Old Z n0 hJ92) → (Fr n0 LJ92) → (Keep h0 hJ92 [a1]) → (Exa Z hJ92 a1 "com/example/kinetic_city/kineticcity/engine/TransitNetwork") → (a1 < hJ92.size) → (Cx Z hJ92 a2 ed ke l0 l1 l2 sa kA na ea sb kB nb eb sc kC nc ec) → (Fld Z hJ92 a1 "com/example/kinetic_city/kineticcity/engine/TransitNetwork" "firstSegment" "[I" (.ref fs)) → (Fld Z hJ92 a1 "com/example/kinetic_city/kineticcity/engine/TransitNetwork" "callStart" "[I" (.ref cs)) → (Fld Z hJ92 a1 "com/example/kinetic_city/kineticcity/engine/TransitNetwork" "callLine" "[I" (.ref b3)) → (Fld Z hJ92 a1 "com/example/kinetic_city/kineticcity/engine/TransitNetwork" "callPosition" "[I" (.ref b7)) → (Arv Z hJ92 fs kf .int (4 : Int32) [(.int (0 : Int32)), (.int (na - (1 : Int32))), (.int (((na - (1 : Int32)) + nb) - (1 : Int32))), (.int (((((na - (1 : Int32)) + nb) - (1 : Int32)) + nc) - (1 : Int32)))] (.int (0 : Int32))) → (fs < hJ92.size) → (Arv Z hJ92 cs kc .int (3 : Int32) [(.int (0 : Int32)), (.int (0 : Int32)), (.int cv5)] (.int (0 : Int32))) → (cs < hJ92.size) → (Ia Z hJ92 b3 ((na + nb) + nc)) → (b3 < hJ92.size) → (Ia Z hJ92 b7 ((na + nb) + nc)) → (b7 < hJ92.size) → (Arv Z hJ92 b16 kc16 .int (2 : Int32) [(.int (0 : Int32)), (.int fl2)] (.int (0 : Int32))) → (b16 < hJ92.size) → (((1 : Nat) : Int) ≤ i.toInt) → (i.toInt + (fuel : Int) = nc.toInt) → (fl2.toInt = (na.toInt + nb.toInt) + i.toInt) → Go p e below (Done s (fun v h L => v = none ∧ Fr n0 L ∧ Keep h0 h [a1] ∧ Exa Z h a1 "com/example/kinetic_city/kineticcity/engine/TransitNetwork" ∧ ∃ (fs : Addr) (kf : ClassId), Fld Z h a1 "com/example/kinetic_city/kineticcity/engine/TransitNetwork" "firstSegment" "[I" (.ref fs) ∧ Arv Z h fs kf .int (4 : Int32) [(.int (0 : Int32)), (.int (na - (1 : Int32))), (.int (((na - (1 : Int32)) + nb) - (1 : Int32))), (.int (((((na - (1 : Int32)) + nb) - (1 : Int32)) + nc) - (1 : Int32)))] (.int (0 : Int32))) ({ frames := 5, cells := 11, slots := 67, locals := 76 } : Room).cells ({ frames := 5, cells := 11, slots := 67, locals := 76 } : Room).slots) TJ92 (mkF m 413 #[rv a1, iv 1, rv a2, .val (.int ((na + nb) + nc)), rv b16, iv 2, rv l2, iv i, iv 1, iv dl2] []) := by
       intro fuel
       induction fuel with
       | zero =>
        intro TJ92 hJ92 LJ92 i fl2 dl2 XJ92 eJ92 OJ92 NJ92 KJ92 cyJ92_0 cyJ92_1 cyJ92_2 cyJ92_3 cyJ92_4 cyJ92_5 cyJ92_6 cyJ92_7 cyJ92_8 cyJ92_9 cyJ92_10 cyJ92_11 cyJ92_12 cyJ92_13 cyJ92_14 cyJ92_15 cyJ92_16 hi0_LEl2 hi1_LEl2 hf_LEl2
        refine zil 415 XJ92 hx (D d14_413) rfl ?_
        refine zal 417 XJ92 hx (D d14_415) rfl rfl ?_
        refine gV 420 1 11 67 XJ92 NJ92 hx hZ (y := mq34) hown hml (ww hw 158 rfl) (ww hw 159 rfl) (ww hw 161 rfl) (ww hw 160 rfl) (rmSc l Z a0 hw [] l2 sc kC nc ec hJ92 n0 OJ92 cyJ92_2.2.2.2.2.2.2.2.2.2.2.2.2.1 cyJ92_2.2.2.2.2.2.2.2.2.2.2.2.2.2.1 cyJ92_2.2.2.2.2.2.2.2.2.2.2.2.2.2.2) (ww hw 162 rfl) (ww hw 32 rfl) eJ92 cyJ92_2.2.2.2.2.2.2.2.2.2.2.2.2.1 [] [(.int i)] (lenOf pd___I rfl) (D d14_417) ?_
        rintro T93 L93 M93 _ X93 uu93 ⟨rfl, Nq93, kq93⟩
        have N93 := uu93 Nq93
        refine zsk [(.int nc), (.int i)] ?_
        refine zcy 480 X93 hx (D d14_420) (flt (lpZ hi1_LEl2)).2.1 ?_
        refine zii 483 #[rv a1, iv 1, rv a2, .val (.int ((na + nb) + nc)), rv b16, iv 3, rv l2, iv i, iv 1, iv dl2] X93 hx (D d14_480) rfl ?_
        refine zgo 386 X93 hx (D d14_483) ?_
        refine zil 388 X93 hx (D d14_386) rfl ?_
        refine zan 389 X93 hx (D d14_388) rfl rfl ?_
        refine gI 394 1 11 67 X93 N93 hx hZ (y := mq18) (xi := mq39) hown hml (ww hw 250 rfl) (ww hw 251 rfl) (ww hw 252 rfl) (ww hw 253 rfl) (ww hw 254 rfl) (ww hw 255 rfl) (ww hw 256 rfl) (ww hw 113 rfl) (rmSz l Z a0 hw [] a2 ed ke l0 l1 l2 hJ92 n0 OJ92 cyJ92_2.1 cyJ92_2.2.1 cyJ92_2.2.2.1 cyJ92_2.2.2.2.1 cyJ92_2.2.2.2.2.2.1) (ww hw 257 rfl) (ww hw 2 rfl) kq93 cyJ92_2.1 [] [(.int 3)] (lenOf pd___I rfl) (D d14_389) ?_
        rintro T94 L94 M94 _ X94 uu94 ⟨rfl, Nq94, kq94⟩
        have N94 := uu94 Nq94
        refine zsk [(.int 3), (.int 3)] ?_
        refine zcy 486 X94 hx (D d14_394) (by decide) ?_
        refine Go.ret0 X94 hlk hx hret (D d14_486) kq94 ?_ (by decide) (by decide)
        exact ⟨rfl, N94, KJ92, cyJ92_0, fs, kf, cyJ92_3, cyJ92_7⟩
       | succ fuel ih =>
        intro TJ92 hJ92 LJ92 i fl2 dl2 XJ92 eJ92 OJ92 NJ92 KJ92 cyJ92_0 cyJ92_1 cyJ92_2 cyJ92_3 cyJ92_4 cyJ92_5 cyJ92_6 cyJ92_7 cyJ92_8 cyJ92_9 cyJ92_10 cyJ92_11 cyJ92_12 cyJ92_13 cyJ92_14 cyJ92_15 cyJ92_16 hi0_LEl2 hi1_LEl2 hf_LEl2
        refine zil 415 XJ92 hx (D d14_413) rfl ?_
        refine zal 417 XJ92 hx (D d14_415) rfl rfl ?_
        refine gV 420 1 11 67 XJ92 NJ92 hx hZ (y := mq34) hown hml (ww hw 158 rfl) (ww hw 159 rfl) (ww hw 161 rfl) (ww hw 160 rfl) (rmSc l Z a0 hw [] l2 sc kC nc ec hJ92 n0 OJ92 cyJ92_2.2.2.2.2.2.2.2.2.2.2.2.2.1 cyJ92_2.2.2.2.2.2.2.2.2.2.2.2.2.2.1 cyJ92_2.2.2.2.2.2.2.2.2.2.2.2.2.2.2) (ww hw 162 rfl) (ww hw 32 rfl) eJ92 cyJ92_2.2.2.2.2.2.2.2.2.2.2.2.2.1 [] [(.int i)] (lenOf pd___I rfl) (D d14_417) ?_
        rintro T95 L95 M95 _ X95 uu95 ⟨rfl, Nq95, kq95⟩
        have N95 := uu95 Nq95
        refine zsk [(.int nc), (.int i)] ?_
        refine zcn 423 X95 hx (D d14_420) (tlt (lpS hi1_LEl2)).2.1 ?_
        refine zal 425 X95 hx (D d14_423) rfl rfl ?_
        refine zil 427 X95 hx (D d14_425) rfl ?_
        refine gV 430 0 11 67 X95 N95 hx hZ (y := mq35) hown hml (ww hw 163 rfl) (ww hw 164 rfl) (ww hw 166 rfl) (ww hw 165 rfl) (rmSa l Z a0 hw [] l2 sc kC nc ec i hJ92 n0 OJ92 ln_sc al_sc (lpN hi0_LEl2) (lpS hi1_LEl2) cyJ92_2.2.2.2.2.2.2.2.2.2.2.2.2.1 cyJ92_2.2.2.2.2.2.2.2.2.2.2.2.2.2.1 cyJ92_2.2.2.2.2.2.2.2.2.2.2.2.2.2.2) (ww hw 167 rfl) (ww hw 32 rfl) kq95 cyJ92_2.2.2.2.2.2.2.2.2.2.2.2.2.1 [(.int i)] [] (lenOf pd__I_I rfl) (D d14_427) ?_
        rintro T96 L96 M96 _ X96 uu96 ⟨rfl, Nq96, kq96⟩
        have N96 := uu96 Nq96
        refine zsk [(.int 1)] ?_
        refine zsl 432 #[rv a1, iv 1, rv a2, .val (.int ((na + nb) + nc)), rv b16, iv 2, rv l2, iv i, iv 1, iv dl2] X96 hx (D d14_430) ?_
        refine zan 433 X96 hx (D d14_432) rfl rfl ?_
        refine zgf 436 X96 hx hZ hown (host := "") (Or.inl (ww hw 289 rfl)) Via.refl kq96 cyJ92_4 (D d14_433) fun T97 X97 e97 => ?_
        refine zil 438 X97 hx (D d14_436) rfl ?_
        obtain ⟨cl98, Ar98, -, S98, -, H98, -⟩ := id cyJ92_9
        have hin98 : ¬ ((1 : Int32) < 0 ∨ cl98.slots.size ≤ ((1 : Int32)).toNatClampNeg) := inb_of S98 ⟨by decide, by decide⟩
        have hat98 : cl98.slots[((1 : Int32)).toNatClampNeg]? = some (.int (0 : Int32)) := H98.at hin98 rfl
        refine Go.st (f' := (mkF m 439 #[rv a1, iv 1, rv a2, .val (.int ((na + nb) + nc)), rv b16, iv 2, rv l2, iv i, iv 1, iv dl2] [(.int 0)])) (fun _ k => X97.iaload hx (j := (1 : Int32)) (v := (.int (0 : Int32))) (by rw [e97]; exact Ar98.1) (State.isArrayOf_alike hZ.alike Ar98.2.1) Ar98.2.2 hin98 hat98 (g := (mkF m 438 #[rv a1, iv 1, rv a2, .val (.int ((na + nb) + nc)), rv b16, iv 2, rv l2, iv i, iv 1, iv dl2] [(.int 1), (.ref cs)])) rfl rfl (D d14_438) _ k) ?_
        refine zal 441 X97 hx (D d14_439) rfl rfl ?_
        refine zil 443 X97 hx (D d14_441) rfl ?_
        obtain ⟨cl99, Ar99, -, S99, -, H99, -⟩ := id cyJ92_15
        have hin99 : ¬ ((1 : Int32) < 0 ∨ cl99.slots.size ≤ ((1 : Int32)).toNatClampNeg) := inb_of S99 ⟨by decide, by decide⟩
        have hat99 : cl99.slots[((1 : Int32)).toNatClampNeg]? = some (.int fl2) := H99.at hin99 rfl
        refine Go.st (f' := (mkF m 444 #[rv a1, iv 1, rv a2, .val (.int ((na + nb) + nc)), rv b16, iv 2, rv l2, iv i, iv 1, iv dl2] [(.int fl2), (.int 0)])) (fun _ k => X97.iaload hx (j := (1 : Int32)) (v := (.int fl2)) (by rw [e97]; exact Ar99.1) (State.isArrayOf_alike hZ.alike Ar99.2.1) Ar99.2.2 hin99 hat99 (g := (mkF m 443 #[rv a1, iv 1, rv a2, .val (.int ((na + nb) + nc)), rv b16, iv 2, rv l2, iv i, iv 1, iv dl2] [(.int 1), (.ref b16), (.int 0)])) rfl rfl (D d14_443) _ k) ?_
        refine zad 445 X97 hx (D d14_444) ?_
        rw [Int32.zero_add fl2]
        refine zsl 447 #[rv a1, iv 1, rv a2, .val (.int ((na + nb) + nc)), rv b16, iv 2, rv l2, iv i, iv 1, iv fl2] X97 hx (D d14_445) ?_
        refine zan 448 X97 hx (D d14_447) rfl rfl ?_
        refine zgf 451 X97 hx hZ hown (host := "") (Or.inl (ww hw 291 rfl)) Via.refl e97 cyJ92_5 (D d14_448) fun T100 X100 e100 => ?_
        refine zil 453 X100 hx (D d14_451) rfl ?_
        refine zil 455 X100 hx (D d14_453) rfl ?_
        obtain ⟨cl101, Ar101, S101, Nx101, H101⟩ := id cyJ92_11
        have hin101 := inb_of S101 ⟨(lpA (T := ((na + nb) + nc)) hf_LEl2 k2 hi0_LEl2 hi1_LEl2 k5).1, (lpA (T := ((na + nb) + nc)) hf_LEl2 k2 hi0_LEl2 hi1_LEl2 k5).2⟩
        obtain ⟨T102, h102, X102, e102, W102, st102⟩ := stI X100 hx hZ e100 Ar101 (j := fl2) hin101 (g := (mkF m 455 #[rv a1, iv 1, rv a2, .val (.int ((na + nb) + nc)), rv b16, iv 2, rv l2, iv i, iv 1, iv fl2] [(.int 2), (.int fl2), (.ref b3)])) rfl rfl (D d14_455)
        have I_b3_102 : Ia Z h102 b3 ((na + nb) + nc) := Ia.set Ar101 S101 Nx101 H101 hin101 W102
        have N102 := Fr.snoc X102 N96 g_b3
        have O102 : Old Z n0 h102 := OJ92.wr W102 g_b3
        have K102 : Keep h0 h102 [a1] := KJ92.wr W102 (Or.inr sz_b3)
        refine zst 456 #[rv a1, iv 1, rv a2, .val (.int ((na + nb) + nc)), rv b16, iv 2, rv l2, iv i, iv 1, iv fl2] [] st102 ?_
        refine zan 457 X102 hx (D d14_456) rfl rfl ?_
        have ft103 := (cyJ92_6.other W102 (Or.inl ne_a1_b3))
        refine zgf 460 X102 hx hZ hown (host := "") (Or.inl (ww hw 293 rfl)) Via.refl e102 ft103 (D d14_457) fun T104 X104 e104 => ?_
        refine zil 462 X104 hx (D d14_460) rfl ?_
        refine zil 464 X104 hx (D d14_462) rfl ?_
        have ft106 := (Ia.other cyJ92_13 W102 (Ne.symm ne_b3_b7))
        obtain ⟨cl105, Ar105, S105, Nx105, H105⟩ := id ft106
        have hin105 := inb_of S105 ⟨(lpA (T := ((na + nb) + nc)) hf_LEl2 k2 hi0_LEl2 hi1_LEl2 k5).1, (lpA (T := ((na + nb) + nc)) hf_LEl2 k2 hi0_LEl2 hi1_LEl2 k5).2⟩
        obtain ⟨T107, h107, X107, e107, W107, st107⟩ := stI X104 hx hZ e104 Ar105 (j := fl2) hin105 (g := (mkF m 464 #[rv a1, iv 1, rv a2, .val (.int ((na + nb) + nc)), rv b16, iv 2, rv l2, iv i, iv 1, iv fl2] [(.int i), (.int fl2), (.ref b7)])) rfl rfl (D d14_464)
        have I_b7_107 : Ia Z h107 b7 ((na + nb) + nc) := Ia.set Ar105 S105 Nx105 H105 hin105 W107
        have N107 := Fr.snoc X107 N102 g_b7
        have O107 : Old Z n0 h107 := O102.wr W107 g_b7
        have K107 : Keep h0 h107 [a1] := K102.wr W107 (Or.inr sz_b7)
        refine zst 465 #[rv a1, iv 1, rv a2, .val (.int ((na + nb) + nc)), rv b16, iv 2, rv l2, iv i, iv 1, iv fl2] [] st107 ?_
        refine zal 467 X107 hx (D d14_465) rfl rfl ?_
        refine zil 469 X107 hx (D d14_467) rfl ?_
        refine Go.st (f' := (mkF m 470 #[rv a1, iv 1, rv a2, .val (.int ((na + nb) + nc)), rv b16, iv 2, rv l2, iv i, iv 1, iv fl2] [(.int 1), (.ref b16), (.int 1), (.ref b16)])) (fun _ k => XT.dup2 X107.here hx rfl (D d14_469) rfl rfl rfl k) ?_
        have ft109 := ((cyJ92_15.other W102 (Ne.symm ne_b3_b16)).other W107 (Ne.symm ne_b7_b16))
        obtain ⟨cl108, Ar108, -, S108, -, H108, -⟩ := id ft109
        have hin108 : ¬ ((1 : Int32) < 0 ∨ cl108.slots.size ≤ ((1 : Int32)).toNatClampNeg) := inb_of S108 ⟨by decide, by decide⟩
        have hat108 : cl108.slots[((1 : Int32)).toNatClampNeg]? = some (.int fl2) := H108.at hin108 rfl
        refine Go.st (f' := (mkF m 471 #[rv a1, iv 1, rv a2, .val (.int ((na + nb) + nc)), rv b16, iv 2, rv l2, iv i, iv 1, iv fl2] [(.int fl2), (.int 1), (.ref b16)])) (fun _ k => X107.iaload hx (j := (1 : Int32)) (v := (.int fl2)) (by rw [e107]; exact Ar108.1) (State.isArrayOf_alike hZ.alike Ar108.2.1) Ar108.2.2 hin108 hat108 (g := (mkF m 470 #[rv a1, iv 1, rv a2, .val (.int ((na + nb) + nc)), rv b16, iv 2, rv l2, iv i, iv 1, iv fl2] [(.int 1), (.ref b16), (.int 1), (.ref b16)])) rfl rfl (D d14_470) _ k) ?_
        refine zic 472 1 X107 hx (D d14_471) ?_
        refine zad 473 X107 hx (D d14_472) ?_
        obtain ⟨cl110, Ar110, q110, S110, Nx110, H110, G110⟩ := id ft109
        have hin110 : ¬ ((1 : Int32) < 0 ∨ cl110.slots.size ≤ ((1 : Int32)).toNatClampNeg) := inb_of S110 ⟨by decide, by decide⟩
        obtain ⟨T111, h111, X111, e111, W111, st111⟩ := stI X107 hx hZ e107 Ar110 (j := (1 : Int32)) hin110 (g := (mkF m 473 #[rv a1, iv 1, rv a2, .val (.int ((na + nb) + nc)), rv b16, iv 2, rv l2, iv i, iv 1, iv fl2] [(.int (fl2 + (1 : Int32))), (.int 1), (.ref b16)])) rfl rfl (D d14_473)
        have V_b16_111 : Arv Z h111 b16 kc16 .int (2 : Int32) [(.int (0 : Int32)), (.int (fl2 + (1 : Int32)))] (.int (0 : Int32)) := Arv.set Ar110 q110 S110 Nx110 H110 G110 rfl W111 1 rfl (Nat.le_of_ble_eq_true rfl)
        have N111 := Fr.snoc X111 N107 g_b16
        have O111 : Old Z n0 h111 := O107.wr W111 g_b16
        have K111 : Keep h0 h111 [a1] := K107.wr W111 (Or.inr sz_b16)
        refine zst 474 #[rv a1, iv 1, rv a2, .val (.int ((na + nb) + nc)), rv b16, iv 2, rv l2, iv i, iv 1, iv fl2] [] st111 ?_
        refine zii 477 #[rv a1, iv 1, rv a2, .val (.int ((na + nb) + nc)), rv b16, iv 2, rv l2, .val (.int (i + (1 : Int32))), iv 1, iv fl2] X111 hx (D d14_474) rfl ?_
        refine zgo 413 X111 hx (D d14_477) ?_
        have ft112 := (((cyJ92_0.wr W102).wr W107).wr W111)
        have ft113 := (lteq (lteq (lteq cyJ92_1 W102.size.symm) W107.size.symm) W111.size.symm)
        have ft114 := (Cx.wr (Cx.wr (Cx.wr cyJ92_2 W102 ne_a2_b3 ne_ed_b3 ne_l0_b3 ne_l1_b3 ne_l2_b3 ne_sa_b3 ne_sb_b3 ne_sc_b3) W107 ne_a2_b7 ne_ed_b7 ne_l0_b7 ne_l1_b7 ne_l2_b7 ne_sa_b7 ne_sb_b7 ne_sc_b7) W111 ne_a2_b16 ne_ed_b16 ne_l0_b16 ne_l1_b16 ne_l2_b16 ne_sa_b16 ne_sb_b16 ne_sc_b16)
        have ft115 := (((cyJ92_3.other W102 (Or.inl ne_a1_b3)).other W107 (Or.inl ne_a1_b7)).other W111 (Or.inl ne_a1_b16))
        have ft116 := (((cyJ92_4.other W102 (Or.inl ne_a1_b3)).other W107 (Or.inl ne_a1_b7)).other W111 (Or.inl ne_a1_b16))
        have ft117 := (((cyJ92_5.other W102 (Or.inl ne_a1_b3)).other W107 (Or.inl ne_a1_b7)).other W111 (Or.inl ne_a1_b16))
        have ft118 := ((ft103.other W107 (Or.inl ne_a1_b7)).other W111 (Or.inl ne_a1_b16))
        have ft119 := (((cyJ92_7.other W102 ne_fs_b3).other W107 ne_fs_b7).other W111 ne_fs_b16)
        have ft120 := (lteq (lteq (lteq cyJ92_8 W102.size.symm) W107.size.symm) W111.size.symm)
        have ft121 := (((cyJ92_9.other W102 ne_cs_b3).other W107 ne_cs_b7).other W111 ne_cs_b16)
        have ft122 := (lteq (lteq (lteq cyJ92_10 W102.size.symm) W107.size.symm) W111.size.symm)
        have ft123 := (Ia.other (Ia.other I_b3_102 W107 ne_b3_b7) W111 ne_b3_b16)
        have ft124 := (lteq (lteq (lteq cyJ92_12 W102.size.symm) W107.size.symm) W111.size.symm)
        have ft125 := (Ia.other I_b7_107 W111 ne_b7_b16)
        have ft126 := (lteq (lteq (lteq cyJ92_14 W102.size.symm) W107.size.symm) W111.size.symm)
        have ft127 := (lteq (lteq (lteq cyJ92_16 W102.size.symm) W107.size.symm) W111.size.symm)
        exact ih _ h111 _ (i + (1 : Int32)) (fl2 + (1 : Int32)) fl2 X111 e111 O111 N111 K111 ft112 ft113 ft114 ft115 ft116 ft117 ft118 ft119 ft120 ft121 ft122 ft123 ft124 ft125 ft126 V_b16_111 ft127 (lpI hi0_LEl2 hi1_LEl2).1 (lpI hi0_LEl2 hi1_LEl2).2 (lpF (T := ((na + nb) + nc)) hf_LEl2 k2 hi0_LEl2 hi1_LEl2 k5)
      have ft128 := (((cyJ70_0.wr W82).wr W87).wr W91)
      have ft129 := (lteq (lteq (lteq cyJ70_1 W82.size.symm) W87.size.symm) W91.size.symm)
      have ft130 := (Cx.wr (Cx.wr (Cx.wr cyJ70_2 W82 ne_a2_b3 ne_ed_b3 ne_l0_b3 ne_l1_b3 ne_l2_b3 ne_sa_b3 ne_sb_b3 ne_sc_b3) W87 ne_a2_b7 ne_ed_b7 ne_l0_b7 ne_l1_b7 ne_l2_b7 ne_sa_b7 ne_sb_b7 ne_sc_b7) W91 ne_a2_b16 ne_ed_b16 ne_l0_b16 ne_l1_b16 ne_l2_b16 ne_sa_b16 ne_sb_b16 ne_sc_b16)
      have ft131 := (((cyJ70_3.other W82 (Or.inl ne_a1_b3)).other W87 (Or.inl ne_a1_b7)).other W91 (Or.inl ne_a1_b16))
      have ft132 := (((cyJ70_4.other W82 (Or.inl ne_a1_b3)).other W87 (Or.inl ne_a1_b7)).other W91 (Or.inl ne_a1_b16))
      have ft133 := (((cyJ70_5.other W82 (Or.inl ne_a1_b3)).other W87 (Or.inl ne_a1_b7)).other W91 (Or.inl ne_a1_b16))
      have ft134 := ((ft83.other W87 (Or.inl ne_a1_b7)).other W91 (Or.inl ne_a1_b16))
      have ft135 := (((cyJ70_7.other W82 ne_fs_b3).other W87 ne_fs_b7).other W91 ne_fs_b16)
      have ft136 := (lteq (lteq (lteq cyJ70_8 W82.size.symm) W87.size.symm) W91.size.symm)
      have ft137 := (((cyJ70_9.other W82 ne_cs_b3).other W87 ne_cs_b7).other W91 ne_cs_b16)
      have ft138 := (lteq (lteq (lteq cyJ70_10 W82.size.symm) W87.size.symm) W91.size.symm)
      have ft139 := (Ia.other (Ia.other I_b3_82 W87 ne_b3_b7) W91 ne_b3_b16)
      have ft140 := (lteq (lteq (lteq cyJ70_12 W82.size.symm) W87.size.symm) W91.size.symm)
      have ft141 := (Ia.other I_b7_87 W91 ne_b7_b16)
      have ft142 := (lteq (lteq (lteq cyJ70_14 W82.size.symm) W87.size.symm) W91.size.symm)
      have ft143 := (lteq (lteq (lteq cyJ70_16 W82.size.symm) W87.size.symm) W91.size.symm)
      exact LEl2 (nc.toInt - 1).toNat _ h91 _ (1 : Int32) (fl1 + (1 : Int32)) fl1 X91 e91 O91 N91 K91 ft128 ft129 ft130 ft131 ft132 ft133 ft134 ft135 ft136 ft137 ft138 ft139 ft140 ft141 ft142 V_b16_91 ft143 (by decide) (lp1 bc2) (lpH hs_l2 k2 k8)
     | succ fuel ih =>
      intro TJ70 hJ70 LJ70 i fl1 dl1 XJ70 eJ70 OJ70 NJ70 KJ70 cyJ70_0 cyJ70_1 cyJ70_2 cyJ70_3 cyJ70_4 cyJ70_5 cyJ70_6 cyJ70_7 cyJ70_8 cyJ70_9 cyJ70_10 cyJ70_11 cyJ70_12 cyJ70_13 cyJ70_14 cyJ70_15 cyJ70_16 hi0_LEl1 hi1_LEl1 hf_LEl1
      refine zil 415 XJ70 hx (D d14_413) rfl ?_
      refine zal 417 XJ70 hx (D d14_415) rfl rfl ?_
      refine gV 420 1 11 67 XJ70 NJ70 hx hZ (y := mq34) hown hml (ww hw 158 rfl) (ww hw 159 rfl) (ww hw 161 rfl) (ww hw 160 rfl) (rmSc l Z a0 hw [] l1 sb kB nb eb hJ70 n0 OJ70 cyJ70_2.2.2.2.2.2.2.2.2.2.1 cyJ70_2.2.2.2.2.2.2.2.2.2.2.1 cyJ70_2.2.2.2.2.2.2.2.2.2.2.2.1) (ww hw 162 rfl) (ww hw 32 rfl) eJ70 cyJ70_2.2.2.2.2.2.2.2.2.2.1 [] [(.int i)] (lenOf pd___I rfl) (D d14_417) ?_
      rintro T144 L144 M144 _ X144 uu144 ⟨rfl, Nq144, kq144⟩
      have N144 := uu144 Nq144
      refine zsk [(.int nb), (.int i)] ?_
      refine zcn 423 X144 hx (D d14_420) (tlt (lpS hi1_LEl1)).2.1 ?_
      refine zal 425 X144 hx (D d14_423) rfl rfl ?_
      refine zil 427 X144 hx (D d14_425) rfl ?_
      refine gV 430 0 11 67 X144 N144 hx hZ (y := mq35) hown hml (ww hw 163 rfl) (ww hw 164 rfl) (ww hw 166 rfl) (ww hw 165 rfl) (rmSa l Z a0 hw [] l1 sb kB nb eb i hJ70 n0 OJ70 ln_sb al_sb (lpN hi0_LEl1) (lpS hi1_LEl1) cyJ70_2.2.2.2.2.2.2.2.2.2.1 cyJ70_2.2.2.2.2.2.2.2.2.2.2.1 cyJ70_2.2.2.2.2.2.2.2.2.2.2.2.1) (ww hw 167 rfl) (ww hw 32 rfl) kq144 cyJ70_2.2.2.2.2.2.2.2.2.2.1 [(.int i)] [] (lenOf pd__I_I rfl) (D d14_427) ?_
      rintro T145 L145 M145 _ X145 uu145 ⟨rfl, Nq145, kq145⟩
      have N145 := uu145 Nq145
      refine zsk [(.int 1)] ?_
      refine zsl 432 #[rv a1, iv 1, rv a2, .val (.int ((na + nb) + nc)), rv b16, iv 1, rv l1, iv i, iv 1, iv dl1] X145 hx (D d14_430) ?_
      refine zan 433 X145 hx (D d14_432) rfl rfl ?_
      refine zgf 436 X145 hx hZ hown (host := "") (Or.inl (ww hw 289 rfl)) Via.refl kq145 cyJ70_4 (D d14_433) fun T146 X146 e146 => ?_
      refine zil 438 X146 hx (D d14_436) rfl ?_
      obtain ⟨cl147, Ar147, -, S147, -, H147, -⟩ := id cyJ70_9
      have hin147 : ¬ ((1 : Int32) < 0 ∨ cl147.slots.size ≤ ((1 : Int32)).toNatClampNeg) := inb_of S147 ⟨by decide, by decide⟩
      have hat147 : cl147.slots[((1 : Int32)).toNatClampNeg]? = some (.int (0 : Int32)) := H147.at hin147 rfl
      refine Go.st (f' := (mkF m 439 #[rv a1, iv 1, rv a2, .val (.int ((na + nb) + nc)), rv b16, iv 1, rv l1, iv i, iv 1, iv dl1] [(.int 0)])) (fun _ k => X146.iaload hx (j := (1 : Int32)) (v := (.int (0 : Int32))) (by rw [e146]; exact Ar147.1) (State.isArrayOf_alike hZ.alike Ar147.2.1) Ar147.2.2 hin147 hat147 (g := (mkF m 438 #[rv a1, iv 1, rv a2, .val (.int ((na + nb) + nc)), rv b16, iv 1, rv l1, iv i, iv 1, iv dl1] [(.int 1), (.ref cs)])) rfl rfl (D d14_438) _ k) ?_
      refine zal 441 X146 hx (D d14_439) rfl rfl ?_
      refine zil 443 X146 hx (D d14_441) rfl ?_
      obtain ⟨cl148, Ar148, -, S148, -, H148, -⟩ := id cyJ70_15
      have hin148 : ¬ ((1 : Int32) < 0 ∨ cl148.slots.size ≤ ((1 : Int32)).toNatClampNeg) := inb_of S148 ⟨by decide, by decide⟩
      have hat148 : cl148.slots[((1 : Int32)).toNatClampNeg]? = some (.int fl1) := H148.at hin148 rfl
      refine Go.st (f' := (mkF m 444 #[rv a1, iv 1, rv a2, .val (.int ((na + nb) + nc)), rv b16, iv 1, rv l1, iv i, iv 1, iv dl1] [(.int fl1), (.int 0)])) (fun _ k => X146.iaload hx (j := (1 : Int32)) (v := (.int fl1)) (by rw [e146]; exact Ar148.1) (State.isArrayOf_alike hZ.alike Ar148.2.1) Ar148.2.2 hin148 hat148 (g := (mkF m 443 #[rv a1, iv 1, rv a2, .val (.int ((na + nb) + nc)), rv b16, iv 1, rv l1, iv i, iv 1, iv dl1] [(.int 1), (.ref b16), (.int 0)])) rfl rfl (D d14_443) _ k) ?_
      refine zad 445 X146 hx (D d14_444) ?_
      rw [Int32.zero_add fl1]
      refine zsl 447 #[rv a1, iv 1, rv a2, .val (.int ((na + nb) + nc)), rv b16, iv 1, rv l1, iv i, iv 1, iv fl1] X146 hx (D d14_445) ?_
      refine zan 448 X146 hx (D d14_447) rfl rfl ?_
      refine zgf 451 X146 hx hZ hown (host := "") (Or.inl (ww hw 291 rfl)) Via.refl e146 cyJ70_5 (D d14_448) fun T149 X149 e149 => ?_
      refine zil 453 X149 hx (D d14_451) rfl ?_
      refine zil 455 X149 hx (D d14_453) rfl ?_
      obtain ⟨cl150, Ar150, S150, Nx150, H150⟩ := id cyJ70_11
      have hin150 := inb_of S150 ⟨(lpA (T := ((na + nb) + nc)) hf_LEl1 k1 hi0_LEl1 hi1_LEl1 k4).1, (lpA (T := ((na + nb) + nc)) hf_LEl1 k1 hi0_LEl1 hi1_LEl1 k4).2⟩
      obtain ⟨T151, h151, X151, e151, W151, st151⟩ := stI X149 hx hZ e149 Ar150 (j := fl1) hin150 (g := (mkF m 455 #[rv a1, iv 1, rv a2, .val (.int ((na + nb) + nc)), rv b16, iv 1, rv l1, iv i, iv 1, iv fl1] [(.int 1), (.int fl1), (.ref b3)])) rfl rfl (D d14_455)
      have I_b3_151 : Ia Z h151 b3 ((na + nb) + nc) := Ia.set Ar150 S150 Nx150 H150 hin150 W151
      have N151 := Fr.snoc X151 N145 g_b3
      have O151 : Old Z n0 h151 := OJ70.wr W151 g_b3
      have K151 : Keep h0 h151 [a1] := KJ70.wr W151 (Or.inr sz_b3)
      refine zst 456 #[rv a1, iv 1, rv a2, .val (.int ((na + nb) + nc)), rv b16, iv 1, rv l1, iv i, iv 1, iv fl1] [] st151 ?_
      refine zan 457 X151 hx (D d14_456) rfl rfl ?_
      have ft152 := (cyJ70_6.other W151 (Or.inl ne_a1_b3))
      refine zgf 460 X151 hx hZ hown (host := "") (Or.inl (ww hw 293 rfl)) Via.refl e151 ft152 (D d14_457) fun T153 X153 e153 => ?_
      refine zil 462 X153 hx (D d14_460) rfl ?_
      refine zil 464 X153 hx (D d14_462) rfl ?_
      have ft155 := (Ia.other cyJ70_13 W151 (Ne.symm ne_b3_b7))
      obtain ⟨cl154, Ar154, S154, Nx154, H154⟩ := id ft155
      have hin154 := inb_of S154 ⟨(lpA (T := ((na + nb) + nc)) hf_LEl1 k1 hi0_LEl1 hi1_LEl1 k4).1, (lpA (T := ((na + nb) + nc)) hf_LEl1 k1 hi0_LEl1 hi1_LEl1 k4).2⟩
      obtain ⟨T156, h156, X156, e156, W156, st156⟩ := stI X153 hx hZ e153 Ar154 (j := fl1) hin154 (g := (mkF m 464 #[rv a1, iv 1, rv a2, .val (.int ((na + nb) + nc)), rv b16, iv 1, rv l1, iv i, iv 1, iv fl1] [(.int i), (.int fl1), (.ref b7)])) rfl rfl (D d14_464)
      have I_b7_156 : Ia Z h156 b7 ((na + nb) + nc) := Ia.set Ar154 S154 Nx154 H154 hin154 W156
      have N156 := Fr.snoc X156 N151 g_b7
      have O156 : Old Z n0 h156 := O151.wr W156 g_b7
      have K156 : Keep h0 h156 [a1] := K151.wr W156 (Or.inr sz_b7)
      refine zst 465 #[rv a1, iv 1, rv a2, .val (.int ((na + nb) + nc)), rv b16, iv 1, rv l1, iv i, iv 1, iv fl1] [] st156 ?_
      refine zal 467 X156 hx (D d14_465) rfl rfl ?_
      refine zil 469 X156 hx (D d14_467) rfl ?_
      refine Go.st (f' := (mkF m 470 #[rv a1, iv 1, rv a2, .val (.int ((na + nb) + nc)), rv b16, iv 1, rv l1, iv i, iv 1, iv fl1] [(.int 1), (.ref b16), (.int 1), (.ref b16)])) (fun _ k => XT.dup2 X156.here hx rfl (D d14_469) rfl rfl rfl k) ?_
      have ft158 := ((cyJ70_15.other W151 (Ne.symm ne_b3_b16)).other W156 (Ne.symm ne_b7_b16))
      obtain ⟨cl157, Ar157, -, S157, -, H157, -⟩ := id ft158
      have hin157 : ¬ ((1 : Int32) < 0 ∨ cl157.slots.size ≤ ((1 : Int32)).toNatClampNeg) := inb_of S157 ⟨by decide, by decide⟩
      have hat157 : cl157.slots[((1 : Int32)).toNatClampNeg]? = some (.int fl1) := H157.at hin157 rfl
      refine Go.st (f' := (mkF m 471 #[rv a1, iv 1, rv a2, .val (.int ((na + nb) + nc)), rv b16, iv 1, rv l1, iv i, iv 1, iv fl1] [(.int fl1), (.int 1), (.ref b16)])) (fun _ k => X156.iaload hx (j := (1 : Int32)) (v := (.int fl1)) (by rw [e156]; exact Ar157.1) (State.isArrayOf_alike hZ.alike Ar157.2.1) Ar157.2.2 hin157 hat157 (g := (mkF m 470 #[rv a1, iv 1, rv a2, .val (.int ((na + nb) + nc)), rv b16, iv 1, rv l1, iv i, iv 1, iv fl1] [(.int 1), (.ref b16), (.int 1), (.ref b16)])) rfl rfl (D d14_470) _ k) ?_
      refine zic 472 1 X156 hx (D d14_471) ?_
      refine zad 473 X156 hx (D d14_472) ?_
      obtain ⟨cl159, Ar159, q159, S159, Nx159, H159, G159⟩ := id ft158
      have hin159 : ¬ ((1 : Int32) < 0 ∨ cl159.slots.size ≤ ((1 : Int32)).toNatClampNeg) := inb_of S159 ⟨by decide, by decide⟩
      obtain ⟨T160, h160, X160, e160, W160, st160⟩ := stI X156 hx hZ e156 Ar159 (j := (1 : Int32)) hin159 (g := (mkF m 473 #[rv a1, iv 1, rv a2, .val (.int ((na + nb) + nc)), rv b16, iv 1, rv l1, iv i, iv 1, iv fl1] [(.int (fl1 + (1 : Int32))), (.int 1), (.ref b16)])) rfl rfl (D d14_473)
      have V_b16_160 : Arv Z h160 b16 kc16 .int (2 : Int32) [(.int (0 : Int32)), (.int (fl1 + (1 : Int32)))] (.int (0 : Int32)) := Arv.set Ar159 q159 S159 Nx159 H159 G159 rfl W160 1 rfl (Nat.le_of_ble_eq_true rfl)
      have N160 := Fr.snoc X160 N156 g_b16
      have O160 : Old Z n0 h160 := O156.wr W160 g_b16
      have K160 : Keep h0 h160 [a1] := K156.wr W160 (Or.inr sz_b16)
      refine zst 474 #[rv a1, iv 1, rv a2, .val (.int ((na + nb) + nc)), rv b16, iv 1, rv l1, iv i, iv 1, iv fl1] [] st160 ?_
      refine zii 477 #[rv a1, iv 1, rv a2, .val (.int ((na + nb) + nc)), rv b16, iv 1, rv l1, .val (.int (i + (1 : Int32))), iv 1, iv fl1] X160 hx (D d14_474) rfl ?_
      refine zgo 413 X160 hx (D d14_477) ?_
      have ft161 := (((cyJ70_0.wr W151).wr W156).wr W160)
      have ft162 := (lteq (lteq (lteq cyJ70_1 W151.size.symm) W156.size.symm) W160.size.symm)
      have ft163 := (Cx.wr (Cx.wr (Cx.wr cyJ70_2 W151 ne_a2_b3 ne_ed_b3 ne_l0_b3 ne_l1_b3 ne_l2_b3 ne_sa_b3 ne_sb_b3 ne_sc_b3) W156 ne_a2_b7 ne_ed_b7 ne_l0_b7 ne_l1_b7 ne_l2_b7 ne_sa_b7 ne_sb_b7 ne_sc_b7) W160 ne_a2_b16 ne_ed_b16 ne_l0_b16 ne_l1_b16 ne_l2_b16 ne_sa_b16 ne_sb_b16 ne_sc_b16)
      have ft164 := (((cyJ70_3.other W151 (Or.inl ne_a1_b3)).other W156 (Or.inl ne_a1_b7)).other W160 (Or.inl ne_a1_b16))
      have ft165 := (((cyJ70_4.other W151 (Or.inl ne_a1_b3)).other W156 (Or.inl ne_a1_b7)).other W160 (Or.inl ne_a1_b16))
      have ft166 := (((cyJ70_5.other W151 (Or.inl ne_a1_b3)).other W156 (Or.inl ne_a1_b7)).other W160 (Or.inl ne_a1_b16))
      have ft167 := ((ft152.other W156 (Or.inl ne_a1_b7)).other W160 (Or.inl ne_a1_b16))
      have ft168 := (((cyJ70_7.other W151 ne_fs_b3).other W156 ne_fs_b7).other W160 ne_fs_b16)
      have ft169 := (lteq (lteq (lteq cyJ70_8 W151.size.symm) W156.size.symm) W160.size.symm)
      have ft170 := (((cyJ70_9.other W151 ne_cs_b3).other W156 ne_cs_b7).other W160 ne_cs_b16)
      have ft171 := (lteq (lteq (lteq cyJ70_10 W151.size.symm) W156.size.symm) W160.size.symm)
      have ft172 := (Ia.other (Ia.other I_b3_151 W156 ne_b3_b7) W160 ne_b3_b16)
      have ft173 := (lteq (lteq (lteq cyJ70_12 W151.size.symm) W156.size.symm) W160.size.symm)
      have ft174 := (Ia.other I_b7_156 W160 ne_b7_b16)
      have ft175 := (lteq (lteq (lteq cyJ70_14 W151.size.symm) W156.size.symm) W160.size.symm)
      have ft176 := (lteq (lteq (lteq cyJ70_16 W151.size.symm) W156.size.symm) W160.size.symm)
      exact ih _ h160 _ (i + (1 : Int32)) (fl1 + (1 : Int32)) fl1 X160 e160 O160 N160 K160 ft161 ft162 ft163 ft164 ft165 ft166 ft167 ft168 ft169 ft170 ft171 ft172 ft173 ft174 ft175 V_b16_160 ft176 (lpI hi0_LEl1 hi1_LEl1).1 (lpI hi0_LEl1 hi1_LEl1).2 (lpF (T := ((na + nb) + nc)) hf_LEl1 k1 hi0_LEl1 hi1_LEl1 k4)
    have ft177 := (((cyJ48_0.wr W60).wr W65).wr W69)
    have ft178 := (lteq (lteq (lteq cyJ48_1 W60.size.symm) W65.size.symm) W69.size.symm)
    have ft179 := (Cx.wr (Cx.wr (Cx.wr cyJ48_2 W60 ne_a2_b3 ne_ed_b3 ne_l0_b3 ne_l1_b3 ne_l2_b3 ne_sa_b3 ne_sb_b3 ne_sc_b3) W65 ne_a2_b7 ne_ed_b7 ne_l0_b7 ne_l1_b7 ne_l2_b7 ne_sa_b7 ne_sb_b7 ne_sc_b7) W69 ne_a2_b16 ne_ed_b16 ne_l0_b16 ne_l1_b16 ne_l2_b16 ne_sa_b16 ne_sb_b16 ne_sc_b16)
    have ft180 := (((cyJ48_3.other W60 (Or.inl ne_a1_b3)).other W65 (Or.inl ne_a1_b7)).other W69 (Or.inl ne_a1_b16))
    have ft181 := (((cyJ48_4.other W60 (Or.inl ne_a1_b3)).other W65 (Or.inl ne_a1_b7)).other W69 (Or.inl ne_a1_b16))
    have ft182 := (((cyJ48_5.other W60 (Or.inl ne_a1_b3)).other W65 (Or.inl ne_a1_b7)).other W69 (Or.inl ne_a1_b16))
    have ft183 := ((ft61.other W65 (Or.inl ne_a1_b7)).other W69 (Or.inl ne_a1_b16))
    have ft184 := (((cyJ48_7.other W60 ne_fs_b3).other W65 ne_fs_b7).other W69 ne_fs_b16)
    have ft185 := (lteq (lteq (lteq cyJ48_8 W60.size.symm) W65.size.symm) W69.size.symm)
    have ft186 := (((cyJ48_9.other W60 ne_cs_b3).other W65 ne_cs_b7).other W69 ne_cs_b16)
    have ft187 := (lteq (lteq (lteq cyJ48_10 W60.size.symm) W65.size.symm) W69.size.symm)
    have ft188 := (Ia.other (Ia.other I_b3_60 W65 ne_b3_b7) W69 ne_b3_b16)
    have ft189 := (lteq (lteq (lteq cyJ48_12 W60.size.symm) W65.size.symm) W69.size.symm)
    have ft190 := (Ia.other I_b7_65 W69 ne_b7_b16)
    have ft191 := (lteq (lteq (lteq cyJ48_14 W60.size.symm) W65.size.symm) W69.size.symm)
    have ft192 := (lteq (lteq (lteq cyJ48_16 W60.size.symm) W65.size.symm) W69.size.symm)
    exact LEl1 (nb.toInt - 1).toNat _ h69 _ (1 : Int32) (fl0 + (1 : Int32)) fl0 X69 e69 O69 N69 K69 ft177 ft178 ft179 ft180 ft181 ft182 ft183 ft184 ft185 ft186 ft187 ft188 ft189 ft190 ft191 V_b16_69 ft192 (by decide) (lp1 bb2) (lpH hs_l1 k1 k7)
   | succ fuel ih =>
    intro TJ48 hJ48 LJ48 i fl0 dl0 XJ48 eJ48 OJ48 NJ48 KJ48 cyJ48_0 cyJ48_1 cyJ48_2 cyJ48_3 cyJ48_4 cyJ48_5 cyJ48_6 cyJ48_7 cyJ48_8 cyJ48_9 cyJ48_10 cyJ48_11 cyJ48_12 cyJ48_13 cyJ48_14 cyJ48_15 cyJ48_16 hi0_LEl0 hi1_LEl0 hf_LEl0
    refine zil 415 XJ48 hx (D d14_413) rfl ?_
    refine zal 417 XJ48 hx (D d14_415) rfl rfl ?_
    refine gV 420 1 11 67 XJ48 NJ48 hx hZ (y := mq34) hown hml (ww hw 158 rfl) (ww hw 159 rfl) (ww hw 161 rfl) (ww hw 160 rfl) (rmSc l Z a0 hw [] l0 sa kA na ea hJ48 n0 OJ48 cyJ48_2.2.2.2.2.2.2.1 cyJ48_2.2.2.2.2.2.2.2.1 cyJ48_2.2.2.2.2.2.2.2.2.1) (ww hw 162 rfl) (ww hw 32 rfl) eJ48 cyJ48_2.2.2.2.2.2.2.1 [] [(.int i)] (lenOf pd___I rfl) (D d14_417) ?_
    rintro T193 L193 M193 _ X193 uu193 ⟨rfl, Nq193, kq193⟩
    have N193 := uu193 Nq193
    refine zsk [(.int na), (.int i)] ?_
    refine zcn 423 X193 hx (D d14_420) (tlt (lpS hi1_LEl0)).2.1 ?_
    refine zal 425 X193 hx (D d14_423) rfl rfl ?_
    refine zil 427 X193 hx (D d14_425) rfl ?_
    refine gV 430 0 11 67 X193 N193 hx hZ (y := mq35) hown hml (ww hw 163 rfl) (ww hw 164 rfl) (ww hw 166 rfl) (ww hw 165 rfl) (rmSa l Z a0 hw [] l0 sa kA na ea i hJ48 n0 OJ48 ln_sa al_sa (lpN hi0_LEl0) (lpS hi1_LEl0) cyJ48_2.2.2.2.2.2.2.1 cyJ48_2.2.2.2.2.2.2.2.1 cyJ48_2.2.2.2.2.2.2.2.2.1) (ww hw 167 rfl) (ww hw 32 rfl) kq193 cyJ48_2.2.2.2.2.2.2.1 [(.int i)] [] (lenOf pd__I_I rfl) (D d14_427) ?_
    rintro T194 L194 M194 _ X194 uu194 ⟨rfl, Nq194, kq194⟩
    have N194 := uu194 Nq194
    refine zsk [(.int 1)] ?_
    refine zsl 432 #[rv a1, iv 1, rv a2, .val (.int ((na + nb) + nc)), rv b16, iv 0, rv l0, iv i, iv 1, iv dl0] X194 hx (D d14_430) ?_
    refine zan 433 X194 hx (D d14_432) rfl rfl ?_
    refine zgf 436 X194 hx hZ hown (host := "") (Or.inl (ww hw 289 rfl)) Via.refl kq194 cyJ48_4 (D d14_433) fun T195 X195 e195 => ?_
    refine zil 438 X195 hx (D d14_436) rfl ?_
    obtain ⟨cl196, Ar196, -, S196, -, H196, -⟩ := id cyJ48_9
    have hin196 : ¬ ((1 : Int32) < 0 ∨ cl196.slots.size ≤ ((1 : Int32)).toNatClampNeg) := inb_of S196 ⟨by decide, by decide⟩
    have hat196 : cl196.slots[((1 : Int32)).toNatClampNeg]? = some (.int (0 : Int32)) := H196.at hin196 rfl
    refine Go.st (f' := (mkF m 439 #[rv a1, iv 1, rv a2, .val (.int ((na + nb) + nc)), rv b16, iv 0, rv l0, iv i, iv 1, iv dl0] [(.int 0)])) (fun _ k => X195.iaload hx (j := (1 : Int32)) (v := (.int (0 : Int32))) (by rw [e195]; exact Ar196.1) (State.isArrayOf_alike hZ.alike Ar196.2.1) Ar196.2.2 hin196 hat196 (g := (mkF m 438 #[rv a1, iv 1, rv a2, .val (.int ((na + nb) + nc)), rv b16, iv 0, rv l0, iv i, iv 1, iv dl0] [(.int 1), (.ref cs)])) rfl rfl (D d14_438) _ k) ?_
    refine zal 441 X195 hx (D d14_439) rfl rfl ?_
    refine zil 443 X195 hx (D d14_441) rfl ?_
    obtain ⟨cl197, Ar197, -, S197, -, H197, -⟩ := id cyJ48_15
    have hin197 : ¬ ((1 : Int32) < 0 ∨ cl197.slots.size ≤ ((1 : Int32)).toNatClampNeg) := inb_of S197 ⟨by decide, by decide⟩
    have hat197 : cl197.slots[((1 : Int32)).toNatClampNeg]? = some (.int fl0) := H197.at hin197 rfl
    refine Go.st (f' := (mkF m 444 #[rv a1, iv 1, rv a2, .val (.int ((na + nb) + nc)), rv b16, iv 0, rv l0, iv i, iv 1, iv dl0] [(.int fl0), (.int 0)])) (fun _ k => X195.iaload hx (j := (1 : Int32)) (v := (.int fl0)) (by rw [e195]; exact Ar197.1) (State.isArrayOf_alike hZ.alike Ar197.2.1) Ar197.2.2 hin197 hat197 (g := (mkF m 443 #[rv a1, iv 1, rv a2, .val (.int ((na + nb) + nc)), rv b16, iv 0, rv l0, iv i, iv 1, iv dl0] [(.int 1), (.ref b16), (.int 0)])) rfl rfl (D d14_443) _ k) ?_
    refine zad 445 X195 hx (D d14_444) ?_
    rw [Int32.zero_add fl0]
    refine zsl 447 #[rv a1, iv 1, rv a2, .val (.int ((na + nb) + nc)), rv b16, iv 0, rv l0, iv i, iv 1, iv fl0] X195 hx (D d14_445) ?_
    refine zan 448 X195 hx (D d14_447) rfl rfl ?_
    refine zgf 451 X195 hx hZ hown (host := "") (Or.inl (ww hw 291 rfl)) Via.refl e195 cyJ48_5 (D d14_448) fun T198 X198 e198 => ?_
    refine zil 453 X198 hx (D d14_451) rfl ?_
    refine zil 455 X198 hx (D d14_453) rfl ?_
    obtain ⟨cl199, Ar199, S199, Nx199, H199⟩ := id cyJ48_11
    have hin199 := inb_of S199 ⟨(lpA (T := ((na + nb) + nc)) hf_LEl0 k0 hi0_LEl0 hi1_LEl0 k3).1, (lpA (T := ((na + nb) + nc)) hf_LEl0 k0 hi0_LEl0 hi1_LEl0 k3).2⟩
    obtain ⟨T200, h200, X200, e200, W200, st200⟩ := stI X198 hx hZ e198 Ar199 (j := fl0) hin199 (g := (mkF m 455 #[rv a1, iv 1, rv a2, .val (.int ((na + nb) + nc)), rv b16, iv 0, rv l0, iv i, iv 1, iv fl0] [(.int 0), (.int fl0), (.ref b3)])) rfl rfl (D d14_455)
    have I_b3_200 : Ia Z h200 b3 ((na + nb) + nc) := Ia.set Ar199 S199 Nx199 H199 hin199 W200
    have N200 := Fr.snoc X200 N194 g_b3
    have O200 : Old Z n0 h200 := OJ48.wr W200 g_b3
    have K200 : Keep h0 h200 [a1] := KJ48.wr W200 (Or.inr sz_b3)
    refine zst 456 #[rv a1, iv 1, rv a2, .val (.int ((na + nb) + nc)), rv b16, iv 0, rv l0, iv i, iv 1, iv fl0] [] st200 ?_
    refine zan 457 X200 hx (D d14_456) rfl rfl ?_
    have ft201 := (cyJ48_6.other W200 (Or.inl ne_a1_b3))
    refine zgf 460 X200 hx hZ hown (host := "") (Or.inl (ww hw 293 rfl)) Via.refl e200 ft201 (D d14_457) fun T202 X202 e202 => ?_
    refine zil 462 X202 hx (D d14_460) rfl ?_
    refine zil 464 X202 hx (D d14_462) rfl ?_
    have ft204 := (Ia.other cyJ48_13 W200 (Ne.symm ne_b3_b7))
    obtain ⟨cl203, Ar203, S203, Nx203, H203⟩ := id ft204
    have hin203 := inb_of S203 ⟨(lpA (T := ((na + nb) + nc)) hf_LEl0 k0 hi0_LEl0 hi1_LEl0 k3).1, (lpA (T := ((na + nb) + nc)) hf_LEl0 k0 hi0_LEl0 hi1_LEl0 k3).2⟩
    obtain ⟨T205, h205, X205, e205, W205, st205⟩ := stI X202 hx hZ e202 Ar203 (j := fl0) hin203 (g := (mkF m 464 #[rv a1, iv 1, rv a2, .val (.int ((na + nb) + nc)), rv b16, iv 0, rv l0, iv i, iv 1, iv fl0] [(.int i), (.int fl0), (.ref b7)])) rfl rfl (D d14_464)
    have I_b7_205 : Ia Z h205 b7 ((na + nb) + nc) := Ia.set Ar203 S203 Nx203 H203 hin203 W205
    have N205 := Fr.snoc X205 N200 g_b7
    have O205 : Old Z n0 h205 := O200.wr W205 g_b7
    have K205 : Keep h0 h205 [a1] := K200.wr W205 (Or.inr sz_b7)
    refine zst 465 #[rv a1, iv 1, rv a2, .val (.int ((na + nb) + nc)), rv b16, iv 0, rv l0, iv i, iv 1, iv fl0] [] st205 ?_
    refine zal 467 X205 hx (D d14_465) rfl rfl ?_
    refine zil 469 X205 hx (D d14_467) rfl ?_
    refine Go.st (f' := (mkF m 470 #[rv a1, iv 1, rv a2, .val (.int ((na + nb) + nc)), rv b16, iv 0, rv l0, iv i, iv 1, iv fl0] [(.int 1), (.ref b16), (.int 1), (.ref b16)])) (fun _ k => XT.dup2 X205.here hx rfl (D d14_469) rfl rfl rfl k) ?_
    have ft207 := ((cyJ48_15.other W200 (Ne.symm ne_b3_b16)).other W205 (Ne.symm ne_b7_b16))
    obtain ⟨cl206, Ar206, -, S206, -, H206, -⟩ := id ft207
    have hin206 : ¬ ((1 : Int32) < 0 ∨ cl206.slots.size ≤ ((1 : Int32)).toNatClampNeg) := inb_of S206 ⟨by decide, by decide⟩
    have hat206 : cl206.slots[((1 : Int32)).toNatClampNeg]? = some (.int fl0) := H206.at hin206 rfl
    refine Go.st (f' := (mkF m 471 #[rv a1, iv 1, rv a2, .val (.int ((na + nb) + nc)), rv b16, iv 0, rv l0, iv i, iv 1, iv fl0] [(.int fl0), (.int 1), (.ref b16)])) (fun _ k => X205.iaload hx (j := (1 : Int32)) (v := (.int fl0)) (by rw [e205]; exact Ar206.1) (State.isArrayOf_alike hZ.alike Ar206.2.1) Ar206.2.2 hin206 hat206 (g := (mkF m 470 #[rv a1, iv 1, rv a2, .val (.int ((na + nb) + nc)), rv b16, iv 0, rv l0, iv i, iv 1, iv fl0] [(.int 1), (.ref b16), (.int 1), (.ref b16)])) rfl rfl (D d14_470) _ k) ?_
    refine zic 472 1 X205 hx (D d14_471) ?_
    refine zad 473 X205 hx (D d14_472) ?_
    obtain ⟨cl208, Ar208, q208, S208, Nx208, H208, G208⟩ := id ft207
    have hin208 : ¬ ((1 : Int32) < 0 ∨ cl208.slots.size ≤ ((1 : Int32)).toNatClampNeg) := inb_of S208 ⟨by decide, by decide⟩
    obtain ⟨T209, h209, X209, e209, W209, st209⟩ := stI X205 hx hZ e205 Ar208 (j := (1 : Int32)) hin208 (g := (mkF m 473 #[rv a1, iv 1, rv a2, .val (.int ((na + nb) + nc)), rv b16, iv 0, rv l0, iv i, iv 1, iv fl0] [(.int (fl0 + (1 : Int32))), (.int 1), (.ref b16)])) rfl rfl (D d14_473)
    have V_b16_209 : Arv Z h209 b16 kc16 .int (2 : Int32) [(.int (0 : Int32)), (.int (fl0 + (1 : Int32)))] (.int (0 : Int32)) := Arv.set Ar208 q208 S208 Nx208 H208 G208 rfl W209 1 rfl (Nat.le_of_ble_eq_true rfl)
    have N209 := Fr.snoc X209 N205 g_b16
    have O209 : Old Z n0 h209 := O205.wr W209 g_b16
    have K209 : Keep h0 h209 [a1] := K205.wr W209 (Or.inr sz_b16)
    refine zst 474 #[rv a1, iv 1, rv a2, .val (.int ((na + nb) + nc)), rv b16, iv 0, rv l0, iv i, iv 1, iv fl0] [] st209 ?_
    refine zii 477 #[rv a1, iv 1, rv a2, .val (.int ((na + nb) + nc)), rv b16, iv 0, rv l0, .val (.int (i + (1 : Int32))), iv 1, iv fl0] X209 hx (D d14_474) rfl ?_
    refine zgo 413 X209 hx (D d14_477) ?_
    have ft210 := (((cyJ48_0.wr W200).wr W205).wr W209)
    have ft211 := (lteq (lteq (lteq cyJ48_1 W200.size.symm) W205.size.symm) W209.size.symm)
    have ft212 := (Cx.wr (Cx.wr (Cx.wr cyJ48_2 W200 ne_a2_b3 ne_ed_b3 ne_l0_b3 ne_l1_b3 ne_l2_b3 ne_sa_b3 ne_sb_b3 ne_sc_b3) W205 ne_a2_b7 ne_ed_b7 ne_l0_b7 ne_l1_b7 ne_l2_b7 ne_sa_b7 ne_sb_b7 ne_sc_b7) W209 ne_a2_b16 ne_ed_b16 ne_l0_b16 ne_l1_b16 ne_l2_b16 ne_sa_b16 ne_sb_b16 ne_sc_b16)
    have ft213 := (((cyJ48_3.other W200 (Or.inl ne_a1_b3)).other W205 (Or.inl ne_a1_b7)).other W209 (Or.inl ne_a1_b16))
    have ft214 := (((cyJ48_4.other W200 (Or.inl ne_a1_b3)).other W205 (Or.inl ne_a1_b7)).other W209 (Or.inl ne_a1_b16))
    have ft215 := (((cyJ48_5.other W200 (Or.inl ne_a1_b3)).other W205 (Or.inl ne_a1_b7)).other W209 (Or.inl ne_a1_b16))
    have ft216 := ((ft201.other W205 (Or.inl ne_a1_b7)).other W209 (Or.inl ne_a1_b16))
    have ft217 := (((cyJ48_7.other W200 ne_fs_b3).other W205 ne_fs_b7).other W209 ne_fs_b16)
    have ft218 := (lteq (lteq (lteq cyJ48_8 W200.size.symm) W205.size.symm) W209.size.symm)
    have ft219 := (((cyJ48_9.other W200 ne_cs_b3).other W205 ne_cs_b7).other W209 ne_cs_b16)
    have ft220 := (lteq (lteq (lteq cyJ48_10 W200.size.symm) W205.size.symm) W209.size.symm)
    have ft221 := (Ia.other (Ia.other I_b3_200 W205 ne_b3_b7) W209 ne_b3_b16)
    have ft222 := (lteq (lteq (lteq cyJ48_12 W200.size.symm) W205.size.symm) W209.size.symm)
    have ft223 := (Ia.other I_b7_205 W209 ne_b7_b16)
    have ft224 := (lteq (lteq (lteq cyJ48_14 W200.size.symm) W205.size.symm) W209.size.symm)
    have ft225 := (lteq (lteq (lteq cyJ48_16 W200.size.symm) W205.size.symm) W209.size.symm)
    exact ih _ h209 _ (i + (1 : Int32)) (fl0 + (1 : Int32)) fl0 X209 e209 O209 N209 K209 ft210 ft211 ft212 ft213 ft214 ft215 ft216 ft217 ft218 ft219 ft220 ft221 ft222 ft223 ft224 V_b16_209 ft225 (lpI hi0_LEl0 hi1_LEl0).1 (lpI hi0_LEl0 hi1_LEl0).2 (lpF (T := ((na + nb) + nc)) hf_LEl0 k0 hi0_LEl0 hi1_LEl0 k3)
  have ft226 := (((((ft13.wr W15).ext E16).wr W38).wr W43).wr W47)
  have ft227 := (lteq (lteq (lteq (ltle ft18 E16.1) W38.size.symm) W43.size.symm) W47.size.symm)
  have ft228 := (Cx.wr (Cx.wr (Cx.wr ft24 W38 ne_a2_b3 ne_ed_b3 ne_l0_b3 ne_l1_b3 ne_l2_b3 ne_sa_b3 ne_sb_b3 ne_sc_b3) W43 ne_a2_b7 ne_ed_b7 ne_l0_b7 ne_l1_b7 ne_l2_b7 ne_sa_b7 ne_sb_b7 ne_sc_b7) W47 ne_a2_b16 ne_ed_b16 ne_l0_b16 ne_l1_b16 ne_l2_b16 ne_sa_b16 ne_sb_b16 ne_sc_b16)
  have ft229 := ((((((((pF_firstSegment.ext E3).other W6 (Or.inr (slot_ne (Or.inr (ww hw 259 rfl)) (Or.inr (ww hw 292 rfl)) (by decide) (t := (.array .int)) (t' := (.array .int)) (by decide) (by decide)))).ext E7).other W15 (Or.inr (slot_ne (Or.inr (ww hw 259 rfl)) (Or.inr (ww hw 294 rfl)) (by decide) (t := (.array .int)) (t' := (.array .int)) (by decide) (by decide)))).ext E16).other W38 (Or.inl ne_a1_b3)).other W43 (Or.inl ne_a1_b7)).other W47 (Or.inl ne_a1_b16))
  have ft230 := (((ft29.other W38 (Or.inl ne_a1_b3)).other W43 (Or.inl ne_a1_b7)).other W47 (Or.inl ne_a1_b16))
  have ft231 := (((ft34.other W38 (Or.inl ne_a1_b3)).other W43 (Or.inl ne_a1_b7)).other W47 (Or.inl ne_a1_b16))
  have ft232 := ((ft39.other W43 (Or.inl ne_a1_b7)).other W47 (Or.inl ne_a1_b16))
  have ft233 := ((((((((pV_fs.ext E3).other W6 (Ne.symm ne_a1_fs)).ext E7).other W15 (Ne.symm ne_a1_fs)).ext E16).other W38 ne_fs_b3).other W43 ne_fs_b7).other W47 ne_fs_b16)
  have ft234 := (lteq (lteq (lteq (ltle ft19 E16.1) W38.size.symm) W43.size.symm) W47.size.symm)
  have ft235 := (((ft32.other W38 ne_cs_b3).other W43 ne_cs_b7).other W47 ne_cs_b16)
  have ft236 := (lteq (lteq (lteq (ltle ft20 E16.1) W38.size.symm) W43.size.symm) W47.size.symm)
  have ft237 := (Ia.other (Ia.other I_b3_38 W43 ne_b3_b7) W47 ne_b3_b16)
  have ft238 := (lteq (lteq (lteq (ltle ft21 E16.1) W38.size.symm) W43.size.symm) W47.size.symm)
  have ft239 := (Ia.other I_b7_43 W47 ne_b7_b16)
  have ft240 := (lteq (lteq (lteq (ltle ft22 E16.1) W38.size.symm) W43.size.symm) W47.size.symm)
  have ft241 := (lteq (lteq (lteq lt_b16 W38.size.symm) W43.size.symm) W47.size.symm)
  exact LEl0 (na.toInt - 1).toNat _ h47 _ (1 : Int32) (1 : Int32) (0 : Int32) X47 e47 O47 N47 K47 ft226 ft227 ft228 ft229 ft230 ft231 ft232 ft233 ft234 ft235 ft236 ft237 ft238 ft239 ft240 V_b16_47 ft241 (by decide) (lp1 ba2) (by decide)
set_option maxRecDepth 65536 in
set_option maxHeartbeats 40000000 in
theorem rmN_C3 (l : Launch) (Z : State) (a0 : Array Value) (hw : ∀ d ∈ tables_1, d.before a0 Z = true) (a1 : Addr) (a2 : Addr) (ed : Addr) (ke : ClassId) (l0 : Addr) (l1 : Addr) (l2 : Addr) (sa : Addr) (kA : ClassId) (na : Int32) (ea : List Value) (sb : Addr) (kB : ClassId) (nb : Int32) (eb : List Value) (sc : Addr) (kC : ClassId) (nc : Int32) (ec : List Value) (mir_0 : Addr) (mir_1 : Addr) (mir_2 : Addr) (mir_3 : Addr) (wE : Addr) (wD : Addr) (kE : ClassId) (kD : ClassId) (h0 : Heap) (n0 : Nat) (O0 : Old Z n0 h0) (ba2 : 2 ≤ na.toInt) (ba5 : na.toInt ≤ 5) (bb2 : 2 ≤ nb.toInt) (bb5 : nb.toInt ≤ 5) (bc2 : 2 ≤ nc.toInt) (bc5 : nc.toInt ≤ 5) (g_a1 : n0 ≤ a1) (ne12 : a1 ≠ a2) (E_a1 : Exa Z h0 a1 "com/example/kinetic_city/kineticcity/engine/TransitNetwork") (F_a1_stopCount : Fld Z h0 a1 "com/example/kinetic_city/kineticcity/engine/TransitNetwork" "stopCount" "I" (.int 0)) (F_a1_lines : Fld Z h0 a1 "com/example/kinetic_city/kineticcity/engine/TransitNetwork" "lines" "Ljava/util/List;" .null) (F_a1_firstSegment : Fld Z h0 a1 "com/example/kinetic_city/kineticcity/engine/TransitNetwork" "firstSegment" "[I" .null) (F_a1_lineOfSegment : Fld Z h0 a1 "com/example/kinetic_city/kineticcity/engine/TransitNetwork" "lineOfSegment" "[I" .null) (F_a1_callStart : Fld Z h0 a1 "com/example/kinetic_city/kineticcity/engine/TransitNetwork" "callStart" "[I" .null) (F_a1_callLine : Fld Z h0 a1 "com/example/kinetic_city/kineticcity/engine/TransitNetwork" "callLine" "[I" .null) (F_a1_callPosition : Fld Z h0 a1 "com/example/kinetic_city/kineticcity/engine/TransitNetwork" "callPosition" "[I" .null) (E_a2 : Exa Z h0 a2 "java/util/ArrayList") (F_a2_modCount : Fld Z h0 a2 "java/util/AbstractList" "modCount" "I" (.int 3)) (F_a2_elementData : Fld Z h0 a2 "java/util/ArrayList" "elementData" "[Ljava/lang/Object;" (.ref ed)) (F_a2_size : Fld Z h0 a2 "java/util/ArrayList" "size" "I" (.int 3)) (V_ed : Arv Z h0 ed ke (.object "java/lang/Object") (10 : Int32) [(.ref l0), (.ref l1), (.ref l2)] .null) (E_ed : Exa Z h0 ed "[Ljava/lang/Object;") (E_l0 : Exa Z h0 l0 "com/example/kinetic_city/kineticcity/engine/TransitLine") (E_l1 : Exa Z h0 l1 "com/example/kinetic_city/kineticcity/engine/TransitLine") (E_l2 : Exa Z h0 l2 "com/example/kinetic_city/kineticcity/engine/TransitLine") (ln_sa : Ln na ea) (al_sa : AllE (.int 1) ea) (F_l0_stops : Fld Z h0 l0 "com/example/kinetic_city/kineticcity/engine/TransitLine" "stops" "[I" (.ref sa)) (V_sa : Arv Z h0 sa kA .int na ea (.int 0)) (ln_sb : Ln nb eb) (al_sb : AllE (.int 1) eb) (F_l1_stops : Fld Z h0 l1 "com/example/kinetic_city/kineticcity/engine/TransitLine" "stops" "[I" (.ref sb)) (V_sb : Arv Z h0 sb kB .int nb eb (.int 0)) (ln_sc : Ln nc ec) (al_sc : AllE (.int 1) ec) (F_l2_stops : Fld Z h0 l2 "com/example/kinetic_city/kineticcity/engine/TransitLine" "stops" "[I" (.ref sc)) (V_sc : Arv Z h0 sc kC .int nc ec (.int 0)) (WW : World1 Z mir_0 mir_1 mir_2 mir_3 wE wD kE kD) {p : Program} {e : Env} {s : State} {m : MethodId} {below : List Frame} {meth : Method} {c : Code} (St : Stp p Z s m meth c prog_23_method_1_code 10 none mq38) :
    ∀ (TJ242 : State) (hJ242 : Heap) (LJ242 : List Loc) (i6 : Int32) (fs : Addr) (kf : ClassId), (Stand p l e ({ frames := 5, cells := 11, slots := 67, locals := 76 } : Room) s m #[(.ref a1), (.int 1), (.ref a2)] below meth c TJ242 LJ242 6 28) → (TJ242.heap = hJ242) → (Old Z n0 hJ242) → (Fr n0 LJ242) → (Keep h0 hJ242 [a1]) → (h0.size ≤ fs) → (Exa Z hJ242 a1 "com/example/kinetic_city/kineticcity/engine/TransitNetwork") → (Fld Z hJ242 a1 "com/example/kinetic_city/kineticcity/engine/TransitNetwork" "firstSegment" "[I" (.ref fs)) → (Fld Z hJ242 a1 "com/example/kinetic_city/kineticcity/engine/TransitNetwork" "callStart" "[I" .null) → (Fld Z hJ242 a1 "com/example/kinetic_city/kineticcity/engine/TransitNetwork" "callLine" "[I" .null) → (Fld Z hJ242 a1 "com/example/kinetic_city/kineticcity/engine/TransitNetwork" "callPosition" "[I" .null) → (Arv Z hJ242 fs kf .int (4 : Int32) [(.int (0 : Int32)), (.int (na - (1 : Int32))), (.int (((na - (1 : Int32)) + nb) - (1 : Int32))), (.int (((((na - (1 : Int32)) + nb) - (1 : Int32)) + nc) - (1 : Int32)))] (.int (0 : Int32))) → (Cx Z hJ242 a2 ed ke l0 l1 l2 sa kA na ea sb kB nb eb sc kC nc ec) → Go p e below (Done s (fun v h L => v = none ∧ Fr n0 L ∧ Keep h0 h [a1] ∧ Exa Z h a1 "com/example/kinetic_city/kineticcity/engine/TransitNetwork" ∧ ∃ (fs : Addr) (kf : ClassId), Fld Z h a1 "com/example/kinetic_city/kineticcity/engine/TransitNetwork" "firstSegment" "[I" (.ref fs) ∧ Arv Z h fs kf .int (4 : Int32) [(.int (0 : Int32)), (.int (na - (1 : Int32))), (.int (((na - (1 : Int32)) + nb) - (1 : Int32))), (.int (((((na - (1 : Int32)) + nb) - (1 : Int32)) + nc) - (1 : Int32)))] (.int (0 : Int32))) ({ frames := 5, cells := 11, slots := 67, locals := 76 } : Room).cells ({ frames := 5, cells := 11, slots := 67, locals := 76 } : Room).slots) TJ242 (mkF m 247 #[rv a1, iv 1, rv a2, .val (.int ((na + nb) + nc)), iv 3, rv l2, iv i6, .unset, .unset, .unset] []) := by
  obtain ⟨hx, hby, hml, hnm, hlk, hret, hZ, hown⟩ := St
  have N0 := Fr.nil n0
  have D := @hb _ _ hby
  have K0 : Keep h0 h0 [a1] := Keep.refl _ _
  have ⟨M_0, M_1, M_2, M_3, S_wE, E_wE, S_wD, E_wD, V_wE, V_wD⟩ := WW
  have lt_wE := E_wE.lt
  have lt_wD := E_wD.lt
  have z0 : (0 : Int32).toInt = 0 := by decide
  have z1 : (1 : Int32).toInt = 1 := by decide
  obtain ⟨f1, f2, f3, f4⟩ := own_fs ba2 ba5 bb2 bb5 bc2 bc5
  have lt_a1 := E_a1.lt
  have ne_wE_a1 : wE ≠ a1 := O0.ne lt_wE g_a1
  have ne_wD_a1 : wD ≠ a1 := O0.ne lt_wD g_a1
  have lt_a2 := E_a2.lt
  have lt_ed := V_ed.lt
  have lt_l0 := E_l0.lt
  have lt_l1 := E_l1.lt
  have lt_l2 := E_l2.lt
  have lt_sa := V_sa.lt
  have nl_l0 : a1 ≠ l0 := Exa.ne E_a1 E_l0 (by decide)
  have ns_sa : a1 ≠ sa := Exa.neArv E_a1 V_sa (ww hw 100 rfl)
  have lt_sb := V_sb.lt
  have nl_l1 : a1 ≠ l1 := Exa.ne E_a1 E_l1 (by decide)
  have ns_sb : a1 ≠ sb := Exa.neArv E_a1 V_sb (ww hw 100 rfl)
  have lt_sc := V_sc.lt
  have nl_l2 : a1 ≠ l2 := Exa.ne E_a1 E_l2 (by decide)
  have ns_sc : a1 ≠ sc := Exa.neArv E_a1 V_sc (ww hw 100 rfl)
  have n1d : a1 ≠ ed := Exa.neArv E_a1 V_ed (ww hw 100 rfl)
  have cc := own_c12 ba2 ba5 bb2 bb5 bc2 bc5 f3 f4
  obtain ⟨g1, g2, g3, g4, g5, g6, g7⟩ := own_gs ba2 ba5 bb2 bb5 bc2 bc5 f1 f2 f3 f4
  have cx0 : Cx Z h0 a2 ed ke l0 l1 l2 sa kA na ea sb kB nb eb sc kC nc ec := ⟨E_a2, F_a2_modCount, F_a2_elementData, F_a2_size, E_ed, V_ed, E_l0, F_l0_stops, V_sa, E_l1, F_l1_stops, V_sb, E_l2, F_l2_stops, V_sc⟩
  have C5 := @rmN_C5 l Z a0 hw a1 a2 ed ke l0 l1 l2 sa kA na ea sb kB nb eb sc kC nc ec mir_0 mir_1 mir_2 mir_3 wE wD kE kD h0 n0 O0 ba2 ba5 bb2 bb5 bc2 bc5 g_a1 ne12 E_a1 F_a1_stopCount F_a1_lines F_a1_firstSegment F_a1_lineOfSegment F_a1_callStart F_a1_callLine F_a1_callPosition E_a2 F_a2_modCount F_a2_elementData F_a2_size V_ed E_ed E_l0 E_l1 E_l2 ln_sa al_sa F_l0_stops V_sa ln_sb al_sb F_l1_stops V_sb ln_sc al_sc F_l2_stops V_sc WW p e s m below meth c ⟨hx, hby, hml, hnm, hlk, hret, hZ, hown⟩
  intro TJ242 hJ242 LJ242 i6 fs kf XJ242 eJ242 OJ242 NJ242 KJ242 sz_fs pE pF_firstSegment pF_callStart pF_callLine pF_callPosition pV_fs pC
  have lt_a1J := pE.lt
  have lt_fs := pV_fs.lt
  have g_fs : n0 ≤ fs := Nat.le_trans (O0.1 ▸ O0.2.1) sz_fs
  have ne_a1_fs : a1 ≠ fs := Nat.ne_of_lt (ltle lt_a1 sz_fs)
  have ne_a2_fs : a2 ≠ fs := Nat.ne_of_lt (ltle lt_a2 sz_fs)
  have ne_ed_fs : ed ≠ fs := Nat.ne_of_lt (ltle lt_ed sz_fs)
  have ne_l0_fs : l0 ≠ fs := Nat.ne_of_lt (ltle lt_l0 sz_fs)
  have ne_l1_fs : l1 ≠ fs := Nat.ne_of_lt (ltle lt_l1 sz_fs)
  have ne_l2_fs : l2 ≠ fs := Nat.ne_of_lt (ltle lt_l2 sz_fs)
  have ne_sa_fs : sa ≠ fs := Nat.ne_of_lt (ltle lt_sa sz_fs)
  have ne_sb_fs : sb ≠ fs := Nat.ne_of_lt (ltle lt_sb sz_fs)
  have ne_sc_fs : sc ≠ fs := Nat.ne_of_lt (ltle lt_sc sz_fs)
  refine zan 248 XJ242 hx (D d14_247) rfl rfl ?_
  refine zin 249 XJ242 hx (D d14_248) rfl ?_
  refine zic 250 2 XJ242 hx (D d14_249) ?_
  refine Go.st (f' := (mkF m 251 #[rv a1, iv 1, rv a2, .val (.int ((na + nb) + nc)), iv 3, rv l2, iv i6, .unset, .unset, .unset] [(.int 3), (.ref a1)])) (fun _ k => XS.iadd XJ242.here hx rfl (D d14_250) rfl k) ?_
  obtain ⟨T243, h243, kc243, X243, e243, E243, A243, st243⟩ := newP XJ242 hx hZ (ww hw 33 rfl) eJ242 (g := (mkF m 251 #[rv a1, iv 1, rv a2, .val (.int ((na + nb) + nc)), iv 3, rv l2, iv i6, .unset, .unset, .unset] [(.int 3), (.ref a1)])) rfl (D d14_251) rfl (by decide) (cap := 3) (by decide) (by decide) (by decide) (by decide)
  obtain ⟨b243, g243⟩ : ∃ z, z = hJ242.size := ⟨_, rfl⟩
  rw [← g243] at A243 st243
  have ne_a2_b243 : a2 ≠ b243 := Nat.ne_of_lt (lteq pC.1.lt g243.symm)
  have ne_ed_b243 : ed ≠ b243 := Nat.ne_of_lt (lteq pC.2.2.2.2.1.lt g243.symm)
  have ne_l0_b243 : l0 ≠ b243 := Nat.ne_of_lt (lteq pC.2.2.2.2.2.2.1.lt g243.symm)
  have ne_l1_b243 : l1 ≠ b243 := Nat.ne_of_lt (lteq pC.2.2.2.2.2.2.2.2.2.1.lt g243.symm)
  have ne_l2_b243 : l2 ≠ b243 := Nat.ne_of_lt (lteq pC.2.2.2.2.2.2.2.2.2.2.2.2.1.lt g243.symm)
  have ne_sa_b243 : sa ≠ b243 := Nat.ne_of_lt (lteq pC.2.2.2.2.2.2.2.2.1.lt g243.symm)
  have ne_sb_b243 : sb ≠ b243 := Nat.ne_of_lt (lteq pC.2.2.2.2.2.2.2.2.2.2.2.1.lt g243.symm)
  have ne_sc_b243 : sc ≠ b243 := Nat.ne_of_lt (lteq pC.2.2.2.2.2.2.2.2.2.2.2.2.2.2.lt g243.symm)
  have ne_a1_b243 : a1 ≠ b243 := Nat.ne_of_lt (lteq lt_a1J g243.symm)
  have ne_fs_b243 : fs ≠ b243 := Nat.ne_of_lt (lteq lt_fs g243.symm)
  have ne_wE_b243 : wE ≠ b243 := Nat.ne_of_lt (ltle lt_wE (Nat.le_trans OJ242.2.1 (Nat.le_of_eq g243.symm)))
  have ne_wD_b243 : wD ≠ b243 := Nat.ne_of_lt (ltle lt_wD (Nat.le_trans OJ242.2.1 (Nat.le_of_eq g243.symm)))
  have g_b243 : n0 ≤ b243 := Nat.le_trans (OJ242.1 ▸ OJ242.2.1) (Nat.le_of_eq g243.symm)
  have O243 : Old Z n0 h243 := OJ242.ext E243
  have sz_b243 : h0.size ≤ b243 := Nat.le_trans KJ242.1 (Nat.le_of_eq g243.symm)
  have K243 : Keep h0 h243 [a1] := KJ242.ext E243
  have V_b243 : Arv Z h243 b243 kc243 .int (3 : Int32) [(.int (0 : Int32)), (.int (0 : Int32)), (.int (0 : Int32))] (.int (0 : Int32)) := (Arv.new A243 (by decide)).pad (pad_rep [] (.int (0 : Int32)) 3)
  have lt_b243 := V_b243.lt
  refine zst 253 #[rv a1, iv 1, rv a2, .val (.int ((na + nb) + nc)), iv 3, rv l2, iv i6, .unset, .unset, .unset] [(.ref b243), (.ref a1)] st243 ?_
  have ft244 := (pE.ext E243)
  have ft245 := (pF_callStart.ext E243)
  obtain ⟨T246, h246, X246, e246, W246, st246⟩ := putF X243 hx hZ hown (host := "") (Or.inl (ww hw 289 rfl)) Via.refl e243 ft245 ft244 (Or.inr ⟨(ww hw 290 rfl), rfl, hnm⟩) (ww hw 100 rfl) (ty := (.array .int)) (by decide) rfl rfl (g := (mkF m 253 #[rv a1, iv 1, rv a2, .val (.int ((na + nb) + nc)), iv 3, rv l2, iv i6, .unset, .unset, .unset] [(.ref b243), (.ref a1)])) rfl rfl (D d14_253)
  have N246 := Fr.snoc X246 NJ242 g_a1
  have O246 : Old Z n0 h246 := O243.wr W246 g_a1
  have K246 : Keep h0 h246 [a1] := K243.wr W246 (Or.inl (List.mem_of_getElem? (i := 0) rfl))
  have Fw246 := ft245.same W246
  refine zst 256 #[rv a1, iv 1, rv a2, .val (.int ((na + nb) + nc)), iv 3, rv l2, iv i6, .unset, .unset, .unset] [] st246 ?_
  refine zan 257 X246 hx (D d14_256) rfl rfl ?_
  have ft248 := (Cx.wr (Cx.ext pC E243) W246 (Ne.symm ne12) (Ne.symm n1d) (Ne.symm nl_l0) (Ne.symm nl_l1) (Ne.symm nl_l2) (Ne.symm ns_sa) (Ne.symm ns_sb) (Ne.symm ns_sc))
  refine gI 262 0 8 35 X246 N246 hx hZ (y := mq14) (xi := mq41) hown hml (ww hw 106 rfl) (ww hw 107 rfl) (ww hw 108 rfl) (ww hw 109 rfl) (ww hw 110 rfl) (ww hw 111 rfl) (ww hw 112 rfl) (ww hw 113 rfl) (rmIt l Z a0 hw [] a2 ed ke l0 l1 l2 h246 n0 O246 ft248.1 ft248.2.1 ft248.2.2.1 ft248.2.2.2.1 ft248.2.2.2.2.2.1) (ww hw 114 rfl) (ww hw 2 rfl) e246 ft248.1 [] [] (lenOf pd___Ljava_util_Iterator_ rfl) (D d14_257) ?_
  rintro T247 L247 M247 _ X247 uu247 ⟨b247, rfl, Nq247, zq247, kq247, eq247, fq247_0, fq247_1, fq247_2, fq247_3⟩
  have N247 := uu247 Nq247
  have ne_a2_b247 : a2 ≠ b247 := Nat.ne_of_lt (ltle ft248.1.lt zq247)
  have ne_ed_b247 : ed ≠ b247 := Nat.ne_of_lt (ltle ft248.2.2.2.2.1.lt zq247)
  have ne_l0_b247 : l0 ≠ b247 := Nat.ne_of_lt (ltle ft248.2.2.2.2.2.2.1.lt zq247)
  have ne_l1_b247 : l1 ≠ b247 := Nat.ne_of_lt (ltle ft248.2.2.2.2.2.2.2.2.2.1.lt zq247)
  have ne_l2_b247 : l2 ≠ b247 := Nat.ne_of_lt (ltle ft248.2.2.2.2.2.2.2.2.2.2.2.2.1.lt zq247)
  have ne_sa_b247 : sa ≠ b247 := Nat.ne_of_lt (ltle ft248.2.2.2.2.2.2.2.2.1.lt zq247)
  have ne_sb_b247 : sb ≠ b247 := Nat.ne_of_lt (ltle ft248.2.2.2.2.2.2.2.2.2.2.2.1.lt zq247)
  have ne_sc_b247 : sc ≠ b247 := Nat.ne_of_lt (ltle ft248.2.2.2.2.2.2.2.2.2.2.2.2.2.2.lt zq247)
  have ft249 := (lteq (ltle lt_a1J E243.1) W246.size.symm)
  have ne_a1_b247 : a1 ≠ b247 := Nat.ne_of_lt (ltle ft249 zq247)
  have ft250 := (lteq (ltle lt_fs E243.1) W246.size.symm)
  have ne_fs_b247 : fs ≠ b247 := Nat.ne_of_lt (ltle ft250 zq247)
  have ft251 := (lteq lt_b243 W246.size.symm)
  have ne_b243_b247 : b243 ≠ b247 := Nat.ne_of_lt (ltle ft251 zq247)
  have ne_wE_b247 : wE ≠ b247 := Nat.ne_of_lt (ltle lt_wE (Nat.le_trans O246.2.1 zq247))
  have ne_wD_b247 : wD ≠ b247 := Nat.ne_of_lt (ltle lt_wD (Nat.le_trans O246.2.1 zq247))
  have g_b247 : n0 ≤ b247 := Nat.le_trans (O246.1 ▸ O246.2.1) zq247
  have sz_b247 : h0.size ≤ b247 := Nat.le_trans K246.1 zq247
  have O247 : Old Z n0 T247.heap := O246.keep kq247 all0
  have K247 : Keep h0 T247.heap [a1] := K246.trans kq247 all0
  have lt_b247 := eq247.lt
  refine zsk [(.ref b247)] ?_
  refine zrl 264 #[rv a1, iv 1, rv a2, .val (.int ((na + nb) + nc)), rv b247, rv l2, iv i6, .unset, .unset, .unset] X247 hx (D d14_262) rfl ?_
  refine zal 266 X247 hx (D d14_264) rfl rfl ?_
  have ft253 := (Cx.keep0 ft248 kq247)
  refine gI 271 0 8 35 X247 N247 hx hZ (y := mq15) (xi := mq42) hown hml (ww hw 130 rfl) (ww hw 131 rfl) (ww hw 132 rfl) (ww hw 133 rfl) (ww hw 134 rfl) (ww hw 135 rfl) (ww hw 136 rfl) (ww hw 137 rfl) (rmHn0 l Z a0 hw [] b247 a2 ed ke l0 l1 l2 T247.heap n0 O247 g_b247 (Ne.symm ne_a2_b247) eq247 fq247_0 fq247_1 fq247_2 fq247_3 ft253.1 ft253.2.1 ft253.2.2.1 ft253.2.2.2.1 ft253.2.2.2.2.2.1) (ww hw 138 rfl) (ww hw 117 rfl) rfl eq247 [] [] (lenOf pd___Z rfl) (D d14_266) ?_
  rintro T252 L252 M252 _ X252 uu252 ⟨rfl, Nq252, kq252⟩
  have N252 := uu252 Nq252
  refine zsk [(.int 1)] ?_
  refine zfn 274 X252 hx (D d14_271) (by decide) ?_
  refine zal 276 X252 hx (D d14_274) rfl rfl ?_
  refine gI 281 0 8 35 X252 N252 hx hZ (y := mq17) (xi := mq43) hown hml (ww hw 142 rfl) (ww hw 143 rfl) (ww hw 144 rfl) (ww hw 145 rfl) (ww hw 146 rfl) (ww hw 147 rfl) (ww hw 148 rfl) (ww hw 137 rfl) (rmNx0 l Z a0 hw [] b247 a2 ed ke l0 l1 l2 T247.heap n0 O247 g_b247 (Ne.symm ne_a2_b247) eq247 fq247_0 fq247_1 fq247_2 fq247_3 ft253.1 ft253.2.1 ft253.2.2.1 ft253.2.2.2.1 ft253.2.2.2.2.2.1) (ww hw 149 rfl) (ww hw 117 rfl) kq252 eq247 [] [] (lenOf pd___Ljava_lang_Object_ rfl) (D d14_276) ?_
  rintro T254 L254 M254 _ X254 uu254 ⟨rfl, Nq254, kq254, eq254, fq254_0, fq254_1, fq254_2, fq254_3⟩
  have N254 := uu254 Nq254
  have O254 : Old Z n0 T254.heap := O247.keep kq254 (allS g_b247 all0)
  have K254 : Keep h0 T254.heap [a1] := K247.trans kq254 (allS (Or.inr sz_b247) all0)
  refine zsk [(.ref l0)] ?_
  have ft255 := (Cx.keep ft253 kq254 (ninS ne_a2_b247 nin0) (ninS ne_ed_b247 nin0) (ninS ne_l0_b247 nin0) (ninS ne_l1_b247 nin0) (ninS ne_l2_b247 nin0) (ninS ne_sa_b247 nin0) (ninS ne_sb_b247 nin0) (ninS ne_sc_b247 nin0))
  obtain ⟨T256, X256, e256, st256⟩ := castY X254 hx hZ hown (ww hw 156 rfl) rfl (Ins.self ft255.2.2.2.2.2.2.1) (g := (mkF m 281 #[rv a1, iv 1, rv a2, .val (.int ((na + nb) + nc)), rv b247, rv l2, iv i6, .unset, .unset, .unset] [(.ref l0)])) rfl rfl (D d14_281)
  refine zst 284 #[rv a1, iv 1, rv a2, .val (.int ((na + nb) + nc)), rv b247, rv l2, iv i6, .unset, .unset, .unset] [(.ref l0)] st256 ?_
  refine zrl 286 #[rv a1, iv 1, rv a2, .val (.int ((na + nb) + nc)), rv b247, rv l0, iv i6, .unset, .unset, .unset] X256 hx (D d14_284) rfl ?_
  refine zic 287 0 X256 hx (D d14_286) ?_
  refine zsl 289 #[rv a1, iv 1, rv a2, .val (.int ((na + nb) + nc)), rv b247, rv l0, iv 0, .unset, .unset, .unset] X256 hx (D d14_287) ?_
  have LDl0 : ∀ (fuel : Nat) (TJ257 : State) (hJ257 : Heap) (LJ257 : List Loc) (i : Int32) (cl0 : Int32), (Stand p l e ({ frames := 5, cells := 11, slots := 67, locals := 76 } : Room) s m #[(.ref a1), (.int 1), (.ref a2)] below meth c TJ257 LJ257 8 35) → (TJ257.heap = hJ257) → (Old Z n0 hJ257) → (Fr n0 LJ257) → (Keep h0 hJ257 [a1]) → (Exa Z hJ257 a1 "com/example/kinetic_city/kineticcity/engine/TransitNetwork") → (a1 < hJ257.size) → (Cx Z hJ257 a2 ed ke l0 l1 l2 sa kA na ea sb kB nb eb sc kC nc ec) → (Fld Z hJ257 a1 "com/example/kinetic_city/kineticcity/engine/TransitNetwork" "firstSegment" "[I" (.ref fs)) → (Fld Z hJ257 a1 "com/example/kinetic_city/kineticcity/engine/TransitNetwork" "callStart" "[I" (.ref b243)) → (Fld Z hJ257 a1 "com/example/kinetic_city/kineticcity/engine/TransitNetwork" "callLine" "[I" .null) → (Fld Z hJ257 a1 "com/example/kinetic_city/kineticcity/engine/TransitNetwork" "callPosition" "[I" .null) → (Arv Z hJ257 fs kf .int (4 : Int32) [(.int (0 : Int32)), (.int (na - (1 : Int32))), (.int (((na - (1 : Int32)) + nb) - (1 : Int32))), (.int (((((na - (1 : Int32)) + nb) - (1 : Int32)) + nc) - (1 : Int32)))] (.int (0 : Int32))) → (fs < hJ257.size) → (Arv Z hJ257 b243 kc243 .int (3 : Int32) [(.int (0 : Int32)), (.int (0 : Int32)), (.int cl0)] (.int (0 : Int32))) → (b243 < hJ257.size) → (Exa Z hJ257 b247 "java/util/ArrayList$Itr") → (Fld Z hJ257 b247 "java/util/ArrayList$Itr" "this$0" "Ljava/util/ArrayList;" (.ref a2)) → (Fld Z hJ257 b247 "java/util/ArrayList$Itr" "lastRet" "I" (.int (0 : Int32))) → (Fld Z hJ257 b247 "java/util/ArrayList$Itr" "expectedModCount" "I" (.int (3 : Int32))) → (Fld Z hJ257 b247 "java/util/ArrayList$Itr" "cursor" "I" (.int (1 : Int32))) → (b247 < hJ257.size) → (((0 : Nat) : Int) ≤ i.toInt) → (i.toInt + (fuel : Int) = na.toInt) → Go p e below (Done s (fun v h L => v = none ∧ Fr n0 L ∧ Keep h0 h [a1] ∧ Exa Z h a1 "com/example/kinetic_city/kineticcity/engine/TransitNetwork" ∧ ∃ (fs : Addr) (kf : ClassId), Fld Z h a1 "com/example/kinetic_city/kineticcity/engine/TransitNetwork" "firstSegment" "[I" (.ref fs) ∧ Arv Z h fs kf .int (4 : Int32) [(.int (0 : Int32)), (.int (na - (1 : Int32))), (.int (((na - (1 : Int32)) + nb) - (1 : Int32))), (.int (((((na - (1 : Int32)) + nb) - (1 : Int32)) + nc) - (1 : Int32)))] (.int (0 : Int32))) ({ frames := 5, cells := 11, slots := 67, locals := 76 } : Room).cells ({ frames := 5, cells := 11, slots := 67, locals := 76 } : Room).slots) TJ257 (mkF m 289 #[rv a1, iv 1, rv a2, .val (.int ((na + nb) + nc)), rv b247, rv l0, iv i, .unset, .unset, .unset] []) := by
   intro fuel
   induction fuel with
   | zero =>
    intro TJ257 hJ257 LJ257 i cl0 XJ257 eJ257 OJ257 NJ257 KJ257 cyJ257_0 cyJ257_1 cyJ257_2 cyJ257_3 cyJ257_4 cyJ257_5 cyJ257_6 cyJ257_7 cyJ257_8 cyJ257_9 cyJ257_10 cyJ257_11 cyJ257_12 cyJ257_13 cyJ257_14 cyJ257_15 cyJ257_16 hi0_LDl0 hi1_LDl0
    refine zil 291 XJ257 hx (D d14_289) rfl ?_
    refine zal 293 XJ257 hx (D d14_291) rfl rfl ?_
    refine gV 296 1 8 35 XJ257 NJ257 hx hZ (y := mq34) hown hml (ww hw 158 rfl) (ww hw 159 rfl) (ww hw 161 rfl) (ww hw 160 rfl) (rmSc l Z a0 hw [] l0 sa kA na ea hJ257 n0 OJ257 cyJ257_2.2.2.2.2.2.2.1 cyJ257_2.2.2.2.2.2.2.2.1 cyJ257_2.2.2.2.2.2.2.2.2.1) (ww hw 162 rfl) (ww hw 32 rfl) eJ257 cyJ257_2.2.2.2.2.2.2.1 [] [(.int i)] (lenOf pd___I rfl) (D d14_293) ?_
    rintro T258 L258 M258 _ X258 uu258 ⟨rfl, Nq258, kq258⟩
    have N258 := uu258 Nq258
    refine zsk [(.int na), (.int i)] ?_
    refine zcy 323 X258 hx (D d14_296) (flt (lpZ hi1_LDl0)).2.1 ?_
    refine zgo 264 X258 hx (D d14_323) ?_
    refine zal 266 X258 hx (D d14_264) rfl rfl ?_
    refine gI 271 0 8 35 X258 N258 hx hZ (y := mq15) (xi := mq42) hown hml (ww hw 130 rfl) (ww hw 131 rfl) (ww hw 132 rfl) (ww hw 133 rfl) (ww hw 134 rfl) (ww hw 135 rfl) (ww hw 136 rfl) (ww hw 137 rfl) (rmHn1 l Z a0 hw [] b247 a2 ed ke l0 l1 l2 hJ257 n0 OJ257 g_b247 (Ne.symm ne_a2_b247) cyJ257_11 cyJ257_12 cyJ257_13 cyJ257_14 cyJ257_15 cyJ257_2.1 cyJ257_2.2.1 cyJ257_2.2.2.1 cyJ257_2.2.2.2.1 cyJ257_2.2.2.2.2.2.1) (ww hw 138 rfl) (ww hw 117 rfl) kq258 cyJ257_11 [] [] (lenOf pd___Z rfl) (D d14_266) ?_
    rintro T259 L259 M259 _ X259 uu259 ⟨rfl, Nq259, kq259⟩
    have N259 := uu259 Nq259
    refine zsk [(.int 1)] ?_
    refine zfn 274 X259 hx (D d14_271) (by decide) ?_
    refine zal 276 X259 hx (D d14_274) rfl rfl ?_
    refine gI 281 0 8 35 X259 N259 hx hZ (y := mq17) (xi := mq43) hown hml (ww hw 142 rfl) (ww hw 143 rfl) (ww hw 144 rfl) (ww hw 145 rfl) (ww hw 146 rfl) (ww hw 147 rfl) (ww hw 148 rfl) (ww hw 137 rfl) (rmNx1 l Z a0 hw [] b247 a2 ed ke l0 l1 l2 hJ257 n0 OJ257 g_b247 (Ne.symm ne_a2_b247) cyJ257_11 cyJ257_12 cyJ257_13 cyJ257_14 cyJ257_15 cyJ257_2.1 cyJ257_2.2.1 cyJ257_2.2.2.1 cyJ257_2.2.2.2.1 cyJ257_2.2.2.2.2.2.1) (ww hw 149 rfl) (ww hw 117 rfl) kq259 cyJ257_11 [] [] (lenOf pd___Ljava_lang_Object_ rfl) (D d14_276) ?_
    rintro T260 L260 M260 _ X260 uu260 ⟨rfl, Nq260, kq260, eq260, fq260_0, fq260_1, fq260_2, fq260_3⟩
    have N260 := uu260 Nq260
    have O260 : Old Z n0 T260.heap := OJ257.keep kq260 (allS g_b247 all0)
    have K260 : Keep h0 T260.heap [a1] := KJ257.trans kq260 (allS (Or.inr sz_b247) all0)
    refine zsk [(.ref l1)] ?_
    have ft261 := (Cx.keep cyJ257_2 kq260 (ninS ne_a2_b247 nin0) (ninS ne_ed_b247 nin0) (ninS ne_l0_b247 nin0) (ninS ne_l1_b247 nin0) (ninS ne_l2_b247 nin0) (ninS ne_sa_b247 nin0) (ninS ne_sb_b247 nin0) (ninS ne_sc_b247 nin0))
    obtain ⟨T262, X262, e262, st262⟩ := castY X260 hx hZ hown (ww hw 156 rfl) rfl (Ins.self ft261.2.2.2.2.2.2.2.2.2.1) (g := (mkF m 281 #[rv a1, iv 1, rv a2, .val (.int ((na + nb) + nc)), rv b247, rv l0, iv i, .unset, .unset, .unset] [(.ref l1)])) rfl rfl (D d14_281)
    refine zst 284 #[rv a1, iv 1, rv a2, .val (.int ((na + nb) + nc)), rv b247, rv l0, iv i, .unset, .unset, .unset] [(.ref l1)] st262 ?_
    refine zrl 286 #[rv a1, iv 1, rv a2, .val (.int ((na + nb) + nc)), rv b247, rv l1, iv i, .unset, .unset, .unset] X262 hx (D d14_284) rfl ?_
    refine zic 287 0 X262 hx (D d14_286) ?_
    refine zsl 289 #[rv a1, iv 1, rv a2, .val (.int ((na + nb) + nc)), rv b247, rv l1, iv 0, .unset, .unset, .unset] X262 hx (D d14_287) ?_
    have LDl1 : ∀ (fuel : Nat) (TJ263 : State) (hJ263 : Heap) (LJ263 : List Loc) (i : Int32) (cl1 : Int32), (Stand p l e ({ frames := 5, cells := 11, slots := 67, locals := 76 } : Room) s m #[(.ref a1), (.int 1), (.ref a2)] below meth c TJ263 LJ263 8 35) → (TJ263.heap = hJ263) → (Old Z n0 hJ263) → (Fr n0 LJ263) → (Keep h0 hJ263 [a1]) → (Exa Z hJ263 a1 "com/example/kinetic_city/kineticcity/engine/TransitNetwork") → (a1 < hJ263.size) → (Cx Z hJ263 a2 ed ke l0 l1 l2 sa kA na ea sb kB nb eb sc kC nc ec) → (Fld Z hJ263 a1 "com/example/kinetic_city/kineticcity/engine/TransitNetwork" "firstSegment" "[I" (.ref fs)) → (Fld Z hJ263 a1 "com/example/kinetic_city/kineticcity/engine/TransitNetwork" "callStart" "[I" (.ref b243)) → (Fld Z hJ263 a1 "com/example/kinetic_city/kineticcity/engine/TransitNetwork" "callLine" "[I" .null) → (Fld Z hJ263 a1 "com/example/kinetic_city/kineticcity/engine/TransitNetwork" "callPosition" "[I" .null) → (Arv Z hJ263 fs kf .int (4 : Int32) [(.int (0 : Int32)), (.int (na - (1 : Int32))), (.int (((na - (1 : Int32)) + nb) - (1 : Int32))), (.int (((((na - (1 : Int32)) + nb) - (1 : Int32)) + nc) - (1 : Int32)))] (.int (0 : Int32))) → (fs < hJ263.size) → (Arv Z hJ263 b243 kc243 .int (3 : Int32) [(.int (0 : Int32)), (.int (0 : Int32)), (.int cl1)] (.int (0 : Int32))) → (b243 < hJ263.size) → (Exa Z hJ263 b247 "java/util/ArrayList$Itr") → (Fld Z hJ263 b247 "java/util/ArrayList$Itr" "this$0" "Ljava/util/ArrayList;" (.ref a2)) → (Fld Z hJ263 b247 "java/util/ArrayList$Itr" "lastRet" "I" (.int (1 : Int32))) → (Fld Z hJ263 b247 "java/util/ArrayList$Itr" "expectedModCount" "I" (.int (3 : Int32))) → (Fld Z hJ263 b247 "java/util/ArrayList$Itr" "cursor" "I" (.int (2 : Int32))) → (b247 < hJ263.size) → (((0 : Nat) : Int) ≤ i.toInt) → (i.toInt + (fuel : Int) = nb.toInt) → Go p e below (Done s (fun v h L => v = none ∧ Fr n0 L ∧ Keep h0 h [a1] ∧ Exa Z h a1 "com/example/kinetic_city/kineticcity/engine/TransitNetwork" ∧ ∃ (fs : Addr) (kf : ClassId), Fld Z h a1 "com/example/kinetic_city/kineticcity/engine/TransitNetwork" "firstSegment" "[I" (.ref fs) ∧ Arv Z h fs kf .int (4 : Int32) [(.int (0 : Int32)), (.int (na - (1 : Int32))), (.int (((na - (1 : Int32)) + nb) - (1 : Int32))), (.int (((((na - (1 : Int32)) + nb) - (1 : Int32)) + nc) - (1 : Int32)))] (.int (0 : Int32))) ({ frames := 5, cells := 11, slots := 67, locals := 76 } : Room).cells ({ frames := 5, cells := 11, slots := 67, locals := 76 } : Room).slots) TJ263 (mkF m 289 #[rv a1, iv 1, rv a2, .val (.int ((na + nb) + nc)), rv b247, rv l1, iv i, .unset, .unset, .unset] []) := by
     intro fuel
     induction fuel with
     | zero =>
      intro TJ263 hJ263 LJ263 i cl1 XJ263 eJ263 OJ263 NJ263 KJ263 cyJ263_0 cyJ263_1 cyJ263_2 cyJ263_3 cyJ263_4 cyJ263_5 cyJ263_6 cyJ263_7 cyJ263_8 cyJ263_9 cyJ263_10 cyJ263_11 cyJ263_12 cyJ263_13 cyJ263_14 cyJ263_15 cyJ263_16 hi0_LDl1 hi1_LDl1
      refine zil 291 XJ263 hx (D d14_289) rfl ?_
      refine zal 293 XJ263 hx (D d14_291) rfl rfl ?_
      refine gV 296 1 8 35 XJ263 NJ263 hx hZ (y := mq34) hown hml (ww hw 158 rfl) (ww hw 159 rfl) (ww hw 161 rfl) (ww hw 160 rfl) (rmSc l Z a0 hw [] l1 sb kB nb eb hJ263 n0 OJ263 cyJ263_2.2.2.2.2.2.2.2.2.2.1 cyJ263_2.2.2.2.2.2.2.2.2.2.2.1 cyJ263_2.2.2.2.2.2.2.2.2.2.2.2.1) (ww hw 162 rfl) (ww hw 32 rfl) eJ263 cyJ263_2.2.2.2.2.2.2.2.2.2.1 [] [(.int i)] (lenOf pd___I rfl) (D d14_293) ?_
      rintro T264 L264 M264 _ X264 uu264 ⟨rfl, Nq264, kq264⟩
      have N264 := uu264 Nq264
      refine zsk [(.int nb), (.int i)] ?_
      refine zcy 323 X264 hx (D d14_296) (flt (lpZ hi1_LDl1)).2.1 ?_
      refine zgo 264 X264 hx (D d14_323) ?_
      refine zal 266 X264 hx (D d14_264) rfl rfl ?_
      refine gI 271 0 8 35 X264 N264 hx hZ (y := mq15) (xi := mq42) hown hml (ww hw 130 rfl) (ww hw 131 rfl) (ww hw 132 rfl) (ww hw 133 rfl) (ww hw 134 rfl) (ww hw 135 rfl) (ww hw 136 rfl) (ww hw 137 rfl) (rmHn2 l Z a0 hw [] b247 a2 ed ke l0 l1 l2 hJ263 n0 OJ263 g_b247 (Ne.symm ne_a2_b247) cyJ263_11 cyJ263_12 cyJ263_13 cyJ263_14 cyJ263_15 cyJ263_2.1 cyJ263_2.2.1 cyJ263_2.2.2.1 cyJ263_2.2.2.2.1 cyJ263_2.2.2.2.2.2.1) (ww hw 138 rfl) (ww hw 117 rfl) kq264 cyJ263_11 [] [] (lenOf pd___Z rfl) (D d14_266) ?_
      rintro T265 L265 M265 _ X265 uu265 ⟨rfl, Nq265, kq265⟩
      have N265 := uu265 Nq265
      refine zsk [(.int 1)] ?_
      refine zfn 274 X265 hx (D d14_271) (by decide) ?_
      refine zal 276 X265 hx (D d14_274) rfl rfl ?_
      refine gI 281 0 8 35 X265 N265 hx hZ (y := mq17) (xi := mq43) hown hml (ww hw 142 rfl) (ww hw 143 rfl) (ww hw 144 rfl) (ww hw 145 rfl) (ww hw 146 rfl) (ww hw 147 rfl) (ww hw 148 rfl) (ww hw 137 rfl) (rmNx2 l Z a0 hw [] b247 a2 ed ke l0 l1 l2 hJ263 n0 OJ263 g_b247 (Ne.symm ne_a2_b247) cyJ263_11 cyJ263_12 cyJ263_13 cyJ263_14 cyJ263_15 cyJ263_2.1 cyJ263_2.2.1 cyJ263_2.2.2.1 cyJ263_2.2.2.2.1 cyJ263_2.2.2.2.2.2.1) (ww hw 149 rfl) (ww hw 117 rfl) kq265 cyJ263_11 [] [] (lenOf pd___Ljava_lang_Object_ rfl) (D d14_276) ?_
      rintro T266 L266 M266 _ X266 uu266 ⟨rfl, Nq266, kq266, eq266, fq266_0, fq266_1, fq266_2, fq266_3⟩
      have N266 := uu266 Nq266
      have O266 : Old Z n0 T266.heap := OJ263.keep kq266 (allS g_b247 all0)
      have K266 : Keep h0 T266.heap [a1] := KJ263.trans kq266 (allS (Or.inr sz_b247) all0)
      refine zsk [(.ref l2)] ?_
      have ft267 := (Cx.keep cyJ263_2 kq266 (ninS ne_a2_b247 nin0) (ninS ne_ed_b247 nin0) (ninS ne_l0_b247 nin0) (ninS ne_l1_b247 nin0) (ninS ne_l2_b247 nin0) (ninS ne_sa_b247 nin0) (ninS ne_sb_b247 nin0) (ninS ne_sc_b247 nin0))
      obtain ⟨T268, X268, e268, st268⟩ := castY X266 hx hZ hown (ww hw 156 rfl) rfl (Ins.self ft267.2.2.2.2.2.2.2.2.2.2.2.2.1) (g := (mkF m 281 #[rv a1, iv 1, rv a2, .val (.int ((na + nb) + nc)), rv b247, rv l1, iv i, .unset, .unset, .unset] [(.ref l2)])) rfl rfl (D d14_281)
      refine zst 284 #[rv a1, iv 1, rv a2, .val (.int ((na + nb) + nc)), rv b247, rv l1, iv i, .unset, .unset, .unset] [(.ref l2)] st268 ?_
      refine zrl 286 #[rv a1, iv 1, rv a2, .val (.int ((na + nb) + nc)), rv b247, rv l2, iv i, .unset, .unset, .unset] X268 hx (D d14_284) rfl ?_
      refine zic 287 0 X268 hx (D d14_286) ?_
      refine zsl 289 #[rv a1, iv 1, rv a2, .val (.int ((na + nb) + nc)), rv b247, rv l2, iv 0, .unset, .unset, .unset] X268 hx (D d14_287) ?_
      have LDl2 : ∀ (fuel : Nat) (TJ269 : State) (hJ269 : Heap) (LJ269 : List Loc) (i : Int32) (cl2 : Int32), (Stand p l e ({ frames := 5, cells := 11, slots := 67, locals := 76 } : Room) s m #[(.ref a1), (.int 1), (.ref a2)] below meth c TJ269 LJ269 8 35) → (TJ269.heap = hJ269) → (Old Z n0 hJ269) → (Fr n0 LJ269) → (Keep h0 hJ269 [a1]) → (Exa Z hJ269 a1 "com/example/kinetic_city/kineticcity/engine/TransitNetwork") → (a1 < hJ269.size) → (Cx Z hJ269 a2 ed ke l0 l1 l2 sa kA na ea sb kB nb eb sc kC nc ec) → (Fld Z hJ269 a1 "com/example/kinetic_city/kineticcity/engine/TransitNetwork" "firstSegment" "[I" (.ref fs)) → (Fld Z hJ269 a1 "com/example/kinetic_city/kineticcity/engine/TransitNetwork" "callStart" "[I" (.ref b243)) → (Fld Z hJ269 a1 "com/example/kinetic_city/kineticcity/engine/TransitNetwork" "callLine" "[I" .null) → (Fld Z hJ269 a1 "com/example/kinetic_city/kineticcity/engine/TransitNetwork" "callPosition" "[I" .null) → (Arv Z hJ269 fs kf .int (4 : Int32) [(.int (0 : Int32)), (.int (na - (1 : Int32))), (.int (((na - (1 : Int32)) + nb) - (1 : Int32))), (.int (((((na - (1 : Int32)) + nb) - (1 : Int32)) + nc) - (1 : Int32)))] (.int (0 : Int32))) → (fs < hJ269.size) → (Arv Z hJ269 b243 kc243 .int (3 : Int32) [(.int (0 : Int32)), (.int (0 : Int32)), (.int cl2)] (.int (0 : Int32))) → (b243 < hJ269.size) → (Exa Z hJ269 b247 "java/util/ArrayList$Itr") → (Fld Z hJ269 b247 "java/util/ArrayList$Itr" "this$0" "Ljava/util/ArrayList;" (.ref a2)) → (Fld Z hJ269 b247 "java/util/ArrayList$Itr" "lastRet" "I" (.int (2 : Int32))) → (Fld Z hJ269 b247 "java/util/ArrayList$Itr" "expectedModCount" "I" (.int (3 : Int32))) → (Fld Z hJ269 b247 "java/util/ArrayList$Itr" "cursor" "I" (.int (3 : Int32))) → (b247 < hJ269.size) → (((0 : Nat) : Int) ≤ i.toInt) → (i.toInt + (fuel : Int) = nc.toInt) → Go p e below (Done s (fun v h L => v = none ∧ Fr n0 L ∧ Keep h0 h [a1] ∧ Exa Z h a1 "com/example/kinetic_city/kineticcity/engine/TransitNetwork" ∧ ∃ (fs : Addr) (kf : ClassId), Fld Z h a1 "com/example/kinetic_city/kineticcity/engine/TransitNetwork" "firstSegment" "[I" (.ref fs) ∧ Arv Z h fs kf .int (4 : Int32) [(.int (0 : Int32)), (.int (na - (1 : Int32))), (.int (((na - (1 : Int32)) + nb) - (1 : Int32))), (.int (((((na - (1 : Int32)) + nb) - (1 : Int32)) + nc) - (1 : Int32)))] (.int (0 : Int32))) ({ frames := 5, cells := 11, slots := 67, locals := 76 } : Room).cells ({ frames := 5, cells := 11, slots := 67, locals := 76 } : Room).slots) TJ269 (mkF m 289 #[rv a1, iv 1, rv a2, .val (.int ((na + nb) + nc)), rv b247, rv l2, iv i, .unset, .unset, .unset] []) := by
       intro fuel
       induction fuel with
       | zero =>
        intro TJ269 hJ269 LJ269 i cl2 XJ269 eJ269 OJ269 NJ269 KJ269 cyJ269_0 cyJ269_1 cyJ269_2 cyJ269_3 cyJ269_4 cyJ269_5 cyJ269_6 cyJ269_7 cyJ269_8 cyJ269_9 cyJ269_10 cyJ269_11 cyJ269_12 cyJ269_13 cyJ269_14 cyJ269_15 cyJ269_16 hi0_LDl2 hi1_LDl2
        refine zil 291 XJ269 hx (D d14_289) rfl ?_
        refine zal 293 XJ269 hx (D d14_291) rfl rfl ?_
        refine gV 296 1 8 35 XJ269 NJ269 hx hZ (y := mq34) hown hml (ww hw 158 rfl) (ww hw 159 rfl) (ww hw 161 rfl) (ww hw 160 rfl) (rmSc l Z a0 hw [] l2 sc kC nc ec hJ269 n0 OJ269 cyJ269_2.2.2.2.2.2.2.2.2.2.2.2.2.1 cyJ269_2.2.2.2.2.2.2.2.2.2.2.2.2.2.1 cyJ269_2.2.2.2.2.2.2.2.2.2.2.2.2.2.2) (ww hw 162 rfl) (ww hw 32 rfl) eJ269 cyJ269_2.2.2.2.2.2.2.2.2.2.2.2.2.1 [] [(.int i)] (lenOf pd___I rfl) (D d14_293) ?_
        rintro T270 L270 M270 _ X270 uu270 ⟨rfl, Nq270, kq270⟩
        have N270 := uu270 Nq270
        refine zsk [(.int nc), (.int i)] ?_
        refine zcy 323 X270 hx (D d14_296) (flt (lpZ hi1_LDl2)).2.1 ?_
        refine zgo 264 X270 hx (D d14_323) ?_
        refine zal 266 X270 hx (D d14_264) rfl rfl ?_
        refine gI 271 0 8 35 X270 N270 hx hZ (y := mq15) (xi := mq42) hown hml (ww hw 130 rfl) (ww hw 131 rfl) (ww hw 132 rfl) (ww hw 133 rfl) (ww hw 134 rfl) (ww hw 135 rfl) (ww hw 136 rfl) (ww hw 137 rfl) (rmHn3 l Z a0 hw [] b247 a2 ed ke l0 l1 l2 hJ269 n0 OJ269 g_b247 (Ne.symm ne_a2_b247) cyJ269_11 cyJ269_12 cyJ269_13 cyJ269_14 cyJ269_15 cyJ269_2.1 cyJ269_2.2.1 cyJ269_2.2.2.1 cyJ269_2.2.2.2.1 cyJ269_2.2.2.2.2.2.1) (ww hw 138 rfl) (ww hw 117 rfl) kq270 cyJ269_11 [] [] (lenOf pd___Z rfl) (D d14_266) ?_
        rintro T271 L271 M271 _ X271 uu271 ⟨rfl, Nq271, kq271⟩
        have N271 := uu271 Nq271
        refine zsk [(.int 0)] ?_
        refine zfy 326 X271 hx (D d14_271) (by decide) ?_
        refine zic 327 1 X271 hx (D d14_326) ?_
        refine zsl 329 #[rv a1, iv 1, rv a2, .val (.int ((na + nb) + nc)), iv 1, rv l2, iv i, .unset, .unset, .unset] X271 hx (D d14_327) ?_
        refine zil 331 X271 hx (D d14_329) rfl ?_
        refine zin 332 X271 hx (D d14_331) rfl ?_
        refine zic 333 1 X271 hx (D d14_332) ?_
        refine Go.st (f' := (mkF m 334 #[rv a1, iv 1, rv a2, .val (.int ((na + nb) + nc)), iv 1, rv l2, iv i, .unset, .unset, .unset] [(.int 2), (.int 1)])) (fun _ k => XS.iadd X271.here hx rfl (D d14_333) rfl k) ?_
        refine zcn 337 X271 hx (D d14_334) (by decide) ?_
        refine zan 338 X271 hx (D d14_337) rfl rfl ?_
        refine zgf 341 X271 hx hZ hown (host := "") (Or.inl (ww hw 289 rfl)) Via.refl kq271 cyJ269_4 (D d14_338) fun T272 X272 e272 => ?_
        refine zil 343 X272 hx (D d14_341) rfl ?_
        refine Go.st (f' := (mkF m 344 #[rv a1, iv 1, rv a2, .val (.int ((na + nb) + nc)), iv 1, rv l2, iv i, .unset, .unset, .unset] [(.int 1), (.ref b243), (.int 1), (.ref b243)])) (fun _ k => XT.dup2 X272.here hx rfl (D d14_343) rfl rfl rfl k) ?_
        obtain ⟨cl273, Ar273, -, S273, -, H273, -⟩ := id cyJ269_9
        have hin273 : ¬ ((1 : Int32) < 0 ∨ cl273.slots.size ≤ ((1 : Int32)).toNatClampNeg) := inb_of S273 ⟨by decide, by decide⟩
        have hat273 : cl273.slots[((1 : Int32)).toNatClampNeg]? = some (.int (0 : Int32)) := H273.at hin273 rfl
        refine Go.st (f' := (mkF m 345 #[rv a1, iv 1, rv a2, .val (.int ((na + nb) + nc)), iv 1, rv l2, iv i, .unset, .unset, .unset] [(.int 0), (.int 1), (.ref b243)])) (fun _ k => X272.iaload hx (j := (1 : Int32)) (v := (.int (0 : Int32))) (by rw [e272]; exact Ar273.1) (State.isArrayOf_alike hZ.alike Ar273.2.1) Ar273.2.2 hin273 hat273 (g := (mkF m 344 #[rv a1, iv 1, rv a2, .val (.int ((na + nb) + nc)), iv 1, rv l2, iv i, .unset, .unset, .unset] [(.int 1), (.ref b243), (.int 1), (.ref b243)])) rfl rfl (D d14_344) _ k) ?_
        refine zan 346 X272 hx (D d14_345) rfl rfl ?_
        refine zgf 349 X272 hx hZ hown (host := "") (Or.inl (ww hw 289 rfl)) Via.refl e272 cyJ269_4 (D d14_346) fun T274 X274 e274 => ?_
        refine zil 351 X274 hx (D d14_349) rfl ?_
        refine zic 352 1 X274 hx (D d14_351) ?_
        refine Go.st (f' := (mkF m 353 #[rv a1, iv 1, rv a2, .val (.int ((na + nb) + nc)), iv 1, rv l2, iv i, .unset, .unset, .unset] [(.int 0), (.ref b243), (.int 0), (.int 1), (.ref b243)])) (fun _ k => XS.isub X274.here hx rfl (D d14_352) rfl k) ?_
        obtain ⟨cl275, Ar275, -, S275, -, H275, -⟩ := id cyJ269_9
        have hin275 : ¬ ((0 : Int32) < 0 ∨ cl275.slots.size ≤ ((0 : Int32)).toNatClampNeg) := inb_of S275 ⟨by decide, by decide⟩
        have hat275 : cl275.slots[((0 : Int32)).toNatClampNeg]? = some (.int (0 : Int32)) := H275.at hin275 rfl
        refine Go.st (f' := (mkF m 354 #[rv a1, iv 1, rv a2, .val (.int ((na + nb) + nc)), iv 1, rv l2, iv i, .unset, .unset, .unset] [(.int 0), (.int 0), (.int 1), (.ref b243)])) (fun _ k => X274.iaload hx (j := (0 : Int32)) (v := (.int (0 : Int32))) (by rw [e274]; exact Ar275.1) (State.isArrayOf_alike hZ.alike Ar275.2.1) Ar275.2.2 hin275 hat275 (g := (mkF m 353 #[rv a1, iv 1, rv a2, .val (.int ((na + nb) + nc)), iv 1, rv l2, iv i, .unset, .unset, .unset] [(.int 0), (.ref b243), (.int 0), (.int 1), (.ref b243)])) rfl rfl (D d14_353) _ k) ?_
        refine Go.st (f' := (mkF m 355 #[rv a1, iv 1, rv a2, .val (.int ((na + nb) + nc)), iv 1, rv l2, iv i, .unset, .unset, .unset] [(.int 0), (.int 1), (.ref b243)])) (fun _ k => XS.iadd X274.here hx rfl (D d14_354) rfl k) ?_
        obtain ⟨cl276, Ar276, q276, S276, Nx276, H276, G276⟩ := id cyJ269_9
        have hin276 : ¬ ((1 : Int32) < 0 ∨ cl276.slots.size ≤ ((1 : Int32)).toNatClampNeg) := inb_of S276 ⟨by decide, by decide⟩
        obtain ⟨T277, h277, X277, e277, W277, st277⟩ := stI X274 hx hZ e274 Ar276 (j := (1 : Int32)) hin276 (g := (mkF m 355 #[rv a1, iv 1, rv a2, .val (.int ((na + nb) + nc)), iv 1, rv l2, iv i, .unset, .unset, .unset] [(.int 0), (.int 1), (.ref b243)])) rfl rfl (D d14_355)
        have V_b243_277 : Arv Z h277 b243 kc243 .int (3 : Int32) [(.int (0 : Int32)), (.int (0 : Int32)), (.int cl2)] (.int (0 : Int32)) := Arv.set Ar276 q276 S276 Nx276 H276 G276 rfl W277 1 rfl (Nat.le_of_ble_eq_true rfl)
        have N277 := Fr.snoc X277 N271 g_b243
        have O277 : Old Z n0 h277 := OJ269.wr W277 g_b243
        have K277 : Keep h0 h277 [a1] := KJ269.wr W277 (Or.inr sz_b243)
        refine zst 356 #[rv a1, iv 1, rv a2, .val (.int ((na + nb) + nc)), iv 1, rv l2, iv i, .unset, .unset, .unset] [] st277 ?_
        refine zii 359 #[rv a1, iv 1, rv a2, .val (.int ((na + nb) + nc)), iv 2, rv l2, iv i, .unset, .unset, .unset] X277 hx (D d14_356) rfl ?_
        refine zgo 329 X277 hx (D d14_359) ?_
        refine zil 331 X277 hx (D d14_329) rfl ?_
        refine zin 332 X277 hx (D d14_331) rfl ?_
        refine zic 333 1 X277 hx (D d14_332) ?_
        refine Go.st (f' := (mkF m 334 #[rv a1, iv 1, rv a2, .val (.int ((na + nb) + nc)), iv 2, rv l2, iv i, .unset, .unset, .unset] [(.int 2), (.int 2)])) (fun _ k => XS.iadd X277.here hx rfl (D d14_333) rfl k) ?_
        refine zcn 337 X277 hx (D d14_334) (by decide) ?_
        refine zan 338 X277 hx (D d14_337) rfl rfl ?_
        have ft278 := (cyJ269_4.other W277 (Or.inl ne_a1_b243))
        refine zgf 341 X277 hx hZ hown (host := "") (Or.inl (ww hw 289 rfl)) Via.refl e277 ft278 (D d14_338) fun T279 X279 e279 => ?_
        refine zil 343 X279 hx (D d14_341) rfl ?_
        refine Go.st (f' := (mkF m 344 #[rv a1, iv 1, rv a2, .val (.int ((na + nb) + nc)), iv 2, rv l2, iv i, .unset, .unset, .unset] [(.int 2), (.ref b243), (.int 2), (.ref b243)])) (fun _ k => XT.dup2 X279.here hx rfl (D d14_343) rfl rfl rfl k) ?_
        obtain ⟨cl280, Ar280, -, S280, -, H280, -⟩ := id V_b243_277
        have hin280 : ¬ ((2 : Int32) < 0 ∨ cl280.slots.size ≤ ((2 : Int32)).toNatClampNeg) := inb_of S280 ⟨by decide, by decide⟩
        have hat280 : cl280.slots[((2 : Int32)).toNatClampNeg]? = some (.int cl2) := H280.at hin280 rfl
        refine Go.st (f' := (mkF m 345 #[rv a1, iv 1, rv a2, .val (.int ((na + nb) + nc)), iv 2, rv l2, iv i, .unset, .unset, .unset] [(.int cl2), (.int 2), (.ref b243)])) (fun _ k => X279.iaload hx (j := (2 : Int32)) (v := (.int cl2)) (by rw [e279]; exact Ar280.1) (State.isArrayOf_alike hZ.alike Ar280.2.1) Ar280.2.2 hin280 hat280 (g := (mkF m 344 #[rv a1, iv 1, rv a2, .val (.int ((na + nb) + nc)), iv 2, rv l2, iv i, .unset, .unset, .unset] [(.int 2), (.ref b243), (.int 2), (.ref b243)])) rfl rfl (D d14_344) _ k) ?_
        refine zan 346 X279 hx (D d14_345) rfl rfl ?_
        refine zgf 349 X279 hx hZ hown (host := "") (Or.inl (ww hw 289 rfl)) Via.refl e279 ft278 (D d14_346) fun T281 X281 e281 => ?_
        refine zil 351 X281 hx (D d14_349) rfl ?_
        refine zic 352 1 X281 hx (D d14_351) ?_
        refine Go.st (f' := (mkF m 353 #[rv a1, iv 1, rv a2, .val (.int ((na + nb) + nc)), iv 2, rv l2, iv i, .unset, .unset, .unset] [(.int 1), (.ref b243), (.int cl2), (.int 2), (.ref b243)])) (fun _ k => XS.isub X281.here hx rfl (D d14_352) rfl k) ?_
        obtain ⟨cl282, Ar282, -, S282, -, H282, -⟩ := id V_b243_277
        have hin282 : ¬ ((1 : Int32) < 0 ∨ cl282.slots.size ≤ ((1 : Int32)).toNatClampNeg) := inb_of S282 ⟨by decide, by decide⟩
        have hat282 : cl282.slots[((1 : Int32)).toNatClampNeg]? = some (.int (0 : Int32)) := H282.at hin282 rfl
        refine Go.st (f' := (mkF m 354 #[rv a1, iv 1, rv a2, .val (.int ((na + nb) + nc)), iv 2, rv l2, iv i, .unset, .unset, .unset] [(.int 0), (.int cl2), (.int 2), (.ref b243)])) (fun _ k => X281.iaload hx (j := (1 : Int32)) (v := (.int (0 : Int32))) (by rw [e281]; exact Ar282.1) (State.isArrayOf_alike hZ.alike Ar282.2.1) Ar282.2.2 hin282 hat282 (g := (mkF m 353 #[rv a1, iv 1, rv a2, .val (.int ((na + nb) + nc)), iv 2, rv l2, iv i, .unset, .unset, .unset] [(.int 1), (.ref b243), (.int cl2), (.int 2), (.ref b243)])) rfl rfl (D d14_353) _ k) ?_
        refine zad 355 X281 hx (D d14_354) ?_
        rw [Int32.add_zero cl2]
        obtain ⟨cl283, Ar283, q283, S283, Nx283, H283, G283⟩ := id V_b243_277
        have hin283 : ¬ ((2 : Int32) < 0 ∨ cl283.slots.size ≤ ((2 : Int32)).toNatClampNeg) := inb_of S283 ⟨by decide, by decide⟩
        obtain ⟨T284, h284, X284, e284, W284, st284⟩ := stI X281 hx hZ e281 Ar283 (j := (2 : Int32)) hin283 (g := (mkF m 355 #[rv a1, iv 1, rv a2, .val (.int ((na + nb) + nc)), iv 2, rv l2, iv i, .unset, .unset, .unset] [(.int cl2), (.int 2), (.ref b243)])) rfl rfl (D d14_355)
        have V_b243_284 : Arv Z h284 b243 kc243 .int (3 : Int32) [(.int (0 : Int32)), (.int (0 : Int32)), (.int cl2)] (.int (0 : Int32)) := Arv.set Ar283 q283 S283 Nx283 H283 G283 rfl W284 2 rfl (Nat.le_of_ble_eq_true rfl)
        have N284 := Fr.snoc X284 N277 g_b243
        have O284 : Old Z n0 h284 := O277.wr W284 g_b243
        have K284 : Keep h0 h284 [a1] := K277.wr W284 (Or.inr sz_b243)
        refine zst 356 #[rv a1, iv 1, rv a2, .val (.int ((na + nb) + nc)), iv 2, rv l2, iv i, .unset, .unset, .unset] [] st284 ?_
        refine zii 359 #[rv a1, iv 1, rv a2, .val (.int ((na + nb) + nc)), iv 3, rv l2, iv i, .unset, .unset, .unset] X284 hx (D d14_356) rfl ?_
        refine zgo 329 X284 hx (D d14_359) ?_
        refine zil 331 X284 hx (D d14_329) rfl ?_
        refine zin 332 X284 hx (D d14_331) rfl ?_
        refine zic 333 1 X284 hx (D d14_332) ?_
        refine Go.st (f' := (mkF m 334 #[rv a1, iv 1, rv a2, .val (.int ((na + nb) + nc)), iv 3, rv l2, iv i, .unset, .unset, .unset] [(.int 2), (.int 3)])) (fun _ k => XS.iadd X284.here hx rfl (D d14_333) rfl k) ?_
        refine zcy 362 X284 hx (D d14_334) (by decide) ?_
        have ft285 := ((cyJ269_0.wr W277).wr W284)
        have ft286 := ((cyJ269_3.other W277 (Or.inl ne_a1_b243)).other W284 (Or.inl ne_a1_b243))
        have ft287 := (ft278.other W284 (Or.inl ne_a1_b243))
        have ft288 := ((cyJ269_5.other W277 (Or.inl ne_a1_b243)).other W284 (Or.inl ne_a1_b243))
        have ft289 := ((cyJ269_6.other W277 (Or.inl ne_a1_b243)).other W284 (Or.inl ne_a1_b243))
        have ft290 := ((cyJ269_7.other W277 ne_fs_b243).other W284 ne_fs_b243)
        have ft291 := (Cx.wr (Cx.wr cyJ269_2 W277 ne_a2_b243 ne_ed_b243 ne_l0_b243 ne_l1_b243 ne_l2_b243 ne_sa_b243 ne_sb_b243 ne_sc_b243) W284 ne_a2_b243 ne_ed_b243 ne_l0_b243 ne_l1_b243 ne_l2_b243 ne_sa_b243 ne_sb_b243 ne_sc_b243)
        exact C5 _ h284 _ i cl2 fs kf b243 kc243 X284 e284 O284 N284 K284 sz_fs sz_b243 ne_fs_b243 ft285 ft286 ft287 ft288 ft289 ft290 V_b243_284 ft291
       | succ fuel ih =>
        intro TJ269 hJ269 LJ269 i cl2 XJ269 eJ269 OJ269 NJ269 KJ269 cyJ269_0 cyJ269_1 cyJ269_2 cyJ269_3 cyJ269_4 cyJ269_5 cyJ269_6 cyJ269_7 cyJ269_8 cyJ269_9 cyJ269_10 cyJ269_11 cyJ269_12 cyJ269_13 cyJ269_14 cyJ269_15 cyJ269_16 hi0_LDl2 hi1_LDl2
        refine zil 291 XJ269 hx (D d14_289) rfl ?_
        refine zal 293 XJ269 hx (D d14_291) rfl rfl ?_
        refine gV 296 1 8 35 XJ269 NJ269 hx hZ (y := mq34) hown hml (ww hw 158 rfl) (ww hw 159 rfl) (ww hw 161 rfl) (ww hw 160 rfl) (rmSc l Z a0 hw [] l2 sc kC nc ec hJ269 n0 OJ269 cyJ269_2.2.2.2.2.2.2.2.2.2.2.2.2.1 cyJ269_2.2.2.2.2.2.2.2.2.2.2.2.2.2.1 cyJ269_2.2.2.2.2.2.2.2.2.2.2.2.2.2.2) (ww hw 162 rfl) (ww hw 32 rfl) eJ269 cyJ269_2.2.2.2.2.2.2.2.2.2.2.2.2.1 [] [(.int i)] (lenOf pd___I rfl) (D d14_293) ?_
        rintro T292 L292 M292 _ X292 uu292 ⟨rfl, Nq292, kq292⟩
        have N292 := uu292 Nq292
        refine zsk [(.int nc), (.int i)] ?_
        refine zcn 299 X292 hx (D d14_296) (tlt (lpS hi1_LDl2)).2.1 ?_
        refine zan 300 X292 hx (D d14_299) rfl rfl ?_
        refine zgf 303 X292 hx hZ hown (host := "") (Or.inl (ww hw 289 rfl)) Via.refl kq292 cyJ269_4 (D d14_300) fun T293 X293 e293 => ?_
        refine zal 305 X293 hx (D d14_303) rfl rfl ?_
        refine zil 307 X293 hx (D d14_305) rfl ?_
        refine gV 310 1 8 35 X293 N292 hx hZ (y := mq35) hown hml (ww hw 163 rfl) (ww hw 164 rfl) (ww hw 166 rfl) (ww hw 165 rfl) (rmSa l Z a0 hw [] l2 sc kC nc ec i hJ269 n0 OJ269 ln_sc al_sc (lpN hi0_LDl2) (lpS hi1_LDl2) cyJ269_2.2.2.2.2.2.2.2.2.2.2.2.2.1 cyJ269_2.2.2.2.2.2.2.2.2.2.2.2.2.2.1 cyJ269_2.2.2.2.2.2.2.2.2.2.2.2.2.2.2) (ww hw 167 rfl) (ww hw 32 rfl) e293 cyJ269_2.2.2.2.2.2.2.2.2.2.2.2.2.1 [(.int i)] [(.ref b243)] (lenOf pd__I_I rfl) (D d14_307) ?_
        rintro T294 L294 M294 _ X294 uu294 ⟨rfl, Nq294, kq294⟩
        have N294 := uu294 Nq294
        refine zsk [(.int 1), (.ref b243)] ?_
        refine zic 311 1 X294 hx (D d14_310) ?_
        refine Go.st (f' := (mkF m 312 #[rv a1, iv 1, rv a2, .val (.int ((na + nb) + nc)), rv b247, rv l2, iv i, .unset, .unset, .unset] [(.int 2), (.ref b243)])) (fun _ k => XS.iadd X294.here hx rfl (D d14_311) rfl k) ?_
        refine Go.st (f' := (mkF m 313 #[rv a1, iv 1, rv a2, .val (.int ((na + nb) + nc)), rv b247, rv l2, iv i, .unset, .unset, .unset] [(.int 2), (.ref b243), (.int 2), (.ref b243)])) (fun _ k => XT.dup2 X294.here hx rfl (D d14_312) rfl rfl rfl k) ?_
        obtain ⟨cl295, Ar295, -, S295, -, H295, -⟩ := id cyJ269_9
        have hin295 : ¬ ((2 : Int32) < 0 ∨ cl295.slots.size ≤ ((2 : Int32)).toNatClampNeg) := inb_of S295 ⟨by decide, by decide⟩
        have hat295 : cl295.slots[((2 : Int32)).toNatClampNeg]? = some (.int cl2) := H295.at hin295 rfl
        refine Go.st (f' := (mkF m 314 #[rv a1, iv 1, rv a2, .val (.int ((na + nb) + nc)), rv b247, rv l2, iv i, .unset, .unset, .unset] [(.int cl2), (.int 2), (.ref b243)])) (fun _ k => X294.iaload hx (j := (2 : Int32)) (v := (.int cl2)) (by rw [kq294]; exact Ar295.1) (State.isArrayOf_alike hZ.alike Ar295.2.1) Ar295.2.2 hin295 hat295 (g := (mkF m 313 #[rv a1, iv 1, rv a2, .val (.int ((na + nb) + nc)), rv b247, rv l2, iv i, .unset, .unset, .unset] [(.int 2), (.ref b243), (.int 2), (.ref b243)])) rfl rfl (D d14_313) _ k) ?_
        refine zic 315 1 X294 hx (D d14_314) ?_
        refine zad 316 X294 hx (D d14_315) ?_
        obtain ⟨cl296, Ar296, q296, S296, Nx296, H296, G296⟩ := id cyJ269_9
        have hin296 : ¬ ((2 : Int32) < 0 ∨ cl296.slots.size ≤ ((2 : Int32)).toNatClampNeg) := inb_of S296 ⟨by decide, by decide⟩
        obtain ⟨T297, h297, X297, e297, W297, st297⟩ := stI X294 hx hZ kq294 Ar296 (j := (2 : Int32)) hin296 (g := (mkF m 316 #[rv a1, iv 1, rv a2, .val (.int ((na + nb) + nc)), rv b247, rv l2, iv i, .unset, .unset, .unset] [(.int (cl2 + (1 : Int32))), (.int 2), (.ref b243)])) rfl rfl (D d14_316)
        have V_b243_297 : Arv Z h297 b243 kc243 .int (3 : Int32) [(.int (0 : Int32)), (.int (0 : Int32)), (.int (cl2 + (1 : Int32)))] (.int (0 : Int32)) := Arv.set Ar296 q296 S296 Nx296 H296 G296 rfl W297 2 rfl (Nat.le_of_ble_eq_true rfl)
        have N297 := Fr.snoc X297 N294 g_b243
        have O297 : Old Z n0 h297 := OJ269.wr W297 g_b243
        have K297 : Keep h0 h297 [a1] := KJ269.wr W297 (Or.inr sz_b243)
        refine zst 317 #[rv a1, iv 1, rv a2, .val (.int ((na + nb) + nc)), rv b247, rv l2, iv i, .unset, .unset, .unset] [] st297 ?_
        refine zii 320 #[rv a1, iv 1, rv a2, .val (.int ((na + nb) + nc)), rv b247, rv l2, .val (.int (i + (1 : Int32))), .unset, .unset, .unset] X297 hx (D d14_317) rfl ?_
        refine zgo 289 X297 hx (D d14_320) ?_
        have ft298 := (cyJ269_0.wr W297)
        have ft299 := (lteq cyJ269_1 W297.size.symm)
        have ft300 := (Cx.wr cyJ269_2 W297 ne_a2_b243 ne_ed_b243 ne_l0_b243 ne_l1_b243 ne_l2_b243 ne_sa_b243 ne_sb_b243 ne_sc_b243)
        have ft301 := (cyJ269_3.other W297 (Or.inl ne_a1_b243))
        have ft302 := (cyJ269_4.other W297 (Or.inl ne_a1_b243))
        have ft303 := (cyJ269_5.other W297 (Or.inl ne_a1_b243))
        have ft304 := (cyJ269_6.other W297 (Or.inl ne_a1_b243))
        have ft305 := (cyJ269_7.other W297 ne_fs_b243)
        have ft306 := (lteq cyJ269_8 W297.size.symm)
        have ft307 := (lteq cyJ269_10 W297.size.symm)
        have ft308 := (cyJ269_11.wr W297)
        have ft309 := (cyJ269_12.other W297 (Or.inl (Ne.symm ne_b243_b247)))
        have ft310 := (cyJ269_13.other W297 (Or.inl (Ne.symm ne_b243_b247)))
        have ft311 := (cyJ269_14.other W297 (Or.inl (Ne.symm ne_b243_b247)))
        have ft312 := (cyJ269_15.other W297 (Or.inl (Ne.symm ne_b243_b247)))
        have ft313 := (lteq cyJ269_16 W297.size.symm)
        exact ih _ h297 _ (i + (1 : Int32)) (cl2 + (1 : Int32)) X297 e297 O297 N297 K297 ft298 ft299 ft300 ft301 ft302 ft303 ft304 ft305 ft306 V_b243_297 ft307 ft308 ft309 ft310 ft311 ft312 ft313 (lpI hi0_LDl2 hi1_LDl2).1 (lpI hi0_LDl2 hi1_LDl2).2
      have ft314 := (cyJ263_0.keep kq266)
      have ft315 := (ltle cyJ263_1 kq266.1)
      have ft316 := (cyJ263_3.keep kq266 (ninS ne_a1_b247 nin0))
      have ft317 := (cyJ263_4.keep kq266 (ninS ne_a1_b247 nin0))
      have ft318 := (cyJ263_5.keep kq266 (ninS ne_a1_b247 nin0))
      have ft319 := (cyJ263_6.keep kq266 (ninS ne_a1_b247 nin0))
      have ft320 := (cyJ263_7.keep kq266 (ninS ne_fs_b247 nin0))
      have ft321 := (ltle cyJ263_8 kq266.1)
      have ft322 := (cyJ263_9.keep kq266 (ninS ne_b243_b247 nin0))
      have ft323 := (ltle cyJ263_10 kq266.1)
      have ft324 := (ltle cyJ263_16 kq266.1)
      exact LDl2 (nc.toInt - 0).toNat _ T266.heap _ (0 : Int32) cl1 X268 e268 O266 N266 K266 ft314 ft315 ft267 ft316 ft317 ft318 ft319 ft320 ft321 ft322 ft323 eq266 fq266_0 fq266_1 fq266_2 fq266_3 ft324 (by decide) (lp0 bc2)
     | succ fuel ih =>
      intro TJ263 hJ263 LJ263 i cl1 XJ263 eJ263 OJ263 NJ263 KJ263 cyJ263_0 cyJ263_1 cyJ263_2 cyJ263_3 cyJ263_4 cyJ263_5 cyJ263_6 cyJ263_7 cyJ263_8 cyJ263_9 cyJ263_10 cyJ263_11 cyJ263_12 cyJ263_13 cyJ263_14 cyJ263_15 cyJ263_16 hi0_LDl1 hi1_LDl1
      refine zil 291 XJ263 hx (D d14_289) rfl ?_
      refine zal 293 XJ263 hx (D d14_291) rfl rfl ?_
      refine gV 296 1 8 35 XJ263 NJ263 hx hZ (y := mq34) hown hml (ww hw 158 rfl) (ww hw 159 rfl) (ww hw 161 rfl) (ww hw 160 rfl) (rmSc l Z a0 hw [] l1 sb kB nb eb hJ263 n0 OJ263 cyJ263_2.2.2.2.2.2.2.2.2.2.1 cyJ263_2.2.2.2.2.2.2.2.2.2.2.1 cyJ263_2.2.2.2.2.2.2.2.2.2.2.2.1) (ww hw 162 rfl) (ww hw 32 rfl) eJ263 cyJ263_2.2.2.2.2.2.2.2.2.2.1 [] [(.int i)] (lenOf pd___I rfl) (D d14_293) ?_
      rintro T325 L325 M325 _ X325 uu325 ⟨rfl, Nq325, kq325⟩
      have N325 := uu325 Nq325
      refine zsk [(.int nb), (.int i)] ?_
      refine zcn 299 X325 hx (D d14_296) (tlt (lpS hi1_LDl1)).2.1 ?_
      refine zan 300 X325 hx (D d14_299) rfl rfl ?_
      refine zgf 303 X325 hx hZ hown (host := "") (Or.inl (ww hw 289 rfl)) Via.refl kq325 cyJ263_4 (D d14_300) fun T326 X326 e326 => ?_
      refine zal 305 X326 hx (D d14_303) rfl rfl ?_
      refine zil 307 X326 hx (D d14_305) rfl ?_
      refine gV 310 1 8 35 X326 N325 hx hZ (y := mq35) hown hml (ww hw 163 rfl) (ww hw 164 rfl) (ww hw 166 rfl) (ww hw 165 rfl) (rmSa l Z a0 hw [] l1 sb kB nb eb i hJ263 n0 OJ263 ln_sb al_sb (lpN hi0_LDl1) (lpS hi1_LDl1) cyJ263_2.2.2.2.2.2.2.2.2.2.1 cyJ263_2.2.2.2.2.2.2.2.2.2.2.1 cyJ263_2.2.2.2.2.2.2.2.2.2.2.2.1) (ww hw 167 rfl) (ww hw 32 rfl) e326 cyJ263_2.2.2.2.2.2.2.2.2.2.1 [(.int i)] [(.ref b243)] (lenOf pd__I_I rfl) (D d14_307) ?_
      rintro T327 L327 M327 _ X327 uu327 ⟨rfl, Nq327, kq327⟩
      have N327 := uu327 Nq327
      refine zsk [(.int 1), (.ref b243)] ?_
      refine zic 311 1 X327 hx (D d14_310) ?_
      refine Go.st (f' := (mkF m 312 #[rv a1, iv 1, rv a2, .val (.int ((na + nb) + nc)), rv b247, rv l1, iv i, .unset, .unset, .unset] [(.int 2), (.ref b243)])) (fun _ k => XS.iadd X327.here hx rfl (D d14_311) rfl k) ?_
      refine Go.st (f' := (mkF m 313 #[rv a1, iv 1, rv a2, .val (.int ((na + nb) + nc)), rv b247, rv l1, iv i, .unset, .unset, .unset] [(.int 2), (.ref b243), (.int 2), (.ref b243)])) (fun _ k => XT.dup2 X327.here hx rfl (D d14_312) rfl rfl rfl k) ?_
      obtain ⟨cl328, Ar328, -, S328, -, H328, -⟩ := id cyJ263_9
      have hin328 : ¬ ((2 : Int32) < 0 ∨ cl328.slots.size ≤ ((2 : Int32)).toNatClampNeg) := inb_of S328 ⟨by decide, by decide⟩
      have hat328 : cl328.slots[((2 : Int32)).toNatClampNeg]? = some (.int cl1) := H328.at hin328 rfl
      refine Go.st (f' := (mkF m 314 #[rv a1, iv 1, rv a2, .val (.int ((na + nb) + nc)), rv b247, rv l1, iv i, .unset, .unset, .unset] [(.int cl1), (.int 2), (.ref b243)])) (fun _ k => X327.iaload hx (j := (2 : Int32)) (v := (.int cl1)) (by rw [kq327]; exact Ar328.1) (State.isArrayOf_alike hZ.alike Ar328.2.1) Ar328.2.2 hin328 hat328 (g := (mkF m 313 #[rv a1, iv 1, rv a2, .val (.int ((na + nb) + nc)), rv b247, rv l1, iv i, .unset, .unset, .unset] [(.int 2), (.ref b243), (.int 2), (.ref b243)])) rfl rfl (D d14_313) _ k) ?_
      refine zic 315 1 X327 hx (D d14_314) ?_
      refine zad 316 X327 hx (D d14_315) ?_
      obtain ⟨cl329, Ar329, q329, S329, Nx329, H329, G329⟩ := id cyJ263_9
      have hin329 : ¬ ((2 : Int32) < 0 ∨ cl329.slots.size ≤ ((2 : Int32)).toNatClampNeg) := inb_of S329 ⟨by decide, by decide⟩
      obtain ⟨T330, h330, X330, e330, W330, st330⟩ := stI X327 hx hZ kq327 Ar329 (j := (2 : Int32)) hin329 (g := (mkF m 316 #[rv a1, iv 1, rv a2, .val (.int ((na + nb) + nc)), rv b247, rv l1, iv i, .unset, .unset, .unset] [(.int (cl1 + (1 : Int32))), (.int 2), (.ref b243)])) rfl rfl (D d14_316)
      have V_b243_330 : Arv Z h330 b243 kc243 .int (3 : Int32) [(.int (0 : Int32)), (.int (0 : Int32)), (.int (cl1 + (1 : Int32)))] (.int (0 : Int32)) := Arv.set Ar329 q329 S329 Nx329 H329 G329 rfl W330 2 rfl (Nat.le_of_ble_eq_true rfl)
      have N330 := Fr.snoc X330 N327 g_b243
      have O330 : Old Z n0 h330 := OJ263.wr W330 g_b243
      have K330 : Keep h0 h330 [a1] := KJ263.wr W330 (Or.inr sz_b243)
      refine zst 317 #[rv a1, iv 1, rv a2, .val (.int ((na + nb) + nc)), rv b247, rv l1, iv i, .unset, .unset, .unset] [] st330 ?_
      refine zii 320 #[rv a1, iv 1, rv a2, .val (.int ((na + nb) + nc)), rv b247, rv l1, .val (.int (i + (1 : Int32))), .unset, .unset, .unset] X330 hx (D d14_317) rfl ?_
      refine zgo 289 X330 hx (D d14_320) ?_
      have ft331 := (cyJ263_0.wr W330)
      have ft332 := (lteq cyJ263_1 W330.size.symm)
      have ft333 := (Cx.wr cyJ263_2 W330 ne_a2_b243 ne_ed_b243 ne_l0_b243 ne_l1_b243 ne_l2_b243 ne_sa_b243 ne_sb_b243 ne_sc_b243)
      have ft334 := (cyJ263_3.other W330 (Or.inl ne_a1_b243))
      have ft335 := (cyJ263_4.other W330 (Or.inl ne_a1_b243))
      have ft336 := (cyJ263_5.other W330 (Or.inl ne_a1_b243))
      have ft337 := (cyJ263_6.other W330 (Or.inl ne_a1_b243))
      have ft338 := (cyJ263_7.other W330 ne_fs_b243)
      have ft339 := (lteq cyJ263_8 W330.size.symm)
      have ft340 := (lteq cyJ263_10 W330.size.symm)
      have ft341 := (cyJ263_11.wr W330)
      have ft342 := (cyJ263_12.other W330 (Or.inl (Ne.symm ne_b243_b247)))
      have ft343 := (cyJ263_13.other W330 (Or.inl (Ne.symm ne_b243_b247)))
      have ft344 := (cyJ263_14.other W330 (Or.inl (Ne.symm ne_b243_b247)))
      have ft345 := (cyJ263_15.other W330 (Or.inl (Ne.symm ne_b243_b247)))
      have ft346 := (lteq cyJ263_16 W330.size.symm)
      exact ih _ h330 _ (i + (1 : Int32)) (cl1 + (1 : Int32)) X330 e330 O330 N330 K330 ft331 ft332 ft333 ft334 ft335 ft336 ft337 ft338 ft339 V_b243_330 ft340 ft341 ft342 ft343 ft344 ft345 ft346 (lpI hi0_LDl1 hi1_LDl1).1 (lpI hi0_LDl1 hi1_LDl1).2
    have ft347 := (cyJ257_0.keep kq260)
    have ft348 := (ltle cyJ257_1 kq260.1)
    have ft349 := (cyJ257_3.keep kq260 (ninS ne_a1_b247 nin0))
    have ft350 := (cyJ257_4.keep kq260 (ninS ne_a1_b247 nin0))
    have ft351 := (cyJ257_5.keep kq260 (ninS ne_a1_b247 nin0))
    have ft352 := (cyJ257_6.keep kq260 (ninS ne_a1_b247 nin0))
    have ft353 := (cyJ257_7.keep kq260 (ninS ne_fs_b247 nin0))
    have ft354 := (ltle cyJ257_8 kq260.1)
    have ft355 := (cyJ257_9.keep kq260 (ninS ne_b243_b247 nin0))
    have ft356 := (ltle cyJ257_10 kq260.1)
    have ft357 := (ltle cyJ257_16 kq260.1)
    exact LDl1 (nb.toInt - 0).toNat _ T260.heap _ (0 : Int32) cl0 X262 e262 O260 N260 K260 ft347 ft348 ft261 ft349 ft350 ft351 ft352 ft353 ft354 ft355 ft356 eq260 fq260_0 fq260_1 fq260_2 fq260_3 ft357 (by decide) (lp0 bb2)
   | succ fuel ih =>
    intro TJ257 hJ257 LJ257 i cl0 XJ257 eJ257 OJ257 NJ257 KJ257 cyJ257_0 cyJ257_1 cyJ257_2 cyJ257_3 cyJ257_4 cyJ257_5 cyJ257_6 cyJ257_7 cyJ257_8 cyJ257_9 cyJ257_10 cyJ257_11 cyJ257_12 cyJ257_13 cyJ257_14 cyJ257_15 cyJ257_16 hi0_LDl0 hi1_LDl0
    refine zil 291 XJ257 hx (D d14_289) rfl ?_
    refine zal 293 XJ257 hx (D d14_291) rfl rfl ?_
    refine gV 296 1 8 35 XJ257 NJ257 hx hZ (y := mq34) hown hml (ww hw 158 rfl) (ww hw 159 rfl) (ww hw 161 rfl) (ww hw 160 rfl) (rmSc l Z a0 hw [] l0 sa kA na ea hJ257 n0 OJ257 cyJ257_2.2.2.2.2.2.2.1 cyJ257_2.2.2.2.2.2.2.2.1 cyJ257_2.2.2.2.2.2.2.2.2.1) (ww hw 162 rfl) (ww hw 32 rfl) eJ257 cyJ257_2.2.2.2.2.2.2.1 [] [(.int i)] (lenOf pd___I rfl) (D d14_293) ?_
    rintro T358 L358 M358 _ X358 uu358 ⟨rfl, Nq358, kq358⟩
    have N358 := uu358 Nq358
    refine zsk [(.int na), (.int i)] ?_
    refine zcn 299 X358 hx (D d14_296) (tlt (lpS hi1_LDl0)).2.1 ?_
    refine zan 300 X358 hx (D d14_299) rfl rfl ?_
    refine zgf 303 X358 hx hZ hown (host := "") (Or.inl (ww hw 289 rfl)) Via.refl kq358 cyJ257_4 (D d14_300) fun T359 X359 e359 => ?_
    refine zal 305 X359 hx (D d14_303) rfl rfl ?_
    refine zil 307 X359 hx (D d14_305) rfl ?_
    refine gV 310 1 8 35 X359 N358 hx hZ (y := mq35) hown hml (ww hw 163 rfl) (ww hw 164 rfl) (ww hw 166 rfl) (ww hw 165 rfl) (rmSa l Z a0 hw [] l0 sa kA na ea i hJ257 n0 OJ257 ln_sa al_sa (lpN hi0_LDl0) (lpS hi1_LDl0) cyJ257_2.2.2.2.2.2.2.1 cyJ257_2.2.2.2.2.2.2.2.1 cyJ257_2.2.2.2.2.2.2.2.2.1) (ww hw 167 rfl) (ww hw 32 rfl) e359 cyJ257_2.2.2.2.2.2.2.1 [(.int i)] [(.ref b243)] (lenOf pd__I_I rfl) (D d14_307) ?_
    rintro T360 L360 M360 _ X360 uu360 ⟨rfl, Nq360, kq360⟩
    have N360 := uu360 Nq360
    refine zsk [(.int 1), (.ref b243)] ?_
    refine zic 311 1 X360 hx (D d14_310) ?_
    refine Go.st (f' := (mkF m 312 #[rv a1, iv 1, rv a2, .val (.int ((na + nb) + nc)), rv b247, rv l0, iv i, .unset, .unset, .unset] [(.int 2), (.ref b243)])) (fun _ k => XS.iadd X360.here hx rfl (D d14_311) rfl k) ?_
    refine Go.st (f' := (mkF m 313 #[rv a1, iv 1, rv a2, .val (.int ((na + nb) + nc)), rv b247, rv l0, iv i, .unset, .unset, .unset] [(.int 2), (.ref b243), (.int 2), (.ref b243)])) (fun _ k => XT.dup2 X360.here hx rfl (D d14_312) rfl rfl rfl k) ?_
    obtain ⟨cl361, Ar361, -, S361, -, H361, -⟩ := id cyJ257_9
    have hin361 : ¬ ((2 : Int32) < 0 ∨ cl361.slots.size ≤ ((2 : Int32)).toNatClampNeg) := inb_of S361 ⟨by decide, by decide⟩
    have hat361 : cl361.slots[((2 : Int32)).toNatClampNeg]? = some (.int cl0) := H361.at hin361 rfl
    refine Go.st (f' := (mkF m 314 #[rv a1, iv 1, rv a2, .val (.int ((na + nb) + nc)), rv b247, rv l0, iv i, .unset, .unset, .unset] [(.int cl0), (.int 2), (.ref b243)])) (fun _ k => X360.iaload hx (j := (2 : Int32)) (v := (.int cl0)) (by rw [kq360]; exact Ar361.1) (State.isArrayOf_alike hZ.alike Ar361.2.1) Ar361.2.2 hin361 hat361 (g := (mkF m 313 #[rv a1, iv 1, rv a2, .val (.int ((na + nb) + nc)), rv b247, rv l0, iv i, .unset, .unset, .unset] [(.int 2), (.ref b243), (.int 2), (.ref b243)])) rfl rfl (D d14_313) _ k) ?_
    refine zic 315 1 X360 hx (D d14_314) ?_
    refine zad 316 X360 hx (D d14_315) ?_
    obtain ⟨cl362, Ar362, q362, S362, Nx362, H362, G362⟩ := id cyJ257_9
    have hin362 : ¬ ((2 : Int32) < 0 ∨ cl362.slots.size ≤ ((2 : Int32)).toNatClampNeg) := inb_of S362 ⟨by decide, by decide⟩
    obtain ⟨T363, h363, X363, e363, W363, st363⟩ := stI X360 hx hZ kq360 Ar362 (j := (2 : Int32)) hin362 (g := (mkF m 316 #[rv a1, iv 1, rv a2, .val (.int ((na + nb) + nc)), rv b247, rv l0, iv i, .unset, .unset, .unset] [(.int (cl0 + (1 : Int32))), (.int 2), (.ref b243)])) rfl rfl (D d14_316)
    have V_b243_363 : Arv Z h363 b243 kc243 .int (3 : Int32) [(.int (0 : Int32)), (.int (0 : Int32)), (.int (cl0 + (1 : Int32)))] (.int (0 : Int32)) := Arv.set Ar362 q362 S362 Nx362 H362 G362 rfl W363 2 rfl (Nat.le_of_ble_eq_true rfl)
    have N363 := Fr.snoc X363 N360 g_b243
    have O363 : Old Z n0 h363 := OJ257.wr W363 g_b243
    have K363 : Keep h0 h363 [a1] := KJ257.wr W363 (Or.inr sz_b243)
    refine zst 317 #[rv a1, iv 1, rv a2, .val (.int ((na + nb) + nc)), rv b247, rv l0, iv i, .unset, .unset, .unset] [] st363 ?_
    refine zii 320 #[rv a1, iv 1, rv a2, .val (.int ((na + nb) + nc)), rv b247, rv l0, .val (.int (i + (1 : Int32))), .unset, .unset, .unset] X363 hx (D d14_317) rfl ?_
    refine zgo 289 X363 hx (D d14_320) ?_
    have ft364 := (cyJ257_0.wr W363)
    have ft365 := (lteq cyJ257_1 W363.size.symm)
    have ft366 := (Cx.wr cyJ257_2 W363 ne_a2_b243 ne_ed_b243 ne_l0_b243 ne_l1_b243 ne_l2_b243 ne_sa_b243 ne_sb_b243 ne_sc_b243)
    have ft367 := (cyJ257_3.other W363 (Or.inl ne_a1_b243))
    have ft368 := (cyJ257_4.other W363 (Or.inl ne_a1_b243))
    have ft369 := (cyJ257_5.other W363 (Or.inl ne_a1_b243))
    have ft370 := (cyJ257_6.other W363 (Or.inl ne_a1_b243))
    have ft371 := (cyJ257_7.other W363 ne_fs_b243)
    have ft372 := (lteq cyJ257_8 W363.size.symm)
    have ft373 := (lteq cyJ257_10 W363.size.symm)
    have ft374 := (cyJ257_11.wr W363)
    have ft375 := (cyJ257_12.other W363 (Or.inl (Ne.symm ne_b243_b247)))
    have ft376 := (cyJ257_13.other W363 (Or.inl (Ne.symm ne_b243_b247)))
    have ft377 := (cyJ257_14.other W363 (Or.inl (Ne.symm ne_b243_b247)))
    have ft378 := (cyJ257_15.other W363 (Or.inl (Ne.symm ne_b243_b247)))
    have ft379 := (lteq cyJ257_16 W363.size.symm)
    exact ih _ h363 _ (i + (1 : Int32)) (cl0 + (1 : Int32)) X363 e363 O363 N363 K363 ft364 ft365 ft366 ft367 ft368 ft369 ft370 ft371 ft372 V_b243_363 ft373 ft374 ft375 ft376 ft377 ft378 ft379 (lpI hi0_LDl0 hi1_LDl0).1 (lpI hi0_LDl0 hi1_LDl0).2
  have ft380 := (((ft244.wr W246).keep kq247).keep kq254)
  have ft381 := (ltle (ltle ft249 kq247.1) kq254.1)
  have ft382 := ((((pF_firstSegment.ext E243).other W246 (Or.inr (slot_ne (Or.inr (ww hw 259 rfl)) (Or.inr (ww hw 290 rfl)) (by decide) (t := (.array .int)) (t' := (.array .int)) (by decide) (by decide)))).keep kq247 nin0).keep kq254 (ninS ne_a1_b247 nin0))
  have ft383 := ((Fw246.keep kq247 nin0).keep kq254 (ninS ne_a1_b247 nin0))
  have ft384 := ((((pF_callLine.ext E243).other W246 (Or.inr (slot_ne (Or.inr (ww hw 292 rfl)) (Or.inr (ww hw 290 rfl)) (by decide) (t := (.array .int)) (t' := (.array .int)) (by decide) (by decide)))).keep kq247 nin0).keep kq254 (ninS ne_a1_b247 nin0))
  have ft385 := ((((pF_callPosition.ext E243).other W246 (Or.inr (slot_ne (Or.inr (ww hw 294 rfl)) (Or.inr (ww hw 290 rfl)) (by decide) (t := (.array .int)) (t' := (.array .int)) (by decide) (by decide)))).keep kq247 nin0).keep kq254 (ninS ne_a1_b247 nin0))
  have ft386 := ((((pV_fs.ext E243).other W246 (Ne.symm ne_a1_fs)).keep kq247 nin0).keep kq254 (ninS ne_fs_b247 nin0))
  have ft387 := (ltle (ltle ft250 kq247.1) kq254.1)
  have ft388 := (((V_b243.other W246 (Ne.symm ne_a1_b243)).keep kq247 nin0).keep kq254 (ninS ne_b243_b247 nin0))
  have ft389 := (ltle (ltle ft251 kq247.1) kq254.1)
  have ft390 := (ltle lt_b247 kq254.1)
  exact LDl0 (na.toInt - 0).toNat _ T254.heap _ (0 : Int32) (0 : Int32) X256 e256 O254 N254 K254 ft380 ft381 ft255 ft382 ft383 ft384 ft385 ft386 ft387 ft388 ft389 eq254 fq254_0 fq254_1 fq254_2 fq254_3 ft390 (by decide) (lp0 ba2)
set_option maxRecDepth 65536 in
set_option maxHeartbeats 40000000 in
theorem rmN_C2 (l : Launch) (Z : State) (a0 : Array Value) (hw : ∀ d ∈ tables_1, d.before a0 Z = true) (a1 : Addr) (a2 : Addr) (ed : Addr) (ke : ClassId) (l0 : Addr) (l1 : Addr) (l2 : Addr) (sa : Addr) (kA : ClassId) (na : Int32) (ea : List Value) (sb : Addr) (kB : ClassId) (nb : Int32) (eb : List Value) (sc : Addr) (kC : ClassId) (nc : Int32) (ec : List Value) (mir_0 : Addr) (mir_1 : Addr) (mir_2 : Addr) (mir_3 : Addr) (wE : Addr) (wD : Addr) (kE : ClassId) (kD : ClassId) (h0 : Heap) (n0 : Nat) (O0 : Old Z n0 h0) (ba2 : 2 ≤ na.toInt) (ba5 : na.toInt ≤ 5) (bb2 : 2 ≤ nb.toInt) (bb5 : nb.toInt ≤ 5) (bc2 : 2 ≤ nc.toInt) (bc5 : nc.toInt ≤ 5) (g_a1 : n0 ≤ a1) (ne12 : a1 ≠ a2) (E_a1 : Exa Z h0 a1 "com/example/kinetic_city/kineticcity/engine/TransitNetwork") (F_a1_stopCount : Fld Z h0 a1 "com/example/kinetic_city/kineticcity/engine/TransitNetwork" "stopCount" "I" (.int 0)) (F_a1_lines : Fld Z h0 a1 "com/example/kinetic_city/kineticcity/engine/TransitNetwork" "lines" "Ljava/util/List;" .null) (F_a1_firstSegment : Fld Z h0 a1 "com/example/kinetic_city/kineticcity/engine/TransitNetwork" "firstSegment" "[I" .null) (F_a1_lineOfSegment : Fld Z h0 a1 "com/example/kinetic_city/kineticcity/engine/TransitNetwork" "lineOfSegment" "[I" .null) (F_a1_callStart : Fld Z h0 a1 "com/example/kinetic_city/kineticcity/engine/TransitNetwork" "callStart" "[I" .null) (F_a1_callLine : Fld Z h0 a1 "com/example/kinetic_city/kineticcity/engine/TransitNetwork" "callLine" "[I" .null) (F_a1_callPosition : Fld Z h0 a1 "com/example/kinetic_city/kineticcity/engine/TransitNetwork" "callPosition" "[I" .null) (E_a2 : Exa Z h0 a2 "java/util/ArrayList") (F_a2_modCount : Fld Z h0 a2 "java/util/AbstractList" "modCount" "I" (.int 3)) (F_a2_elementData : Fld Z h0 a2 "java/util/ArrayList" "elementData" "[Ljava/lang/Object;" (.ref ed)) (F_a2_size : Fld Z h0 a2 "java/util/ArrayList" "size" "I" (.int 3)) (V_ed : Arv Z h0 ed ke (.object "java/lang/Object") (10 : Int32) [(.ref l0), (.ref l1), (.ref l2)] .null) (E_ed : Exa Z h0 ed "[Ljava/lang/Object;") (E_l0 : Exa Z h0 l0 "com/example/kinetic_city/kineticcity/engine/TransitLine") (E_l1 : Exa Z h0 l1 "com/example/kinetic_city/kineticcity/engine/TransitLine") (E_l2 : Exa Z h0 l2 "com/example/kinetic_city/kineticcity/engine/TransitLine") (ln_sa : Ln na ea) (al_sa : AllE (.int 1) ea) (F_l0_stops : Fld Z h0 l0 "com/example/kinetic_city/kineticcity/engine/TransitLine" "stops" "[I" (.ref sa)) (V_sa : Arv Z h0 sa kA .int na ea (.int 0)) (ln_sb : Ln nb eb) (al_sb : AllE (.int 1) eb) (F_l1_stops : Fld Z h0 l1 "com/example/kinetic_city/kineticcity/engine/TransitLine" "stops" "[I" (.ref sb)) (V_sb : Arv Z h0 sb kB .int nb eb (.int 0)) (ln_sc : Ln nc ec) (al_sc : AllE (.int 1) ec) (F_l2_stops : Fld Z h0 l2 "com/example/kinetic_city/kineticcity/engine/TransitLine" "stops" "[I" (.ref sc)) (V_sc : Arv Z h0 sc kC .int nc ec (.int 0)) (WW : World1 Z mir_0 mir_1 mir_2 mir_3 wE wD kE kD) {p : Program} {e : Env} {s : State} {m : MethodId} {below : List Frame} {meth : Method} {c : Code} (St : Stp p Z s m meth c prog_23_method_1_code 10 none mq38) :
    ∀ (TJ391 : State) (hJ391 : Heap) (LJ391 : List Loc) (i6 : Int32) (fs : Addr) (kf : ClassId), (Stand p l e ({ frames := 5, cells := 11, slots := 67, locals := 76 } : Room) s m #[(.ref a1), (.int 1), (.ref a2)] below meth c TJ391 LJ391 5 16) → (TJ391.heap = hJ391) → (Old Z n0 hJ391) → (Fr n0 LJ391) → (Keep h0 hJ391 [a1]) → (h0.size ≤ fs) → (Exa Z hJ391 a1 "com/example/kinetic_city/kineticcity/engine/TransitNetwork") → (Fld Z hJ391 a1 "com/example/kinetic_city/kineticcity/engine/TransitNetwork" "firstSegment" "[I" (.ref fs)) → (Fld Z hJ391 a1 "com/example/kinetic_city/kineticcity/engine/TransitNetwork" "lineOfSegment" "[I" .null) → (Fld Z hJ391 a1 "com/example/kinetic_city/kineticcity/engine/TransitNetwork" "callStart" "[I" .null) → (Fld Z hJ391 a1 "com/example/kinetic_city/kineticcity/engine/TransitNetwork" "callLine" "[I" .null) → (Fld Z hJ391 a1 "com/example/kinetic_city/kineticcity/engine/TransitNetwork" "callPosition" "[I" .null) → (Arv Z hJ391 fs kf .int (4 : Int32) [(.int (0 : Int32)), (.int (na - (1 : Int32))), (.int (((na - (1 : Int32)) + nb) - (1 : Int32))), (.int (((((na - (1 : Int32)) + nb) - (1 : Int32)) + nc) - (1 : Int32)))] (.int (0 : Int32))) → (Cx Z hJ391 a2 ed ke l0 l1 l2 sa kA na ea sb kB nb eb sc kC nc ec) → Go p e below (Done s (fun v h L => v = none ∧ Fr n0 L ∧ Keep h0 h [a1] ∧ Exa Z h a1 "com/example/kinetic_city/kineticcity/engine/TransitNetwork" ∧ ∃ (fs : Addr) (kf : ClassId), Fld Z h a1 "com/example/kinetic_city/kineticcity/engine/TransitNetwork" "firstSegment" "[I" (.ref fs) ∧ Arv Z h fs kf .int (4 : Int32) [(.int (0 : Int32)), (.int (na - (1 : Int32))), (.int (((na - (1 : Int32)) + nb) - (1 : Int32))), (.int (((((na - (1 : Int32)) + nb) - (1 : Int32)) + nc) - (1 : Int32)))] (.int (0 : Int32))) ({ frames := 5, cells := 11, slots := 67, locals := 76 } : Room).cells ({ frames := 5, cells := 11, slots := 67, locals := 76 } : Room).slots) TJ391 (mkF m 185 #[rv a1, iv 1, rv a2, .val (.int ((na + nb) + nc)), iv 3, rv l2, iv i6, .unset, .unset, .unset] []) := by
  obtain ⟨hx, hby, hml, hnm, hlk, hret, hZ, hown⟩ := St
  have N0 := Fr.nil n0
  have D := @hb _ _ hby
  have K0 : Keep h0 h0 [a1] := Keep.refl _ _
  have ⟨M_0, M_1, M_2, M_3, S_wE, E_wE, S_wD, E_wD, V_wE, V_wD⟩ := WW
  have lt_wE := E_wE.lt
  have lt_wD := E_wD.lt
  have z0 : (0 : Int32).toInt = 0 := by decide
  have z1 : (1 : Int32).toInt = 1 := by decide
  obtain ⟨f1, f2, f3, f4⟩ := own_fs ba2 ba5 bb2 bb5 bc2 bc5
  have lt_a1 := E_a1.lt
  have ne_wE_a1 : wE ≠ a1 := O0.ne lt_wE g_a1
  have ne_wD_a1 : wD ≠ a1 := O0.ne lt_wD g_a1
  have lt_a2 := E_a2.lt
  have lt_ed := V_ed.lt
  have lt_l0 := E_l0.lt
  have lt_l1 := E_l1.lt
  have lt_l2 := E_l2.lt
  have lt_sa := V_sa.lt
  have nl_l0 : a1 ≠ l0 := Exa.ne E_a1 E_l0 (by decide)
  have ns_sa : a1 ≠ sa := Exa.neArv E_a1 V_sa (ww hw 100 rfl)
  have lt_sb := V_sb.lt
  have nl_l1 : a1 ≠ l1 := Exa.ne E_a1 E_l1 (by decide)
  have ns_sb : a1 ≠ sb := Exa.neArv E_a1 V_sb (ww hw 100 rfl)
  have lt_sc := V_sc.lt
  have nl_l2 : a1 ≠ l2 := Exa.ne E_a1 E_l2 (by decide)
  have ns_sc : a1 ≠ sc := Exa.neArv E_a1 V_sc (ww hw 100 rfl)
  have n1d : a1 ≠ ed := Exa.neArv E_a1 V_ed (ww hw 100 rfl)
  have cc := own_c12 ba2 ba5 bb2 bb5 bc2 bc5 f3 f4
  obtain ⟨g1, g2, g3, g4, g5, g6, g7⟩ := own_gs ba2 ba5 bb2 bb5 bc2 bc5 f1 f2 f3 f4
  have cx0 : Cx Z h0 a2 ed ke l0 l1 l2 sa kA na ea sb kB nb eb sc kC nc ec := ⟨E_a2, F_a2_modCount, F_a2_elementData, F_a2_size, E_ed, V_ed, E_l0, F_l0_stops, V_sa, E_l1, F_l1_stops, V_sb, E_l2, F_l2_stops, V_sc⟩
  have C3 := @rmN_C3 l Z a0 hw a1 a2 ed ke l0 l1 l2 sa kA na ea sb kB nb eb sc kC nc ec mir_0 mir_1 mir_2 mir_3 wE wD kE kD h0 n0 O0 ba2 ba5 bb2 bb5 bc2 bc5 g_a1 ne12 E_a1 F_a1_stopCount F_a1_lines F_a1_firstSegment F_a1_lineOfSegment F_a1_callStart F_a1_callLine F_a1_callPosition E_a2 F_a2_modCount F_a2_elementData F_a2_size V_ed E_ed E_l0 E_l1 E_l2 ln_sa al_sa F_l0_stops V_sa ln_sb al_sb F_l1_stops V_sb ln_sc al_sc F_l2_stops V_sc WW p e s m below meth c ⟨hx, hby, hml, hnm, hlk, hret, hZ, hown⟩
  intro TJ391 hJ391 LJ391 i6 fs kf XJ391 eJ391 OJ391 NJ391 KJ391 sz_fs pE pF_firstSegment pF_lineOfSegment pF_callStart pF_callLine pF_callPosition pV_fs pC
  have lt_a1J := pE.lt
  have lt_fs := pV_fs.lt
  have g_fs : n0 ≤ fs := Nat.le_trans (O0.1 ▸ O0.2.1) sz_fs
  have ne_a1_fs : a1 ≠ fs := Nat.ne_of_lt (ltle lt_a1 sz_fs)
  have ne_a2_fs : a2 ≠ fs := Nat.ne_of_lt (ltle lt_a2 sz_fs)
  have ne_ed_fs : ed ≠ fs := Nat.ne_of_lt (ltle lt_ed sz_fs)
  have ne_l0_fs : l0 ≠ fs := Nat.ne_of_lt (ltle lt_l0 sz_fs)
  have ne_l1_fs : l1 ≠ fs := Nat.ne_of_lt (ltle lt_l1 sz_fs)
  have ne_l2_fs : l2 ≠ fs := Nat.ne_of_lt (ltle lt_l2 sz_fs)
  have ne_sa_fs : sa ≠ fs := Nat.ne_of_lt (ltle lt_sa sz_fs)
  have ne_sb_fs : sb ≠ fs := Nat.ne_of_lt (ltle lt_sb sz_fs)
  have ne_sc_fs : sc ≠ fs := Nat.ne_of_lt (ltle lt_sc sz_fs)
  refine zan 186 XJ391 hx (D d14_185) rfl rfl ?_
  refine zan 187 XJ391 hx (D d14_186) rfl rfl ?_
  refine zgf 190 XJ391 hx hZ hown (host := "") (Or.inl (ww hw 258 rfl)) Via.refl eJ391 pF_firstSegment (D d14_187) fun T392 X392 e392 => ?_
  refine zan 191 X392 hx (D d14_190) rfl rfl ?_
  refine gI 196 2 5 16 X392 NJ391 hx hZ (y := mq18) (xi := mq39) hown hml (ww hw 250 rfl) (ww hw 251 rfl) (ww hw 252 rfl) (ww hw 253 rfl) (ww hw 254 rfl) (ww hw 255 rfl) (ww hw 256 rfl) (ww hw 113 rfl) (rmSz l Z a0 hw [] a2 ed ke l0 l1 l2 hJ391 n0 OJ391 pC.1 pC.2.1 pC.2.2.1 pC.2.2.2.1 pC.2.2.2.2.2.1) (ww hw 257 rfl) (ww hw 2 rfl) e392 pC.1 [] [(.ref fs), (.ref a1)] (lenOf pd___I rfl) (D d14_191) ?_
  rintro T393 L393 M393 _ X393 uu393 ⟨rfl, Nq393, kq393⟩
  have N393 := uu393 Nq393
  refine zsk [(.int 3), (.ref fs), (.ref a1)] ?_
  obtain ⟨cl394, Ar394, -, S394, -, H394, -⟩ := id pV_fs
  have hin394 : ¬ ((3 : Int32) < 0 ∨ cl394.slots.size ≤ ((3 : Int32)).toNatClampNeg) := inb_of S394 ⟨by decide, by decide⟩
  have hat394 : cl394.slots[((3 : Int32)).toNatClampNeg]? = some (.int (((((na - (1 : Int32)) + nb) - (1 : Int32)) + nc) - (1 : Int32))) := H394.at hin394 rfl
  refine Go.st (f' := (mkF m 197 #[rv a1, iv 1, rv a2, .val (.int ((na + nb) + nc)), iv 3, rv l2, iv i6, .unset, .unset, .unset] [(.int (((((na - (1 : Int32)) + nb) - (1 : Int32)) + nc) - (1 : Int32))), (.ref a1)])) (fun _ k => X393.iaload hx (j := (3 : Int32)) (v := (.int (((((na - (1 : Int32)) + nb) - (1 : Int32)) + nc) - (1 : Int32)))) (by rw [kq393]; exact Ar394.1) (State.isArrayOf_alike hZ.alike Ar394.2.1) Ar394.2.2 hin394 hat394 (g := (mkF m 196 #[rv a1, iv 1, rv a2, .val (.int ((na + nb) + nc)), iv 3, rv l2, iv i6, .unset, .unset, .unset] [(.int 3), (.ref fs), (.ref a1)])) rfl rfl (D d14_196) _ k) ?_
  obtain ⟨T395, h395, kc395, X395, e395, E395, A395, st395⟩ := newP X393 hx hZ (ww hw 33 rfl) kq393 (g := (mkF m 197 #[rv a1, iv 1, rv a2, .val (.int ((na + nb) + nc)), iv 3, rv l2, iv i6, .unset, .unset, .unset] [(.int (((((na - (1 : Int32)) + nb) - (1 : Int32)) + nc) - (1 : Int32))), (.ref a1)])) rfl (D d14_197) rfl cc.1.1 (cap := 12) cc.1.2 (by decide) (by decide) (by decide)
  obtain ⟨b395, g395⟩ : ∃ z, z = hJ391.size := ⟨_, rfl⟩
  rw [← g395] at A395 st395
  have ne_a2_b395 : a2 ≠ b395 := Nat.ne_of_lt (lteq pC.1.lt g395.symm)
  have ne_ed_b395 : ed ≠ b395 := Nat.ne_of_lt (lteq pC.2.2.2.2.1.lt g395.symm)
  have ne_l0_b395 : l0 ≠ b395 := Nat.ne_of_lt (lteq pC.2.2.2.2.2.2.1.lt g395.symm)
  have ne_l1_b395 : l1 ≠ b395 := Nat.ne_of_lt (lteq pC.2.2.2.2.2.2.2.2.2.1.lt g395.symm)
  have ne_l2_b395 : l2 ≠ b395 := Nat.ne_of_lt (lteq pC.2.2.2.2.2.2.2.2.2.2.2.2.1.lt g395.symm)
  have ne_sa_b395 : sa ≠ b395 := Nat.ne_of_lt (lteq pC.2.2.2.2.2.2.2.2.1.lt g395.symm)
  have ne_sb_b395 : sb ≠ b395 := Nat.ne_of_lt (lteq pC.2.2.2.2.2.2.2.2.2.2.2.1.lt g395.symm)
  have ne_sc_b395 : sc ≠ b395 := Nat.ne_of_lt (lteq pC.2.2.2.2.2.2.2.2.2.2.2.2.2.2.lt g395.symm)
  have ne_a1_b395 : a1 ≠ b395 := Nat.ne_of_lt (lteq lt_a1J g395.symm)
  have ne_fs_b395 : fs ≠ b395 := Nat.ne_of_lt (lteq lt_fs g395.symm)
  have ne_wE_b395 : wE ≠ b395 := Nat.ne_of_lt (ltle lt_wE (Nat.le_trans OJ391.2.1 (Nat.le_of_eq g395.symm)))
  have ne_wD_b395 : wD ≠ b395 := Nat.ne_of_lt (ltle lt_wD (Nat.le_trans OJ391.2.1 (Nat.le_of_eq g395.symm)))
  have g_b395 : n0 ≤ b395 := Nat.le_trans (OJ391.1 ▸ OJ391.2.1) (Nat.le_of_eq g395.symm)
  have O395 : Old Z n0 h395 := OJ391.ext E395
  have sz_b395 : h0.size ≤ b395 := Nat.le_trans KJ391.1 (Nat.le_of_eq g395.symm)
  have K395 : Keep h0 h395 [a1] := KJ391.ext E395
  have I_b395 : Ia Z h395 b395 (((((na - (1 : Int32)) + nb) - (1 : Int32)) + nc) - (1 : Int32)) := Ia.new A395 cc.1.1
  have lt_b395 := A395.lt
  refine zst 199 #[rv a1, iv 1, rv a2, .val (.int ((na + nb) + nc)), iv 3, rv l2, iv i6, .unset, .unset, .unset] [(.ref b395), (.ref a1)] st395 ?_
  have ft396 := (pE.ext E395)
  have ft397 := (pF_lineOfSegment.ext E395)
  obtain ⟨T398, h398, X398, e398, W398, st398⟩ := putF X395 hx hZ hown (host := "") (Or.inl (ww hw 281 rfl)) Via.refl e395 ft397 ft396 (Or.inr ⟨(ww hw 282 rfl), rfl, hnm⟩) (ww hw 100 rfl) (ty := (.array .int)) (by decide) rfl rfl (g := (mkF m 199 #[rv a1, iv 1, rv a2, .val (.int ((na + nb) + nc)), iv 3, rv l2, iv i6, .unset, .unset, .unset] [(.ref b395), (.ref a1)])) rfl rfl (D d14_199)
  have N398 := Fr.snoc X398 N393 g_a1
  have O398 : Old Z n0 h398 := O395.wr W398 g_a1
  have K398 : Keep h0 h398 [a1] := K395.wr W398 (Or.inl (List.mem_of_getElem? (i := 0) rfl))
  have Fw398 := ft397.same W398
  refine zst 202 #[rv a1, iv 1, rv a2, .val (.int ((na + nb) + nc)), iv 3, rv l2, iv i6, .unset, .unset, .unset] [] st398 ?_
  refine zic 203 0 X398 hx (D d14_202) ?_
  refine zsl 205 #[rv a1, iv 1, rv a2, .val (.int ((na + nb) + nc)), iv 0, rv l2, iv i6, .unset, .unset, .unset] X398 hx (D d14_203) ?_
  refine zil 207 X398 hx (D d14_205) rfl ?_
  refine zan 208 X398 hx (D d14_207) rfl rfl ?_
  have ft400 := (Cx.wr (Cx.ext pC E395) W398 (Ne.symm ne12) (Ne.symm n1d) (Ne.symm nl_l0) (Ne.symm nl_l1) (Ne.symm nl_l2) (Ne.symm ns_sa) (Ne.symm ns_sb) (Ne.symm ns_sc))
  refine gI 213 1 6 28 X398 N398 hx hZ (y := mq18) (xi := mq39) hown hml (ww hw 250 rfl) (ww hw 251 rfl) (ww hw 252 rfl) (ww hw 253 rfl) (ww hw 254 rfl) (ww hw 255 rfl) (ww hw 256 rfl) (ww hw 113 rfl) (rmSz l Z a0 hw [] a2 ed ke l0 l1 l2 h398 n0 O398 ft400.1 ft400.2.1 ft400.2.2.1 ft400.2.2.2.1 ft400.2.2.2.2.2.1) (ww hw 257 rfl) (ww hw 2 rfl) e398 ft400.1 [] [(.int 0)] (lenOf pd___I rfl) (D d14_208) ?_
  rintro T399 L399 M399 _ X399 uu399 ⟨rfl, Nq399, kq399⟩
  have N399 := uu399 Nq399
  refine zsk [(.int 3), (.int 0)] ?_
  refine zcn 216 X399 hx (D d14_213) (by decide) ?_
  refine zan 217 X399 hx (D d14_216) rfl rfl ?_
  refine zgf 220 X399 hx hZ hown (host := "") (Or.inl (ww hw 281 rfl)) Via.refl kq399 Fw398 (D d14_217) fun T401 X401 e401 => ?_
  refine zan 221 X401 hx (D d14_220) rfl rfl ?_
  have ft402 := ((pF_firstSegment.ext E395).other W398 (Or.inr (slot_ne (Or.inr (ww hw 259 rfl)) (Or.inr (ww hw 282 rfl)) (by decide) (t := (.array .int)) (t' := (.array .int)) (by decide) (by decide))))
  refine zgf 224 X401 hx hZ hown (host := "") (Or.inl (ww hw 258 rfl)) Via.refl e401 ft402 (D d14_221) fun T403 X403 e403 => ?_
  refine zil 226 X403 hx (D d14_224) rfl ?_
  have ft405 := ((pV_fs.ext E395).other W398 (Ne.symm ne_a1_fs))
  obtain ⟨cl404, Ar404, -, S404, -, H404, -⟩ := id ft405
  have hin404 : ¬ ((0 : Int32) < 0 ∨ cl404.slots.size ≤ ((0 : Int32)).toNatClampNeg) := inb_of S404 ⟨by decide, by decide⟩
  have hat404 : cl404.slots[((0 : Int32)).toNatClampNeg]? = some (.int (0 : Int32)) := H404.at hin404 rfl
  refine Go.st (f' := (mkF m 227 #[rv a1, iv 1, rv a2, .val (.int ((na + nb) + nc)), iv 0, rv l2, iv i6, .unset, .unset, .unset] [(.int 0), (.ref b395)])) (fun _ k => X403.iaload hx (j := (0 : Int32)) (v := (.int (0 : Int32))) (by rw [e403]; exact Ar404.1) (State.isArrayOf_alike hZ.alike Ar404.2.1) Ar404.2.2 hin404 hat404 (g := (mkF m 226 #[rv a1, iv 1, rv a2, .val (.int ((na + nb) + nc)), iv 0, rv l2, iv i6, .unset, .unset, .unset] [(.int 0), (.ref fs), (.ref b395)])) rfl rfl (D d14_226) _ k) ?_
  refine zan 228 X403 hx (D d14_227) rfl rfl ?_
  refine zgf 231 X403 hx hZ hown (host := "") (Or.inl (ww hw 258 rfl)) Via.refl e403 ft402 (D d14_228) fun T406 X406 e406 => ?_
  refine zil 233 X406 hx (D d14_231) rfl ?_
  refine zic 234 1 X406 hx (D d14_233) ?_
  refine Go.st (f' := (mkF m 235 #[rv a1, iv 1, rv a2, .val (.int ((na + nb) + nc)), iv 0, rv l2, iv i6, .unset, .unset, .unset] [(.int 1), (.ref fs), (.int 0), (.ref b395)])) (fun _ k => XS.iadd X406.here hx rfl (D d14_234) rfl k) ?_
  obtain ⟨cl407, Ar407, -, S407, -, H407, -⟩ := id ft405
  have hin407 : ¬ ((1 : Int32) < 0 ∨ cl407.slots.size ≤ ((1 : Int32)).toNatClampNeg) := inb_of S407 ⟨by decide, by decide⟩
  have hat407 : cl407.slots[((1 : Int32)).toNatClampNeg]? = some (.int (na - (1 : Int32))) := H407.at hin407 rfl
  refine Go.st (f' := (mkF m 236 #[rv a1, iv 1, rv a2, .val (.int ((na + nb) + nc)), iv 0, rv l2, iv i6, .unset, .unset, .unset] [(.int (na - (1 : Int32))), (.int 0), (.ref b395)])) (fun _ k => X406.iaload hx (j := (1 : Int32)) (v := (.int (na - (1 : Int32)))) (by rw [e406]; exact Ar407.1) (State.isArrayOf_alike hZ.alike Ar407.2.1) Ar407.2.2 hin407 hat407 (g := (mkF m 235 #[rv a1, iv 1, rv a2, .val (.int ((na + nb) + nc)), iv 0, rv l2, iv i6, .unset, .unset, .unset] [(.int 1), (.ref fs), (.int 0), (.ref b395)])) rfl rfl (D d14_235) _ k) ?_
  refine zil 238 X406 hx (D d14_236) rfl ?_
  have ft409 := (Ia.other I_b395 W398 (Ne.symm ne_a1_b395))
  refine gS 241 0 6 28 X406 N399 hx hZ (y := mq37) hown hml (ww hw 283 rfl) (ww hw 284 rfl) (ww hw 185 rfl) (rmFl l Z a0 hw [] b395 (((((na - (1 : Int32)) + nb) - (1 : Int32)) + nc) - (1 : Int32)) (0 : Int32) (na - (1 : Int32)) (0 : Int32) h398 n0 O398 (by decide) g1 g4 g_b395 ft409) (ww hw 285 rfl) e406 [(.ref b395), (.int 0), (.int (na - (1 : Int32))), (.int 0)] [] (lenOf pd___IIII_V rfl) (D d14_238) ?_
  rintro T408 L408 M408 _ X408 uu408 ⟨rfl, Nq408, kq408, iq408⟩
  have N408 := uu408 Nq408
  have O408 : Old Z n0 T408.heap := O398.keep kq408 (allS g_b395 all0)
  have K408 : Keep h0 T408.heap [a1] := K398.trans kq408 (allS (Or.inr sz_b395) all0)
  refine zsk [] ?_
  refine zii 244 #[rv a1, iv 1, rv a2, .val (.int ((na + nb) + nc)), iv 1, rv l2, iv i6, .unset, .unset, .unset] X408 hx (D d14_241) rfl ?_
  refine zgo 205 X408 hx (D d14_244) ?_
  refine zil 207 X408 hx (D d14_205) rfl ?_
  refine zan 208 X408 hx (D d14_207) rfl rfl ?_
  have ft411 := (Cx.keep ft400 kq408 (ninS ne_a2_b395 nin0) (ninS ne_ed_b395 nin0) (ninS ne_l0_b395 nin0) (ninS ne_l1_b395 nin0) (ninS ne_l2_b395 nin0) (ninS ne_sa_b395 nin0) (ninS ne_sb_b395 nin0) (ninS ne_sc_b395 nin0))
  refine gI 213 1 6 28 X408 N408 hx hZ (y := mq18) (xi := mq39) hown hml (ww hw 250 rfl) (ww hw 251 rfl) (ww hw 252 rfl) (ww hw 253 rfl) (ww hw 254 rfl) (ww hw 255 rfl) (ww hw 256 rfl) (ww hw 113 rfl) (rmSz l Z a0 hw [] a2 ed ke l0 l1 l2 T408.heap n0 O408 ft411.1 ft411.2.1 ft411.2.2.1 ft411.2.2.2.1 ft411.2.2.2.2.2.1) (ww hw 257 rfl) (ww hw 2 rfl) rfl ft411.1 [] [(.int 1)] (lenOf pd___I rfl) (D d14_208) ?_
  rintro T410 L410 M410 _ X410 uu410 ⟨rfl, Nq410, kq410⟩
  have N410 := uu410 Nq410
  refine zsk [(.int 3), (.int 1)] ?_
  refine zcn 216 X410 hx (D d14_213) (by decide) ?_
  refine zan 217 X410 hx (D d14_216) rfl rfl ?_
  have ft412 := (Fw398.keep kq408 (ninS ne_a1_b395 nin0))
  refine zgf 220 X410 hx hZ hown (host := "") (Or.inl (ww hw 281 rfl)) Via.refl kq410 ft412 (D d14_217) fun T413 X413 e413 => ?_
  refine zan 221 X413 hx (D d14_220) rfl rfl ?_
  have ft414 := (ft402.keep kq408 (ninS ne_a1_b395 nin0))
  refine zgf 224 X413 hx hZ hown (host := "") (Or.inl (ww hw 258 rfl)) Via.refl e413 ft414 (D d14_221) fun T415 X415 e415 => ?_
  refine zil 226 X415 hx (D d14_224) rfl ?_
  have ft417 := (ft405.keep kq408 (ninS ne_fs_b395 nin0))
  obtain ⟨cl416, Ar416, -, S416, -, H416, -⟩ := id ft417
  have hin416 : ¬ ((1 : Int32) < 0 ∨ cl416.slots.size ≤ ((1 : Int32)).toNatClampNeg) := inb_of S416 ⟨by decide, by decide⟩
  have hat416 : cl416.slots[((1 : Int32)).toNatClampNeg]? = some (.int (na - (1 : Int32))) := H416.at hin416 rfl
  refine Go.st (f' := (mkF m 227 #[rv a1, iv 1, rv a2, .val (.int ((na + nb) + nc)), iv 1, rv l2, iv i6, .unset, .unset, .unset] [(.int (na - (1 : Int32))), (.ref b395)])) (fun _ k => X415.iaload hx (j := (1 : Int32)) (v := (.int (na - (1 : Int32)))) (by rw [e415]; exact Ar416.1) (State.isArrayOf_alike hZ.alike Ar416.2.1) Ar416.2.2 hin416 hat416 (g := (mkF m 226 #[rv a1, iv 1, rv a2, .val (.int ((na + nb) + nc)), iv 1, rv l2, iv i6, .unset, .unset, .unset] [(.int 1), (.ref fs), (.ref b395)])) rfl rfl (D d14_226) _ k) ?_
  refine zan 228 X415 hx (D d14_227) rfl rfl ?_
  refine zgf 231 X415 hx hZ hown (host := "") (Or.inl (ww hw 258 rfl)) Via.refl e415 ft414 (D d14_228) fun T418 X418 e418 => ?_
  refine zil 233 X418 hx (D d14_231) rfl ?_
  refine zic 234 1 X418 hx (D d14_233) ?_
  refine Go.st (f' := (mkF m 235 #[rv a1, iv 1, rv a2, .val (.int ((na + nb) + nc)), iv 1, rv l2, iv i6, .unset, .unset, .unset] [(.int 2), (.ref fs), (.int (na - (1 : Int32))), (.ref b395)])) (fun _ k => XS.iadd X418.here hx rfl (D d14_234) rfl k) ?_
  obtain ⟨cl419, Ar419, -, S419, -, H419, -⟩ := id ft417
  have hin419 : ¬ ((2 : Int32) < 0 ∨ cl419.slots.size ≤ ((2 : Int32)).toNatClampNeg) := inb_of S419 ⟨by decide, by decide⟩
  have hat419 : cl419.slots[((2 : Int32)).toNatClampNeg]? = some (.int (((na - (1 : Int32)) + nb) - (1 : Int32))) := H419.at hin419 rfl
  refine Go.st (f' := (mkF m 236 #[rv a1, iv 1, rv a2, .val (.int ((na + nb) + nc)), iv 1, rv l2, iv i6, .unset, .unset, .unset] [(.int (((na - (1 : Int32)) + nb) - (1 : Int32))), (.int (na - (1 : Int32))), (.ref b395)])) (fun _ k => X418.iaload hx (j := (2 : Int32)) (v := (.int (((na - (1 : Int32)) + nb) - (1 : Int32)))) (by rw [e418]; exact Ar419.1) (State.isArrayOf_alike hZ.alike Ar419.2.1) Ar419.2.2 hin419 hat419 (g := (mkF m 235 #[rv a1, iv 1, rv a2, .val (.int ((na + nb) + nc)), iv 1, rv l2, iv i6, .unset, .unset, .unset] [(.int 2), (.ref fs), (.int (na - (1 : Int32))), (.ref b395)])) rfl rfl (D d14_235) _ k) ?_
  refine zil 238 X418 hx (D d14_236) rfl ?_
  refine gS 241 0 6 28 X418 N410 hx hZ (y := mq37) hown hml (ww hw 283 rfl) (ww hw 284 rfl) (ww hw 185 rfl) (rmFl l Z a0 hw [] b395 (((((na - (1 : Int32)) + nb) - (1 : Int32)) + nc) - (1 : Int32)) (na - (1 : Int32)) (((na - (1 : Int32)) + nb) - (1 : Int32)) (1 : Int32) T408.heap n0 O408 g2 g3 g5 g_b395 iq408) (ww hw 285 rfl) e418 [(.ref b395), (.int (na - (1 : Int32))), (.int (((na - (1 : Int32)) + nb) - (1 : Int32))), (.int 1)] [] (lenOf pd___IIII_V rfl) (D d14_238) ?_
  rintro T420 L420 M420 _ X420 uu420 ⟨rfl, Nq420, kq420, iq420⟩
  have N420 := uu420 Nq420
  have O420 : Old Z n0 T420.heap := O408.keep kq420 (allS g_b395 all0)
  have K420 : Keep h0 T420.heap [a1] := K408.trans kq420 (allS (Or.inr sz_b395) all0)
  refine zsk [] ?_
  refine zii 244 #[rv a1, iv 1, rv a2, .val (.int ((na + nb) + nc)), iv 2, rv l2, iv i6, .unset, .unset, .unset] X420 hx (D d14_241) rfl ?_
  refine zgo 205 X420 hx (D d14_244) ?_
  refine zil 207 X420 hx (D d14_205) rfl ?_
  refine zan 208 X420 hx (D d14_207) rfl rfl ?_
  have ft422 := (Cx.keep ft411 kq420 (ninS ne_a2_b395 nin0) (ninS ne_ed_b395 nin0) (ninS ne_l0_b395 nin0) (ninS ne_l1_b395 nin0) (ninS ne_l2_b395 nin0) (ninS ne_sa_b395 nin0) (ninS ne_sb_b395 nin0) (ninS ne_sc_b395 nin0))
  refine gI 213 1 6 28 X420 N420 hx hZ (y := mq18) (xi := mq39) hown hml (ww hw 250 rfl) (ww hw 251 rfl) (ww hw 252 rfl) (ww hw 253 rfl) (ww hw 254 rfl) (ww hw 255 rfl) (ww hw 256 rfl) (ww hw 113 rfl) (rmSz l Z a0 hw [] a2 ed ke l0 l1 l2 T420.heap n0 O420 ft422.1 ft422.2.1 ft422.2.2.1 ft422.2.2.2.1 ft422.2.2.2.2.2.1) (ww hw 257 rfl) (ww hw 2 rfl) rfl ft422.1 [] [(.int 2)] (lenOf pd___I rfl) (D d14_208) ?_
  rintro T421 L421 M421 _ X421 uu421 ⟨rfl, Nq421, kq421⟩
  have N421 := uu421 Nq421
  refine zsk [(.int 3), (.int 2)] ?_
  refine zcn 216 X421 hx (D d14_213) (by decide) ?_
  refine zan 217 X421 hx (D d14_216) rfl rfl ?_
  have ft423 := (ft412.keep kq420 (ninS ne_a1_b395 nin0))
  refine zgf 220 X421 hx hZ hown (host := "") (Or.inl (ww hw 281 rfl)) Via.refl kq421 ft423 (D d14_217) fun T424 X424 e424 => ?_
  refine zan 221 X424 hx (D d14_220) rfl rfl ?_
  have ft425 := (ft414.keep kq420 (ninS ne_a1_b395 nin0))
  refine zgf 224 X424 hx hZ hown (host := "") (Or.inl (ww hw 258 rfl)) Via.refl e424 ft425 (D d14_221) fun T426 X426 e426 => ?_
  refine zil 226 X426 hx (D d14_224) rfl ?_
  have ft428 := (ft417.keep kq420 (ninS ne_fs_b395 nin0))
  obtain ⟨cl427, Ar427, -, S427, -, H427, -⟩ := id ft428
  have hin427 : ¬ ((2 : Int32) < 0 ∨ cl427.slots.size ≤ ((2 : Int32)).toNatClampNeg) := inb_of S427 ⟨by decide, by decide⟩
  have hat427 : cl427.slots[((2 : Int32)).toNatClampNeg]? = some (.int (((na - (1 : Int32)) + nb) - (1 : Int32))) := H427.at hin427 rfl
  refine Go.st (f' := (mkF m 227 #[rv a1, iv 1, rv a2, .val (.int ((na + nb) + nc)), iv 2, rv l2, iv i6, .unset, .unset, .unset] [(.int (((na - (1 : Int32)) + nb) - (1 : Int32))), (.ref b395)])) (fun _ k => X426.iaload hx (j := (2 : Int32)) (v := (.int (((na - (1 : Int32)) + nb) - (1 : Int32)))) (by rw [e426]; exact Ar427.1) (State.isArrayOf_alike hZ.alike Ar427.2.1) Ar427.2.2 hin427 hat427 (g := (mkF m 226 #[rv a1, iv 1, rv a2, .val (.int ((na + nb) + nc)), iv 2, rv l2, iv i6, .unset, .unset, .unset] [(.int 2), (.ref fs), (.ref b395)])) rfl rfl (D d14_226) _ k) ?_
  refine zan 228 X426 hx (D d14_227) rfl rfl ?_
  refine zgf 231 X426 hx hZ hown (host := "") (Or.inl (ww hw 258 rfl)) Via.refl e426 ft425 (D d14_228) fun T429 X429 e429 => ?_
  refine zil 233 X429 hx (D d14_231) rfl ?_
  refine zic 234 1 X429 hx (D d14_233) ?_
  refine Go.st (f' := (mkF m 235 #[rv a1, iv 1, rv a2, .val (.int ((na + nb) + nc)), iv 2, rv l2, iv i6, .unset, .unset, .unset] [(.int 3), (.ref fs), (.int (((na - (1 : Int32)) + nb) - (1 : Int32))), (.ref b395)])) (fun _ k => XS.iadd X429.here hx rfl (D d14_234) rfl k) ?_
  obtain ⟨cl430, Ar430, -, S430, -, H430, -⟩ := id ft428
  have hin430 : ¬ ((3 : Int32) < 0 ∨ cl430.slots.size ≤ ((3 : Int32)).toNatClampNeg) := inb_of S430 ⟨by decide, by decide⟩
  have hat430 : cl430.slots[((3 : Int32)).toNatClampNeg]? = some (.int (((((na - (1 : Int32)) + nb) - (1 : Int32)) + nc) - (1 : Int32))) := H430.at hin430 rfl
  refine Go.st (f' := (mkF m 236 #[rv a1, iv 1, rv a2, .val (.int ((na + nb) + nc)), iv 2, rv l2, iv i6, .unset, .unset, .unset] [(.int (((((na - (1 : Int32)) + nb) - (1 : Int32)) + nc) - (1 : Int32))), (.int (((na - (1 : Int32)) + nb) - (1 : Int32))), (.ref b395)])) (fun _ k => X429.iaload hx (j := (3 : Int32)) (v := (.int (((((na - (1 : Int32)) + nb) - (1 : Int32)) + nc) - (1 : Int32)))) (by rw [e429]; exact Ar430.1) (State.isArrayOf_alike hZ.alike Ar430.2.1) Ar430.2.2 hin430 hat430 (g := (mkF m 235 #[rv a1, iv 1, rv a2, .val (.int ((na + nb) + nc)), iv 2, rv l2, iv i6, .unset, .unset, .unset] [(.int 3), (.ref fs), (.int (((na - (1 : Int32)) + nb) - (1 : Int32))), (.ref b395)])) rfl rfl (D d14_235) _ k) ?_
  refine zil 238 X429 hx (D d14_236) rfl ?_
  refine gS 241 0 6 28 X429 N421 hx hZ (y := mq37) hown hml (ww hw 283 rfl) (ww hw 284 rfl) (ww hw 185 rfl) (rmFl l Z a0 hw [] b395 (((((na - (1 : Int32)) + nb) - (1 : Int32)) + nc) - (1 : Int32)) (((na - (1 : Int32)) + nb) - (1 : Int32)) (((((na - (1 : Int32)) + nb) - (1 : Int32)) + nc) - (1 : Int32)) (2 : Int32) T420.heap n0 O420 g6 g7 (Int.le_refl _) g_b395 iq420) (ww hw 285 rfl) e429 [(.ref b395), (.int (((na - (1 : Int32)) + nb) - (1 : Int32))), (.int (((((na - (1 : Int32)) + nb) - (1 : Int32)) + nc) - (1 : Int32))), (.int 2)] [] (lenOf pd___IIII_V rfl) (D d14_238) ?_
  rintro T431 L431 M431 _ X431 uu431 ⟨rfl, Nq431, kq431, iq431⟩
  have N431 := uu431 Nq431
  have O431 : Old Z n0 T431.heap := O420.keep kq431 (allS g_b395 all0)
  have K431 : Keep h0 T431.heap [a1] := K420.trans kq431 (allS (Or.inr sz_b395) all0)
  refine zsk [] ?_
  refine zii 244 #[rv a1, iv 1, rv a2, .val (.int ((na + nb) + nc)), iv 3, rv l2, iv i6, .unset, .unset, .unset] X431 hx (D d14_241) rfl ?_
  refine zgo 205 X431 hx (D d14_244) ?_
  refine zil 207 X431 hx (D d14_205) rfl ?_
  refine zan 208 X431 hx (D d14_207) rfl rfl ?_
  have ft433 := (Cx.keep ft422 kq431 (ninS ne_a2_b395 nin0) (ninS ne_ed_b395 nin0) (ninS ne_l0_b395 nin0) (ninS ne_l1_b395 nin0) (ninS ne_l2_b395 nin0) (ninS ne_sa_b395 nin0) (ninS ne_sb_b395 nin0) (ninS ne_sc_b395 nin0))
  refine gI 213 1 6 28 X431 N431 hx hZ (y := mq18) (xi := mq39) hown hml (ww hw 250 rfl) (ww hw 251 rfl) (ww hw 252 rfl) (ww hw 253 rfl) (ww hw 254 rfl) (ww hw 255 rfl) (ww hw 256 rfl) (ww hw 113 rfl) (rmSz l Z a0 hw [] a2 ed ke l0 l1 l2 T431.heap n0 O431 ft433.1 ft433.2.1 ft433.2.2.1 ft433.2.2.2.1 ft433.2.2.2.2.2.1) (ww hw 257 rfl) (ww hw 2 rfl) rfl ft433.1 [] [(.int 3)] (lenOf pd___I rfl) (D d14_208) ?_
  rintro T432 L432 M432 _ X432 uu432 ⟨rfl, Nq432, kq432⟩
  have N432 := uu432 Nq432
  refine zsk [(.int 3), (.int 3)] ?_
  refine zcy 247 X432 hx (D d14_213) (by decide) ?_
  have ft434 := ((((ft396.wr W398).keep kq408).keep kq420).keep kq431)
  have ft435 := (ft425.keep kq431 (ninS ne_a1_b395 nin0))
  have ft436 := (((((pF_callStart.ext E395).other W398 (Or.inr (slot_ne (Or.inr (ww hw 290 rfl)) (Or.inr (ww hw 282 rfl)) (by decide) (t := (.array .int)) (t' := (.array .int)) (by decide) (by decide)))).keep kq408 (ninS ne_a1_b395 nin0)).keep kq420 (ninS ne_a1_b395 nin0)).keep kq431 (ninS ne_a1_b395 nin0))
  have ft437 := (((((pF_callLine.ext E395).other W398 (Or.inr (slot_ne (Or.inr (ww hw 292 rfl)) (Or.inr (ww hw 282 rfl)) (by decide) (t := (.array .int)) (t' := (.array .int)) (by decide) (by decide)))).keep kq408 (ninS ne_a1_b395 nin0)).keep kq420 (ninS ne_a1_b395 nin0)).keep kq431 (ninS ne_a1_b395 nin0))
  have ft438 := (((((pF_callPosition.ext E395).other W398 (Or.inr (slot_ne (Or.inr (ww hw 294 rfl)) (Or.inr (ww hw 282 rfl)) (by decide) (t := (.array .int)) (t' := (.array .int)) (by decide) (by decide)))).keep kq408 (ninS ne_a1_b395 nin0)).keep kq420 (ninS ne_a1_b395 nin0)).keep kq431 (ninS ne_a1_b395 nin0))
  have ft439 := (ft428.keep kq431 (ninS ne_fs_b395 nin0))
  exact C3 _ T431.heap _ i6 fs kf X432 kq432 O431 N432 K431 sz_fs ft434 ft435 ft436 ft437 ft438 ft439 ft433
set_option maxRecDepth 65536 in
set_option maxHeartbeats 40000000 in
theorem rmN_C1 (l : Launch) (Z : State) (a0 : Array Value) (hw : ∀ d ∈ tables_1, d.before a0 Z = true) (a1 : Addr) (a2 : Addr) (ed : Addr) (ke : ClassId) (l0 : Addr) (l1 : Addr) (l2 : Addr) (sa : Addr) (kA : ClassId) (na : Int32) (ea : List Value) (sb : Addr) (kB : ClassId) (nb : Int32) (eb : List Value) (sc : Addr) (kC : ClassId) (nc : Int32) (ec : List Value) (mir_0 : Addr) (mir_1 : Addr) (mir_2 : Addr) (mir_3 : Addr) (wE : Addr) (wD : Addr) (kE : ClassId) (kD : ClassId) (h0 : Heap) (n0 : Nat) (O0 : Old Z n0 h0) (ba2 : 2 ≤ na.toInt) (ba5 : na.toInt ≤ 5) (bb2 : 2 ≤ nb.toInt) (bb5 : nb.toInt ≤ 5) (bc2 : 2 ≤ nc.toInt) (bc5 : nc.toInt ≤ 5) (g_a1 : n0 ≤ a1) (ne12 : a1 ≠ a2) (E_a1 : Exa Z h0 a1 "com/example/kinetic_city/kineticcity/engine/TransitNetwork") (F_a1_stopCount : Fld Z h0 a1 "com/example/kinetic_city/kineticcity/engine/TransitNetwork" "stopCount" "I" (.int 0)) (F_a1_lines : Fld Z h0 a1 "com/example/kinetic_city/kineticcity/engine/TransitNetwork" "lines" "Ljava/util/List;" .null) (F_a1_firstSegment : Fld Z h0 a1 "com/example/kinetic_city/kineticcity/engine/TransitNetwork" "firstSegment" "[I" .null) (F_a1_lineOfSegment : Fld Z h0 a1 "com/example/kinetic_city/kineticcity/engine/TransitNetwork" "lineOfSegment" "[I" .null) (F_a1_callStart : Fld Z h0 a1 "com/example/kinetic_city/kineticcity/engine/TransitNetwork" "callStart" "[I" .null) (F_a1_callLine : Fld Z h0 a1 "com/example/kinetic_city/kineticcity/engine/TransitNetwork" "callLine" "[I" .null) (F_a1_callPosition : Fld Z h0 a1 "com/example/kinetic_city/kineticcity/engine/TransitNetwork" "callPosition" "[I" .null) (E_a2 : Exa Z h0 a2 "java/util/ArrayList") (F_a2_modCount : Fld Z h0 a2 "java/util/AbstractList" "modCount" "I" (.int 3)) (F_a2_elementData : Fld Z h0 a2 "java/util/ArrayList" "elementData" "[Ljava/lang/Object;" (.ref ed)) (F_a2_size : Fld Z h0 a2 "java/util/ArrayList" "size" "I" (.int 3)) (V_ed : Arv Z h0 ed ke (.object "java/lang/Object") (10 : Int32) [(.ref l0), (.ref l1), (.ref l2)] .null) (E_ed : Exa Z h0 ed "[Ljava/lang/Object;") (E_l0 : Exa Z h0 l0 "com/example/kinetic_city/kineticcity/engine/TransitLine") (E_l1 : Exa Z h0 l1 "com/example/kinetic_city/kineticcity/engine/TransitLine") (E_l2 : Exa Z h0 l2 "com/example/kinetic_city/kineticcity/engine/TransitLine") (ln_sa : Ln na ea) (al_sa : AllE (.int 1) ea) (F_l0_stops : Fld Z h0 l0 "com/example/kinetic_city/kineticcity/engine/TransitLine" "stops" "[I" (.ref sa)) (V_sa : Arv Z h0 sa kA .int na ea (.int 0)) (ln_sb : Ln nb eb) (al_sb : AllE (.int 1) eb) (F_l1_stops : Fld Z h0 l1 "com/example/kinetic_city/kineticcity/engine/TransitLine" "stops" "[I" (.ref sb)) (V_sb : Arv Z h0 sb kB .int nb eb (.int 0)) (ln_sc : Ln nc ec) (al_sc : AllE (.int 1) ec) (F_l2_stops : Fld Z h0 l2 "com/example/kinetic_city/kineticcity/engine/TransitLine" "stops" "[I" (.ref sc)) (V_sc : Arv Z h0 sc kC .int nc ec (.int 0)) (WW : World1 Z mir_0 mir_1 mir_2 mir_3 wE wD kE kD) {p : Program} {e : Env} {s : State} {m : MethodId} {below : List Frame} {meth : Method} {c : Code} (St : Stp p Z s m meth c prog_23_method_1_code 10 none mq38) :
    ∀ (TJ440 : State) (hJ440 : Heap) (LJ440 : List Loc) (i6 : Int32) (it4 : Addr), (Stand p l e ({ frames := 5, cells := 11, slots := 67, locals := 76 } : Room) s m #[(.ref a1), (.int 1), (.ref a2)] below meth c TJ440 LJ440 1 4) → (TJ440.heap = hJ440) → (Old Z n0 hJ440) → (Fr n0 LJ440) → (Keep h0 hJ440 [a1]) → (Exa Z hJ440 a1 "com/example/kinetic_city/kineticcity/engine/TransitNetwork") → (Fld Z hJ440 a1 "com/example/kinetic_city/kineticcity/engine/TransitNetwork" "stopCount" "I" (.int (0 : Int32))) → (Fld Z hJ440 a1 "com/example/kinetic_city/kineticcity/engine/TransitNetwork" "lines" "Ljava/util/List;" .null) → (Fld Z hJ440 a1 "com/example/kinetic_city/kineticcity/engine/TransitNetwork" "firstSegment" "[I" .null) → (Fld Z hJ440 a1 "com/example/kinetic_city/kineticcity/engine/TransitNetwork" "lineOfSegment" "[I" .null) → (Fld Z hJ440 a1 "com/example/kinetic_city/kineticcity/engine/TransitNetwork" "callStart" "[I" .null) → (Fld Z hJ440 a1 "com/example/kinetic_city/kineticcity/engine/TransitNetwork" "callLine" "[I" .null) → (Fld Z hJ440 a1 "com/example/kinetic_city/kineticcity/engine/TransitNetwork" "callPosition" "[I" .null) → (Cx Z hJ440 a2 ed ke l0 l1 l2 sa kA na ea sb kB nb eb sc kC nc ec) → Go p e below (Done s (fun v h L => v = none ∧ Fr n0 L ∧ Keep h0 h [a1] ∧ Exa Z h a1 "com/example/kinetic_city/kineticcity/engine/TransitNetwork" ∧ ∃ (fs : Addr) (kf : ClassId), Fld Z h a1 "com/example/kinetic_city/kineticcity/engine/TransitNetwork" "firstSegment" "[I" (.ref fs) ∧ Arv Z h fs kf .int (4 : Int32) [(.int (0 : Int32)), (.int (na - (1 : Int32))), (.int (((na - (1 : Int32)) + nb) - (1 : Int32))), (.int (((((na - (1 : Int32)) + nb) - (1 : Int32)) + nc) - (1 : Int32)))] (.int (0 : Int32))) ({ frames := 5, cells := 11, slots := 67, locals := 76 } : Room).cells ({ frames := 5, cells := 11, slots := 67, locals := 76 } : Room).slots) TJ440 (mkF m 98 #[rv a1, iv 1, rv a2, .val (.int ((na + nb) + nc)), rv it4, rv l2, iv i6, .unset, .unset, .unset] []) := by
  obtain ⟨hx, hby, hml, hnm, hlk, hret, hZ, hown⟩ := St
  have N0 := Fr.nil n0
  have D := @hb _ _ hby
  have K0 : Keep h0 h0 [a1] := Keep.refl _ _
  have ⟨M_0, M_1, M_2, M_3, S_wE, E_wE, S_wD, E_wD, V_wE, V_wD⟩ := WW
  have lt_wE := E_wE.lt
  have lt_wD := E_wD.lt
  have z0 : (0 : Int32).toInt = 0 := by decide
  have z1 : (1 : Int32).toInt = 1 := by decide
  obtain ⟨f1, f2, f3, f4⟩ := own_fs ba2 ba5 bb2 bb5 bc2 bc5
  have lt_a1 := E_a1.lt
  have ne_wE_a1 : wE ≠ a1 := O0.ne lt_wE g_a1
  have ne_wD_a1 : wD ≠ a1 := O0.ne lt_wD g_a1
  have lt_a2 := E_a2.lt
  have lt_ed := V_ed.lt
  have lt_l0 := E_l0.lt
  have lt_l1 := E_l1.lt
  have lt_l2 := E_l2.lt
  have lt_sa := V_sa.lt
  have nl_l0 : a1 ≠ l0 := Exa.ne E_a1 E_l0 (by decide)
  have ns_sa : a1 ≠ sa := Exa.neArv E_a1 V_sa (ww hw 100 rfl)
  have lt_sb := V_sb.lt
  have nl_l1 : a1 ≠ l1 := Exa.ne E_a1 E_l1 (by decide)
  have ns_sb : a1 ≠ sb := Exa.neArv E_a1 V_sb (ww hw 100 rfl)
  have lt_sc := V_sc.lt
  have nl_l2 : a1 ≠ l2 := Exa.ne E_a1 E_l2 (by decide)
  have ns_sc : a1 ≠ sc := Exa.neArv E_a1 V_sc (ww hw 100 rfl)
  have n1d : a1 ≠ ed := Exa.neArv E_a1 V_ed (ww hw 100 rfl)
  have cc := own_c12 ba2 ba5 bb2 bb5 bc2 bc5 f3 f4
  obtain ⟨g1, g2, g3, g4, g5, g6, g7⟩ := own_gs ba2 ba5 bb2 bb5 bc2 bc5 f1 f2 f3 f4
  have cx0 : Cx Z h0 a2 ed ke l0 l1 l2 sa kA na ea sb kB nb eb sc kC nc ec := ⟨E_a2, F_a2_modCount, F_a2_elementData, F_a2_size, E_ed, V_ed, E_l0, F_l0_stops, V_sa, E_l1, F_l1_stops, V_sb, E_l2, F_l2_stops, V_sc⟩
  have C2 := @rmN_C2 l Z a0 hw a1 a2 ed ke l0 l1 l2 sa kA na ea sb kB nb eb sc kC nc ec mir_0 mir_1 mir_2 mir_3 wE wD kE kD h0 n0 O0 ba2 ba5 bb2 bb5 bc2 bc5 g_a1 ne12 E_a1 F_a1_stopCount F_a1_lines F_a1_firstSegment F_a1_lineOfSegment F_a1_callStart F_a1_callLine F_a1_callPosition E_a2 F_a2_modCount F_a2_elementData F_a2_size V_ed E_ed E_l0 E_l1 E_l2 ln_sa al_sa F_l0_stops V_sa ln_sb al_sb F_l1_stops V_sb ln_sc al_sc F_l2_stops V_sc WW p e s m below meth c ⟨hx, hby, hml, hnm, hlk, hret, hZ, hown⟩
  intro TJ440 hJ440 LJ440 i6 it4 XJ440 eJ440 OJ440 NJ440 KJ440 pE pF_stopCount pF_lines pF_firstSegment pF_lineOfSegment pF_callStart pF_callLine pF_callPosition pC
  have lt_a1J := pE.lt
  refine zan 99 XJ440 hx (D d14_98) rfl rfl ?_
  refine zin 100 XJ440 hx (D d14_99) rfl ?_
  obtain ⟨T441, h441, X441, e441, W441, st441⟩ := putF XJ440 hx hZ hown (host := "") (Or.inl (ww hw 168 rfl)) Via.refl eJ440 pF_stopCount pE (Or.inr ⟨(ww hw 169 rfl), rfl, hnm⟩) (ww hw 100 rfl) (ty := .int) (by decide) rfl rfl (g := (mkF m 100 #[rv a1, iv 1, rv a2, .val (.int ((na + nb) + nc)), rv it4, rv l2, iv i6, .unset, .unset, .unset] [(.int 1), (.ref a1)])) rfl rfl (D d14_100)
  have N441 := Fr.snoc X441 NJ440 g_a1
  have O441 : Old Z n0 h441 := OJ440.wr W441 g_a1
  have K441 : Keep h0 h441 [a1] := KJ440.wr W441 (Or.inl (List.mem_of_getElem? (i := 0) rfl))
  have Fw441 := pF_stopCount.same W441
  refine zst 103 #[rv a1, iv 1, rv a2, .val (.int ((na + nb) + nc)), rv it4, rv l2, iv i6, .unset, .unset, .unset] [] st441 ?_
  refine zan 104 X441 hx (D d14_103) rfl rfl ?_
  obtain ⟨T442, h442, X442, e442, E442, A442, D442, -, st442⟩ := newO X441 hx hZ hown (ww hw 170 rfl) (ww hw 1 rfl) (ww hw 2 rfl) e441 (g := (mkF m 104 #[rv a1, iv 1, rv a2, .val (.int ((na + nb) + nc)), rv it4, rv l2, iv i6, .unset, .unset, .unset] [(.ref a1)])) rfl (D d14_104) (by decide) (by decide)
  obtain ⟨b442, g442⟩ : ∃ z, z = h441.size := ⟨_, rfl⟩
  rw [← g442] at A442 D442 st442
  have ft443 := (Cx.wr pC W441 (Ne.symm ne12) (Ne.symm n1d) (Ne.symm nl_l0) (Ne.symm nl_l1) (Ne.symm nl_l2) (Ne.symm ns_sa) (Ne.symm ns_sb) (Ne.symm ns_sc))
  have ne_a2_b442 : a2 ≠ b442 := Nat.ne_of_lt (lteq ft443.1.lt g442.symm)
  have ne_ed_b442 : ed ≠ b442 := Nat.ne_of_lt (lteq ft443.2.2.2.2.1.lt g442.symm)
  have ne_l0_b442 : l0 ≠ b442 := Nat.ne_of_lt (lteq ft443.2.2.2.2.2.2.1.lt g442.symm)
  have ne_l1_b442 : l1 ≠ b442 := Nat.ne_of_lt (lteq ft443.2.2.2.2.2.2.2.2.2.1.lt g442.symm)
  have ne_l2_b442 : l2 ≠ b442 := Nat.ne_of_lt (lteq ft443.2.2.2.2.2.2.2.2.2.2.2.2.1.lt g442.symm)
  have ne_sa_b442 : sa ≠ b442 := Nat.ne_of_lt (lteq ft443.2.2.2.2.2.2.2.2.1.lt g442.symm)
  have ne_sb_b442 : sb ≠ b442 := Nat.ne_of_lt (lteq ft443.2.2.2.2.2.2.2.2.2.2.2.1.lt g442.symm)
  have ne_sc_b442 : sc ≠ b442 := Nat.ne_of_lt (lteq ft443.2.2.2.2.2.2.2.2.2.2.2.2.2.2.lt g442.symm)
  have ft444 := (lteq lt_a1J W441.size.symm)
  have ne_a1_b442 : a1 ≠ b442 := Nat.ne_of_lt (lteq ft444 g442.symm)
  have ne_wE_b442 : wE ≠ b442 := Nat.ne_of_lt (ltle lt_wE (Nat.le_trans O441.2.1 (Nat.le_of_eq g442.symm)))
  have ne_wD_b442 : wD ≠ b442 := Nat.ne_of_lt (ltle lt_wD (Nat.le_trans O441.2.1 (Nat.le_of_eq g442.symm)))
  have g_b442 : n0 ≤ b442 := Nat.le_trans (O441.1 ▸ O441.2.1) (Nat.le_of_eq g442.symm)
  have O442 : Old Z n0 h442 := O441.ext E442
  have sz_b442 : h0.size ≤ b442 := Nat.le_trans K441.1 (Nat.le_of_eq g442.symm)
  have K442 : Keep h0 h442 [a1] := K441.ext E442
  have lt_b442 := A442.lt
  have F_modCount_b442 : Fld Z h442 b442 "java/util/AbstractList" "modCount" "I" (.int (0 : Int32)) := D442 (Or.inl (ww hw 22 rfl)) (ty := .int) (by decide)
  have F_elementData_b442 : Fld Z h442 b442 "java/util/ArrayList" "elementData" "[Ljava/lang/Object;" .null := D442 (Or.inl (ww hw 25 rfl)) (ty := (.array (.object "java/lang/Object"))) (by decide)
  have F_size_b442 : Fld Z h442 b442 "java/util/ArrayList" "size" "I" (.int (0 : Int32)) := D442 (Or.inl (ww hw 77 rfl)) (ty := .int) (by decide)
  refine zst 107 #[rv a1, iv 1, rv a2, .val (.int ((na + nb) + nc)), rv it4, rv l2, iv i6, .unset, .unset, .unset] [(.ref b442), (.ref a1)] st442 ?_
  refine Go.st (f' := (mkF m 108 #[rv a1, iv 1, rv a2, .val (.int ((na + nb) + nc)), rv it4, rv l2, iv i6, .unset, .unset, .unset] [(.ref b442), (.ref b442), (.ref a1)])) (fun _ k => XS.dup X442.here hx rfl (D d14_107) rfl rfl k) ?_
  refine zan 109 X442 hx (D d14_108) rfl rfl ?_
  have ft446 := (Cx.ext ft443 E442)
  obtain ⟨_, _, ⟨T445, L445, kk445, nn445⟩, -, X445, ⟨Lc445, hQ445, lq445, yq445, zz445⟩, st445⟩ := X442.specialBack hx (y := mq26) rfl hown (mvT hZ (ww hw 171 rfl)) (mvT hZ (ww hw 172 rfl)) (mvT hZ (ww hw 173 rfl)) (by decide) (own_back (W := 2) (rmCo l Z a0 hw [] b442 a2 ed ke l0 l1 l2 mir_0 mir_1 mir_2 mir_3 wE wD kE kD h442 n0 O442 g_b442 (Ne.symm ne_a2_b442) A442 F_modCount_b442 F_elementData_b442 F_size_b442 ft446.2.2.2.2.2.2.1 ft446.2.2.2.2.2.2.2.2.2.1 ft446.2.2.2.2.2.2.2.2.2.2.2.2.1 ft446.2.2.2.2.1 ft446.2.2.2.2.2.1 ft446.1 ft446.2.1 ft446.2.2.1 ft446.2.2.2.1 WW) hZ (ww hw 173 rfl) (ww hw 2 rfl) (by decide) (by decide)) (g := (mkF m 109 #[rv a1, iv 1, rv a2, .val (.int ((na + nb) + nc)), rv it4, rv l2, iv i6, .unset, .unset, .unset] [(.ref a2), (.ref b442), (.ref b442), (.ref a1)])) rfl (by rw [hml]; rfl) (Steps.refl _) (a := b442) (argsL := [(.ref a2)]) (rest := [(.ref b442), (.ref a1)]) (lenOf pd__Ljava_util_Collection__V rfl) rfl (by show 2 * 0 + _ ≤ _; exact Nat.le_of_eq rfl) (D d14_109) (fun _ _ => ⟨rfl, e442, (by decide : 2 + 1 ≤ _), (by decide : 7 + 3 ≤ _)⟩)
  dsimp only [Pt.U, Pt.locs, Pt.cells, Pt.slots] at X445 lq445 yq445 zz445 st445 hQ445
  subst lq445 yq445 zz445
  obtain ⟨rfl, Nq445, kq445, eq445⟩ := hQ445
  have N445 := Fr.app N441 Nq445
  have O445 : Old Z n0 T445.heap := O442.keep kq445 (allS g_b442 all0)
  have K445 : Keep h0 T445.heap [a1] := K442.trans kq445 (allS (Or.inr sz_b442) all0)
  refine Go.tr (f' := (mkF m 112 #[rv a1, iv 1, rv a2, .val (.int ((na + nb) + nc)), rv it4, rv l2, iv i6, .unset, .unset, .unset] [(.ref b442), (.ref a1)])) st445 ?_
  refine gS 115 1 4 12 X445 N445 hx hZ (y := mq32) hown hml (ww hw 212 rfl) (ww hw 213 rfl) (ww hw 214 rfl) (rmUm l Z a0 hw [] b442 mir_0 mir_1 mir_2 mir_3 wE wD kE kD T445.heap n0 O445 eq445 WW) (ww hw 215 rfl) rfl [(.ref b442)] [(.ref a1)] (lenOf pd__Ljava_util_List__Ljava_util_List_ rfl) (D d14_112) ?_
  rintro T447 L447 M447 _ X447 uu447 ⟨b447, rfl, Nq447, zq447, kq447⟩
  have N447 := uu447 Nq447
  have ft448 := (Cx.keep ft446 kq445 (ninS ne_a2_b442 nin0) (ninS ne_ed_b442 nin0) (ninS ne_l0_b442 nin0) (ninS ne_l1_b442 nin0) (ninS ne_l2_b442 nin0) (ninS ne_sa_b442 nin0) (ninS ne_sb_b442 nin0) (ninS ne_sc_b442 nin0))
  have ne_a2_b447 : a2 ≠ b447 := Nat.ne_of_lt (ltle ft448.1.lt zq447)
  have ne_ed_b447 : ed ≠ b447 := Nat.ne_of_lt (ltle ft448.2.2.2.2.1.lt zq447)
  have ne_l0_b447 : l0 ≠ b447 := Nat.ne_of_lt (ltle ft448.2.2.2.2.2.2.1.lt zq447)
  have ne_l1_b447 : l1 ≠ b447 := Nat.ne_of_lt (ltle ft448.2.2.2.2.2.2.2.2.2.1.lt zq447)
  have ne_l2_b447 : l2 ≠ b447 := Nat.ne_of_lt (ltle ft448.2.2.2.2.2.2.2.2.2.2.2.2.1.lt zq447)
  have ne_sa_b447 : sa ≠ b447 := Nat.ne_of_lt (ltle ft448.2.2.2.2.2.2.2.2.1.lt zq447)
  have ne_sb_b447 : sb ≠ b447 := Nat.ne_of_lt (ltle ft448.2.2.2.2.2.2.2.2.2.2.2.1.lt zq447)
  have ne_sc_b447 : sc ≠ b447 := Nat.ne_of_lt (ltle ft448.2.2.2.2.2.2.2.2.2.2.2.2.2.2.lt zq447)
  have ft449 := (ltle (ltle ft444 E442.1) kq445.1)
  have ne_a1_b447 : a1 ≠ b447 := Nat.ne_of_lt (ltle ft449 zq447)
  have ft450 := (ltle lt_b442 kq445.1)
  have ne_b442_b447 : b442 ≠ b447 := Nat.ne_of_lt (ltle ft450 zq447)
  have ne_wE_b447 : wE ≠ b447 := Nat.ne_of_lt (ltle lt_wE (Nat.le_trans O445.2.1 zq447))
  have ne_wD_b447 : wD ≠ b447 := Nat.ne_of_lt (ltle lt_wD (Nat.le_trans O445.2.1 zq447))
  have g_b447 : n0 ≤ b447 := Nat.le_trans (O445.1 ▸ O445.2.1) zq447
  have sz_b447 : h0.size ≤ b447 := Nat.le_trans K445.1 zq447
  have O447 : Old Z n0 T447.heap := O445.keep kq447 all0
  have K447 : Keep h0 T447.heap [a1] := K445.trans kq447 all0
  refine zsk [(.ref b447), (.ref a1)] ?_
  have ft451 := ((((pE.wr W441).ext E442).keep kq445).keep kq447)
  have ft452 := ((((pF_lines.other W441 (Or.inr (slot_ne (Or.inr (ww hw 249 rfl)) (Or.inr (ww hw 169 rfl)) (by decide) (t := (.object "java/util/List")) (t' := .int) (by decide) (by decide)))).ext E442).keep kq445 (ninS ne_a1_b442 nin0)).keep kq447 nin0)
  obtain ⟨T453, h453, X453, e453, W453, st453⟩ := putF X447 hx hZ hown (host := "") (Or.inl (ww hw 248 rfl)) Via.refl rfl ft452 ft451 (Or.inr ⟨(ww hw 249 rfl), rfl, hnm⟩) (ww hw 100 rfl) (ty := (.object "java/util/List")) (by decide) rfl rfl (g := (mkF m 115 #[rv a1, iv 1, rv a2, .val (.int ((na + nb) + nc)), rv it4, rv l2, iv i6, .unset, .unset, .unset] [(.ref b447), (.ref a1)])) rfl rfl (D d14_115)
  have N453 := Fr.snoc X453 N447 g_a1
  have O453 : Old Z n0 h453 := O447.wr W453 g_a1
  have K453 : Keep h0 h453 [a1] := K447.wr W453 (Or.inl (List.mem_of_getElem? (i := 0) rfl))
  have Fw453 := ft452.same W453
  refine zst 118 #[rv a1, iv 1, rv a2, .val (.int ((na + nb) + nc)), rv it4, rv l2, iv i6, .unset, .unset, .unset] [] st453 ?_
  refine zan 119 X453 hx (D d14_118) rfl rfl ?_
  refine zan 120 X453 hx (D d14_119) rfl rfl ?_
  have ft455 := (Cx.wr (Cx.keep0 ft448 kq447) W453 (Ne.symm ne12) (Ne.symm n1d) (Ne.symm nl_l0) (Ne.symm nl_l1) (Ne.symm nl_l2) (Ne.symm ns_sa) (Ne.symm ns_sb) (Ne.symm ns_sc))
  refine gI 125 1 4 12 X453 N453 hx hZ (y := mq18) (xi := mq39) hown hml (ww hw 250 rfl) (ww hw 251 rfl) (ww hw 252 rfl) (ww hw 253 rfl) (ww hw 254 rfl) (ww hw 255 rfl) (ww hw 256 rfl) (ww hw 113 rfl) (rmSz l Z a0 hw [] a2 ed ke l0 l1 l2 h453 n0 O453 ft455.1 ft455.2.1 ft455.2.2.1 ft455.2.2.2.1 ft455.2.2.2.2.2.1) (ww hw 257 rfl) (ww hw 2 rfl) e453 ft455.1 [] [(.ref a1)] (lenOf pd___I rfl) (D d14_120) ?_
  rintro T454 L454 M454 _ X454 uu454 ⟨rfl, Nq454, kq454⟩
  have N454 := uu454 Nq454
  refine zsk [(.int 3), (.ref a1)] ?_
  refine zic 126 1 X454 hx (D d14_125) ?_
  refine Go.st (f' := (mkF m 127 #[rv a1, iv 1, rv a2, .val (.int ((na + nb) + nc)), rv it4, rv l2, iv i6, .unset, .unset, .unset] [(.int 4), (.ref a1)])) (fun _ k => XS.iadd X454.here hx rfl (D d14_126) rfl k) ?_
  obtain ⟨T456, h456, kc456, X456, e456, E456, A456, st456⟩ := newP X454 hx hZ (ww hw 33 rfl) kq454 (g := (mkF m 127 #[rv a1, iv 1, rv a2, .val (.int ((na + nb) + nc)), rv it4, rv l2, iv i6, .unset, .unset, .unset] [(.int 4), (.ref a1)])) rfl (D d14_127) rfl (by decide) (cap := 4) (by decide) (by decide) (by decide) (by decide)
  obtain ⟨b456, g456⟩ : ∃ z, z = h453.size := ⟨_, rfl⟩
  rw [← g456] at A456 st456
  have ne_a2_b456 : a2 ≠ b456 := Nat.ne_of_lt (lteq ft455.1.lt g456.symm)
  have ne_ed_b456 : ed ≠ b456 := Nat.ne_of_lt (lteq ft455.2.2.2.2.1.lt g456.symm)
  have ne_l0_b456 : l0 ≠ b456 := Nat.ne_of_lt (lteq ft455.2.2.2.2.2.2.1.lt g456.symm)
  have ne_l1_b456 : l1 ≠ b456 := Nat.ne_of_lt (lteq ft455.2.2.2.2.2.2.2.2.2.1.lt g456.symm)
  have ne_l2_b456 : l2 ≠ b456 := Nat.ne_of_lt (lteq ft455.2.2.2.2.2.2.2.2.2.2.2.2.1.lt g456.symm)
  have ne_sa_b456 : sa ≠ b456 := Nat.ne_of_lt (lteq ft455.2.2.2.2.2.2.2.2.1.lt g456.symm)
  have ne_sb_b456 : sb ≠ b456 := Nat.ne_of_lt (lteq ft455.2.2.2.2.2.2.2.2.2.2.2.1.lt g456.symm)
  have ne_sc_b456 : sc ≠ b456 := Nat.ne_of_lt (lteq ft455.2.2.2.2.2.2.2.2.2.2.2.2.2.2.lt g456.symm)
  have ft457 := (lteq (ltle ft449 kq447.1) W453.size.symm)
  have ne_a1_b456 : a1 ≠ b456 := Nat.ne_of_lt (lteq ft457 g456.symm)
  have ft458 := (lteq (ltle ft450 kq447.1) W453.size.symm)
  have ne_b442_b456 : b442 ≠ b456 := Nat.ne_of_lt (lteq ft458 g456.symm)
  have ne_wE_b456 : wE ≠ b456 := Nat.ne_of_lt (ltle lt_wE (Nat.le_trans O453.2.1 (Nat.le_of_eq g456.symm)))
  have ne_wD_b456 : wD ≠ b456 := Nat.ne_of_lt (ltle lt_wD (Nat.le_trans O453.2.1 (Nat.le_of_eq g456.symm)))
  have g_b456 : n0 ≤ b456 := Nat.le_trans (O453.1 ▸ O453.2.1) (Nat.le_of_eq g456.symm)
  have O456 : Old Z n0 h456 := O453.ext E456
  have sz_b456 : h0.size ≤ b456 := Nat.le_trans K453.1 (Nat.le_of_eq g456.symm)
  have K456 : Keep h0 h456 [a1] := K453.ext E456
  have V_b456 : Arv Z h456 b456 kc456 .int (4 : Int32) [(.int (0 : Int32)), (.int (0 : Int32)), (.int (0 : Int32)), (.int (0 : Int32))] (.int (0 : Int32)) := (Arv.new A456 (by decide)).pad (pad_rep [] (.int (0 : Int32)) 4)
  have lt_b456 := V_b456.lt
  refine zst 129 #[rv a1, iv 1, rv a2, .val (.int ((na + nb) + nc)), rv it4, rv l2, iv i6, .unset, .unset, .unset] [(.ref b456), (.ref a1)] st456 ?_
  have ft459 := ((ft451.wr W453).ext E456)
  have ft460 := ((((((pF_firstSegment.other W441 (Or.inr (slot_ne (Or.inr (ww hw 259 rfl)) (Or.inr (ww hw 169 rfl)) (by decide) (t := (.array .int)) (t' := .int) (by decide) (by decide)))).ext E442).keep kq445 (ninS ne_a1_b442 nin0)).keep kq447 nin0).other W453 (Or.inr (slot_ne (Or.inr (ww hw 259 rfl)) (Or.inr (ww hw 249 rfl)) (by decide) (t := (.array .int)) (t' := (.object "java/util/List")) (by decide) (by decide)))).ext E456)
  obtain ⟨T461, h461, X461, e461, W461, st461⟩ := putF X456 hx hZ hown (host := "") (Or.inl (ww hw 258 rfl)) Via.refl e456 ft460 ft459 (Or.inr ⟨(ww hw 259 rfl), rfl, hnm⟩) (ww hw 100 rfl) (ty := (.array .int)) (by decide) rfl rfl (g := (mkF m 129 #[rv a1, iv 1, rv a2, .val (.int ((na + nb) + nc)), rv it4, rv l2, iv i6, .unset, .unset, .unset] [(.ref b456), (.ref a1)])) rfl rfl (D d14_129)
  have N461 := Fr.snoc X461 N454 g_a1
  have O461 : Old Z n0 h461 := O456.wr W461 g_a1
  have K461 : Keep h0 h461 [a1] := K456.wr W461 (Or.inl (List.mem_of_getElem? (i := 0) rfl))
  have Fw461 := ft460.same W461
  refine zst 132 #[rv a1, iv 1, rv a2, .val (.int ((na + nb) + nc)), rv it4, rv l2, iv i6, .unset, .unset, .unset] [] st461 ?_
  refine zic 133 0 X461 hx (D d14_132) ?_
  refine zsl 135 #[rv a1, iv 1, rv a2, .val (.int ((na + nb) + nc)), iv 0, rv l2, iv i6, .unset, .unset, .unset] X461 hx (D d14_133) ?_
  refine zil 137 X461 hx (D d14_135) rfl ?_
  refine zan 138 X461 hx (D d14_137) rfl rfl ?_
  have ft463 := (Cx.wr (Cx.ext ft455 E456) W461 (Ne.symm ne12) (Ne.symm n1d) (Ne.symm nl_l0) (Ne.symm nl_l1) (Ne.symm nl_l2) (Ne.symm ns_sa) (Ne.symm ns_sb) (Ne.symm ns_sc))
  refine gI 143 1 5 16 X461 N461 hx hZ (y := mq18) (xi := mq39) hown hml (ww hw 250 rfl) (ww hw 251 rfl) (ww hw 252 rfl) (ww hw 253 rfl) (ww hw 254 rfl) (ww hw 255 rfl) (ww hw 256 rfl) (ww hw 113 rfl) (rmSz l Z a0 hw [] a2 ed ke l0 l1 l2 h461 n0 O461 ft463.1 ft463.2.1 ft463.2.2.1 ft463.2.2.2.1 ft463.2.2.2.2.2.1) (ww hw 257 rfl) (ww hw 2 rfl) e461 ft463.1 [] [(.int 0)] (lenOf pd___I rfl) (D d14_138) ?_
  rintro T462 L462 M462 _ X462 uu462 ⟨rfl, Nq462, kq462⟩
  have N462 := uu462 Nq462
  refine zsk [(.int 3), (.int 0)] ?_
  refine zcn 146 X462 hx (D d14_143) (by decide) ?_
  refine zan 147 X462 hx (D d14_146) rfl rfl ?_
  refine zgf 150 X462 hx hZ hown (host := "") (Or.inl (ww hw 258 rfl)) Via.refl kq462 Fw461 (D d14_147) fun T464 X464 e464 => ?_
  refine zil 152 X464 hx (D d14_150) rfl ?_
  refine zic 153 1 X464 hx (D d14_152) ?_
  refine Go.st (f' := (mkF m 154 #[rv a1, iv 1, rv a2, .val (.int ((na + nb) + nc)), iv 0, rv l2, iv i6, .unset, .unset, .unset] [(.int 1), (.ref b456)])) (fun _ k => XS.iadd X464.here hx rfl (D d14_153) rfl k) ?_
  refine zan 155 X464 hx (D d14_154) rfl rfl ?_
  refine zgf 158 X464 hx hZ hown (host := "") (Or.inl (ww hw 258 rfl)) Via.refl e464 Fw461 (D d14_155) fun T465 X465 e465 => ?_
  refine zil 160 X465 hx (D d14_158) rfl ?_
  have ft467 := (V_b456.other W461 (Ne.symm ne_a1_b456))
  obtain ⟨cl466, Ar466, -, S466, -, H466, -⟩ := id ft467
  have hin466 : ¬ ((0 : Int32) < 0 ∨ cl466.slots.size ≤ ((0 : Int32)).toNatClampNeg) := inb_of S466 ⟨by decide, by decide⟩
  have hat466 : cl466.slots[((0 : Int32)).toNatClampNeg]? = some (.int (0 : Int32)) := H466.at hin466 rfl
  refine Go.st (f' := (mkF m 161 #[rv a1, iv 1, rv a2, .val (.int ((na + nb) + nc)), iv 0, rv l2, iv i6, .unset, .unset, .unset] [(.int 0), (.int 1), (.ref b456)])) (fun _ k => X465.iaload hx (j := (0 : Int32)) (v := (.int (0 : Int32))) (by rw [e465]; exact Ar466.1) (State.isArrayOf_alike hZ.alike Ar466.2.1) Ar466.2.2 hin466 hat466 (g := (mkF m 160 #[rv a1, iv 1, rv a2, .val (.int ((na + nb) + nc)), iv 0, rv l2, iv i6, .unset, .unset, .unset] [(.int 0), (.ref b456), (.int 1), (.ref b456)])) rfl rfl (D d14_160) _ k) ?_
  refine zan 162 X465 hx (D d14_161) rfl rfl ?_
  refine zil 164 X465 hx (D d14_162) rfl ?_
  refine gI 169 3 5 16 X465 N462 hx hZ (y := mq22) (xi := mq40) hown hml (ww hw 260 rfl) (ww hw 261 rfl) (ww hw 262 rfl) (ww hw 263 rfl) (ww hw 264 rfl) (ww hw 265 rfl) (ww hw 266 rfl) (ww hw 113 rfl) (rmGt0 l Z a0 hw [] a2 ed ke l0 l1 l2 h461 n0 O461 ft463.1 ft463.2.1 ft463.2.2.1 ft463.2.2.2.1 ft463.2.2.2.2.2.1) (ww hw 267 rfl) (ww hw 2 rfl) e465 ft463.1 [(.int 0)] [(.int 0), (.int 1), (.ref b456)] (lenOf pd__I_Ljava_lang_Object_ rfl) (D d14_164) ?_
  rintro T468 L468 M468 _ X468 uu468 ⟨rfl, Nq468, kq468⟩
  have N468 := uu468 Nq468
  refine zsk [(.ref l0), (.int 0), (.int 1), (.ref b456)] ?_
  obtain ⟨T469, X469, e469, st469⟩ := castY X468 hx hZ hown (ww hw 156 rfl) kq468 (Ins.self ft463.2.2.2.2.2.2.1) (g := (mkF m 169 #[rv a1, iv 1, rv a2, .val (.int ((na + nb) + nc)), iv 0, rv l2, iv i6, .unset, .unset, .unset] [(.ref l0), (.int 0), (.int 1), (.ref b456)])) rfl rfl (D d14_169)
  refine zst 172 #[rv a1, iv 1, rv a2, .val (.int ((na + nb) + nc)), iv 0, rv l2, iv i6, .unset, .unset, .unset] [(.ref l0), (.int 0), (.int 1), (.ref b456)] st469 ?_
  refine gV 175 3 5 16 X469 N468 hx hZ (y := mq34) hown hml (ww hw 158 rfl) (ww hw 159 rfl) (ww hw 161 rfl) (ww hw 160 rfl) (rmSc l Z a0 hw [] l0 sa kA na ea h461 n0 O461 ft463.2.2.2.2.2.2.1 ft463.2.2.2.2.2.2.2.1 ft463.2.2.2.2.2.2.2.2.1) (ww hw 162 rfl) (ww hw 32 rfl) e469 ft463.2.2.2.2.2.2.1 [] [(.int 0), (.int 1), (.ref b456)] (lenOf pd___I rfl) (D d14_172) ?_
  rintro T470 L470 M470 _ X470 uu470 ⟨rfl, Nq470, kq470⟩
  have N470 := uu470 Nq470
  refine zsk [(.int na), (.int 0), (.int 1), (.ref b456)] ?_
  refine zad 176 X470 hx (D d14_175) ?_
  rw [Int32.zero_add na]
  refine zic 177 1 X470 hx (D d14_176) ?_
  refine zsb 178 X470 hx (D d14_177) ?_
  obtain ⟨cl471, Ar471, q471, S471, Nx471, H471, G471⟩ := id ft467
  have hin471 : ¬ ((1 : Int32) < 0 ∨ cl471.slots.size ≤ ((1 : Int32)).toNatClampNeg) := inb_of S471 ⟨by decide, by decide⟩
  obtain ⟨T472, h472, X472, e472, W472, st472⟩ := stI X470 hx hZ kq470 Ar471 (j := (1 : Int32)) hin471 (g := (mkF m 178 #[rv a1, iv 1, rv a2, .val (.int ((na + nb) + nc)), iv 0, rv l2, iv i6, .unset, .unset, .unset] [(.int (na - (1 : Int32))), (.int 1), (.ref b456)])) rfl rfl (D d14_178)
  have V_b456_472 : Arv Z h472 b456 kc456 .int (4 : Int32) [(.int (0 : Int32)), (.int (na - (1 : Int32))), (.int (0 : Int32)), (.int (0 : Int32))] (.int (0 : Int32)) := Arv.set Ar471 q471 S471 Nx471 H471 G471 rfl W472 1 rfl (Nat.le_of_ble_eq_true rfl)
  have N472 := Fr.snoc X472 N470 g_b456
  have O472 : Old Z n0 h472 := O461.wr W472 g_b456
  have K472 : Keep h0 h472 [a1] := K461.wr W472 (Or.inr sz_b456)
  refine zst 179 #[rv a1, iv 1, rv a2, .val (.int ((na + nb) + nc)), iv 0, rv l2, iv i6, .unset, .unset, .unset] [] st472 ?_
  refine zii 182 #[rv a1, iv 1, rv a2, .val (.int ((na + nb) + nc)), iv 1, rv l2, iv i6, .unset, .unset, .unset] X472 hx (D d14_179) rfl ?_
  refine zgo 135 X472 hx (D d14_182) ?_
  refine zil 137 X472 hx (D d14_135) rfl ?_
  refine zan 138 X472 hx (D d14_137) rfl rfl ?_
  have ft474 := (Cx.wr ft463 W472 ne_a2_b456 ne_ed_b456 ne_l0_b456 ne_l1_b456 ne_l2_b456 ne_sa_b456 ne_sb_b456 ne_sc_b456)
  refine gI 143 1 5 16 X472 N472 hx hZ (y := mq18) (xi := mq39) hown hml (ww hw 250 rfl) (ww hw 251 rfl) (ww hw 252 rfl) (ww hw 253 rfl) (ww hw 254 rfl) (ww hw 255 rfl) (ww hw 256 rfl) (ww hw 113 rfl) (rmSz l Z a0 hw [] a2 ed ke l0 l1 l2 h472 n0 O472 ft474.1 ft474.2.1 ft474.2.2.1 ft474.2.2.2.1 ft474.2.2.2.2.2.1) (ww hw 257 rfl) (ww hw 2 rfl) e472 ft474.1 [] [(.int 1)] (lenOf pd___I rfl) (D d14_138) ?_
  rintro T473 L473 M473 _ X473 uu473 ⟨rfl, Nq473, kq473⟩
  have N473 := uu473 Nq473
  refine zsk [(.int 3), (.int 1)] ?_
  refine zcn 146 X473 hx (D d14_143) (by decide) ?_
  refine zan 147 X473 hx (D d14_146) rfl rfl ?_
  have ft475 := (Fw461.other W472 (Or.inl ne_a1_b456))
  refine zgf 150 X473 hx hZ hown (host := "") (Or.inl (ww hw 258 rfl)) Via.refl kq473 ft475 (D d14_147) fun T476 X476 e476 => ?_
  refine zil 152 X476 hx (D d14_150) rfl ?_
  refine zic 153 1 X476 hx (D d14_152) ?_
  refine Go.st (f' := (mkF m 154 #[rv a1, iv 1, rv a2, .val (.int ((na + nb) + nc)), iv 1, rv l2, iv i6, .unset, .unset, .unset] [(.int 2), (.ref b456)])) (fun _ k => XS.iadd X476.here hx rfl (D d14_153) rfl k) ?_
  refine zan 155 X476 hx (D d14_154) rfl rfl ?_
  refine zgf 158 X476 hx hZ hown (host := "") (Or.inl (ww hw 258 rfl)) Via.refl e476 ft475 (D d14_155) fun T477 X477 e477 => ?_
  refine zil 160 X477 hx (D d14_158) rfl ?_
  obtain ⟨cl478, Ar478, -, S478, -, H478, -⟩ := id V_b456_472
  have hin478 : ¬ ((1 : Int32) < 0 ∨ cl478.slots.size ≤ ((1 : Int32)).toNatClampNeg) := inb_of S478 ⟨by decide, by decide⟩
  have hat478 : cl478.slots[((1 : Int32)).toNatClampNeg]? = some (.int (na - (1 : Int32))) := H478.at hin478 rfl
  refine Go.st (f' := (mkF m 161 #[rv a1, iv 1, rv a2, .val (.int ((na + nb) + nc)), iv 1, rv l2, iv i6, .unset, .unset, .unset] [(.int (na - (1 : Int32))), (.int 2), (.ref b456)])) (fun _ k => X477.iaload hx (j := (1 : Int32)) (v := (.int (na - (1 : Int32)))) (by rw [e477]; exact Ar478.1) (State.isArrayOf_alike hZ.alike Ar478.2.1) Ar478.2.2 hin478 hat478 (g := (mkF m 160 #[rv a1, iv 1, rv a2, .val (.int ((na + nb) + nc)), iv 1, rv l2, iv i6, .unset, .unset, .unset] [(.int 1), (.ref b456), (.int 2), (.ref b456)])) rfl rfl (D d14_160) _ k) ?_
  refine zan 162 X477 hx (D d14_161) rfl rfl ?_
  refine zil 164 X477 hx (D d14_162) rfl ?_
  refine gI 169 3 5 16 X477 N473 hx hZ (y := mq22) (xi := mq40) hown hml (ww hw 260 rfl) (ww hw 261 rfl) (ww hw 262 rfl) (ww hw 263 rfl) (ww hw 264 rfl) (ww hw 265 rfl) (ww hw 266 rfl) (ww hw 113 rfl) (rmGt1 l Z a0 hw [] a2 ed ke l0 l1 l2 h472 n0 O472 ft474.1 ft474.2.1 ft474.2.2.1 ft474.2.2.2.1 ft474.2.2.2.2.2.1) (ww hw 267 rfl) (ww hw 2 rfl) e477 ft474.1 [(.int 1)] [(.int (na - (1 : Int32))), (.int 2), (.ref b456)] (lenOf pd__I_Ljava_lang_Object_ rfl) (D d14_164) ?_
  rintro T479 L479 M479 _ X479 uu479 ⟨rfl, Nq479, kq479⟩
  have N479 := uu479 Nq479
  refine zsk [(.ref l1), (.int (na - (1 : Int32))), (.int 2), (.ref b456)] ?_
  obtain ⟨T480, X480, e480, st480⟩ := castY X479 hx hZ hown (ww hw 156 rfl) kq479 (Ins.self ft474.2.2.2.2.2.2.2.2.2.1) (g := (mkF m 169 #[rv a1, iv 1, rv a2, .val (.int ((na + nb) + nc)), iv 1, rv l2, iv i6, .unset, .unset, .unset] [(.ref l1), (.int (na - (1 : Int32))), (.int 2), (.ref b456)])) rfl rfl (D d14_169)
  refine zst 172 #[rv a1, iv 1, rv a2, .val (.int ((na + nb) + nc)), iv 1, rv l2, iv i6, .unset, .unset, .unset] [(.ref l1), (.int (na - (1 : Int32))), (.int 2), (.ref b456)] st480 ?_
  refine gV 175 3 5 16 X480 N479 hx hZ (y := mq34) hown hml (ww hw 158 rfl) (ww hw 159 rfl) (ww hw 161 rfl) (ww hw 160 rfl) (rmSc l Z a0 hw [] l1 sb kB nb eb h472 n0 O472 ft474.2.2.2.2.2.2.2.2.2.1 ft474.2.2.2.2.2.2.2.2.2.2.1 ft474.2.2.2.2.2.2.2.2.2.2.2.1) (ww hw 162 rfl) (ww hw 32 rfl) e480 ft474.2.2.2.2.2.2.2.2.2.1 [] [(.int (na - (1 : Int32))), (.int 2), (.ref b456)] (lenOf pd___I rfl) (D d14_172) ?_
  rintro T481 L481 M481 _ X481 uu481 ⟨rfl, Nq481, kq481⟩
  have N481 := uu481 Nq481
  refine zsk [(.int nb), (.int (na - (1 : Int32))), (.int 2), (.ref b456)] ?_
  refine zad 176 X481 hx (D d14_175) ?_
  refine zic 177 1 X481 hx (D d14_176) ?_
  refine zsb 178 X481 hx (D d14_177) ?_
  obtain ⟨cl482, Ar482, q482, S482, Nx482, H482, G482⟩ := id V_b456_472
  have hin482 : ¬ ((2 : Int32) < 0 ∨ cl482.slots.size ≤ ((2 : Int32)).toNatClampNeg) := inb_of S482 ⟨by decide, by decide⟩
  obtain ⟨T483, h483, X483, e483, W483, st483⟩ := stI X481 hx hZ kq481 Ar482 (j := (2 : Int32)) hin482 (g := (mkF m 178 #[rv a1, iv 1, rv a2, .val (.int ((na + nb) + nc)), iv 1, rv l2, iv i6, .unset, .unset, .unset] [(.int (((na - (1 : Int32)) + nb) - (1 : Int32))), (.int 2), (.ref b456)])) rfl rfl (D d14_178)
  have V_b456_483 : Arv Z h483 b456 kc456 .int (4 : Int32) [(.int (0 : Int32)), (.int (na - (1 : Int32))), (.int (((na - (1 : Int32)) + nb) - (1 : Int32))), (.int (0 : Int32))] (.int (0 : Int32)) := Arv.set Ar482 q482 S482 Nx482 H482 G482 rfl W483 2 rfl (Nat.le_of_ble_eq_true rfl)
  have N483 := Fr.snoc X483 N481 g_b456
  have O483 : Old Z n0 h483 := O472.wr W483 g_b456
  have K483 : Keep h0 h483 [a1] := K472.wr W483 (Or.inr sz_b456)
  refine zst 179 #[rv a1, iv 1, rv a2, .val (.int ((na + nb) + nc)), iv 1, rv l2, iv i6, .unset, .unset, .unset] [] st483 ?_
  refine zii 182 #[rv a1, iv 1, rv a2, .val (.int ((na + nb) + nc)), iv 2, rv l2, iv i6, .unset, .unset, .unset] X483 hx (D d14_179) rfl ?_
  refine zgo 135 X483 hx (D d14_182) ?_
  refine zil 137 X483 hx (D d14_135) rfl ?_
  refine zan 138 X483 hx (D d14_137) rfl rfl ?_
  have ft485 := (Cx.wr ft474 W483 ne_a2_b456 ne_ed_b456 ne_l0_b456 ne_l1_b456 ne_l2_b456 ne_sa_b456 ne_sb_b456 ne_sc_b456)
  refine gI 143 1 5 16 X483 N483 hx hZ (y := mq18) (xi := mq39) hown hml (ww hw 250 rfl) (ww hw 251 rfl) (ww hw 252 rfl) (ww hw 253 rfl) (ww hw 254 rfl) (ww hw 255 rfl) (ww hw 256 rfl) (ww hw 113 rfl) (rmSz l Z a0 hw [] a2 ed ke l0 l1 l2 h483 n0 O483 ft485.1 ft485.2.1 ft485.2.2.1 ft485.2.2.2.1 ft485.2.2.2.2.2.1) (ww hw 257 rfl) (ww hw 2 rfl) e483 ft485.1 [] [(.int 2)] (lenOf pd___I rfl) (D d14_138) ?_
  rintro T484 L484 M484 _ X484 uu484 ⟨rfl, Nq484, kq484⟩
  have N484 := uu484 Nq484
  refine zsk [(.int 3), (.int 2)] ?_
  refine zcn 146 X484 hx (D d14_143) (by decide) ?_
  refine zan 147 X484 hx (D d14_146) rfl rfl ?_
  have ft486 := (ft475.other W483 (Or.inl ne_a1_b456))
  refine zgf 150 X484 hx hZ hown (host := "") (Or.inl (ww hw 258 rfl)) Via.refl kq484 ft486 (D d14_147) fun T487 X487 e487 => ?_
  refine zil 152 X487 hx (D d14_150) rfl ?_
  refine zic 153 1 X487 hx (D d14_152) ?_
  refine Go.st (f' := (mkF m 154 #[rv a1, iv 1, rv a2, .val (.int ((na + nb) + nc)), iv 2, rv l2, iv i6, .unset, .unset, .unset] [(.int 3), (.ref b456)])) (fun _ k => XS.iadd X487.here hx rfl (D d14_153) rfl k) ?_
  refine zan 155 X487 hx (D d14_154) rfl rfl ?_
  refine zgf 158 X487 hx hZ hown (host := "") (Or.inl (ww hw 258 rfl)) Via.refl e487 ft486 (D d14_155) fun T488 X488 e488 => ?_
  refine zil 160 X488 hx (D d14_158) rfl ?_
  obtain ⟨cl489, Ar489, -, S489, -, H489, -⟩ := id V_b456_483
  have hin489 : ¬ ((2 : Int32) < 0 ∨ cl489.slots.size ≤ ((2 : Int32)).toNatClampNeg) := inb_of S489 ⟨by decide, by decide⟩
  have hat489 : cl489.slots[((2 : Int32)).toNatClampNeg]? = some (.int (((na - (1 : Int32)) + nb) - (1 : Int32))) := H489.at hin489 rfl
  refine Go.st (f' := (mkF m 161 #[rv a1, iv 1, rv a2, .val (.int ((na + nb) + nc)), iv 2, rv l2, iv i6, .unset, .unset, .unset] [(.int (((na - (1 : Int32)) + nb) - (1 : Int32))), (.int 3), (.ref b456)])) (fun _ k => X488.iaload hx (j := (2 : Int32)) (v := (.int (((na - (1 : Int32)) + nb) - (1 : Int32)))) (by rw [e488]; exact Ar489.1) (State.isArrayOf_alike hZ.alike Ar489.2.1) Ar489.2.2 hin489 hat489 (g := (mkF m 160 #[rv a1, iv 1, rv a2, .val (.int ((na + nb) + nc)), iv 2, rv l2, iv i6, .unset, .unset, .unset] [(.int 2), (.ref b456), (.int 3), (.ref b456)])) rfl rfl (D d14_160) _ k) ?_
  refine zan 162 X488 hx (D d14_161) rfl rfl ?_
  refine zil 164 X488 hx (D d14_162) rfl ?_
  refine gI 169 3 5 16 X488 N484 hx hZ (y := mq22) (xi := mq40) hown hml (ww hw 260 rfl) (ww hw 261 rfl) (ww hw 262 rfl) (ww hw 263 rfl) (ww hw 264 rfl) (ww hw 265 rfl) (ww hw 266 rfl) (ww hw 113 rfl) (rmGt2 l Z a0 hw [] a2 ed ke l0 l1 l2 h483 n0 O483 ft485.1 ft485.2.1 ft485.2.2.1 ft485.2.2.2.1 ft485.2.2.2.2.2.1) (ww hw 267 rfl) (ww hw 2 rfl) e488 ft485.1 [(.int 2)] [(.int (((na - (1 : Int32)) + nb) - (1 : Int32))), (.int 3), (.ref b456)] (lenOf pd__I_Ljava_lang_Object_ rfl) (D d14_164) ?_
  rintro T490 L490 M490 _ X490 uu490 ⟨rfl, Nq490, kq490⟩
  have N490 := uu490 Nq490
  refine zsk [(.ref l2), (.int (((na - (1 : Int32)) + nb) - (1 : Int32))), (.int 3), (.ref b456)] ?_
  obtain ⟨T491, X491, e491, st491⟩ := castY X490 hx hZ hown (ww hw 156 rfl) kq490 (Ins.self ft485.2.2.2.2.2.2.2.2.2.2.2.2.1) (g := (mkF m 169 #[rv a1, iv 1, rv a2, .val (.int ((na + nb) + nc)), iv 2, rv l2, iv i6, .unset, .unset, .unset] [(.ref l2), (.int (((na - (1 : Int32)) + nb) - (1 : Int32))), (.int 3), (.ref b456)])) rfl rfl (D d14_169)
  refine zst 172 #[rv a1, iv 1, rv a2, .val (.int ((na + nb) + nc)), iv 2, rv l2, iv i6, .unset, .unset, .unset] [(.ref l2), (.int (((na - (1 : Int32)) + nb) - (1 : Int32))), (.int 3), (.ref b456)] st491 ?_
  refine gV 175 3 5 16 X491 N490 hx hZ (y := mq34) hown hml (ww hw 158 rfl) (ww hw 159 rfl) (ww hw 161 rfl) (ww hw 160 rfl) (rmSc l Z a0 hw [] l2 sc kC nc ec h483 n0 O483 ft485.2.2.2.2.2.2.2.2.2.2.2.2.1 ft485.2.2.2.2.2.2.2.2.2.2.2.2.2.1 ft485.2.2.2.2.2.2.2.2.2.2.2.2.2.2) (ww hw 162 rfl) (ww hw 32 rfl) e491 ft485.2.2.2.2.2.2.2.2.2.2.2.2.1 [] [(.int (((na - (1 : Int32)) + nb) - (1 : Int32))), (.int 3), (.ref b456)] (lenOf pd___I rfl) (D d14_172) ?_
  rintro T492 L492 M492 _ X492 uu492 ⟨rfl, Nq492, kq492⟩
  have N492 := uu492 Nq492
  refine zsk [(.int nc), (.int (((na - (1 : Int32)) + nb) - (1 : Int32))), (.int 3), (.ref b456)] ?_
  refine zad 176 X492 hx (D d14_175) ?_
  refine zic 177 1 X492 hx (D d14_176) ?_
  refine zsb 178 X492 hx (D d14_177) ?_
  obtain ⟨cl493, Ar493, q493, S493, Nx493, H493, G493⟩ := id V_b456_483
  have hin493 : ¬ ((3 : Int32) < 0 ∨ cl493.slots.size ≤ ((3 : Int32)).toNatClampNeg) := inb_of S493 ⟨by decide, by decide⟩
  obtain ⟨T494, h494, X494, e494, W494, st494⟩ := stI X492 hx hZ kq492 Ar493 (j := (3 : Int32)) hin493 (g := (mkF m 178 #[rv a1, iv 1, rv a2, .val (.int ((na + nb) + nc)), iv 2, rv l2, iv i6, .unset, .unset, .unset] [(.int (((((na - (1 : Int32)) + nb) - (1 : Int32)) + nc) - (1 : Int32))), (.int 3), (.ref b456)])) rfl rfl (D d14_178)
  have V_b456_494 : Arv Z h494 b456 kc456 .int (4 : Int32) [(.int (0 : Int32)), (.int (na - (1 : Int32))), (.int (((na - (1 : Int32)) + nb) - (1 : Int32))), (.int (((((na - (1 : Int32)) + nb) - (1 : Int32)) + nc) - (1 : Int32)))] (.int (0 : Int32)) := Arv.set Ar493 q493 S493 Nx493 H493 G493 rfl W494 3 rfl (Nat.le_of_ble_eq_true rfl)
  have N494 := Fr.snoc X494 N492 g_b456
  have O494 : Old Z n0 h494 := O483.wr W494 g_b456
  have K494 : Keep h0 h494 [a1] := K483.wr W494 (Or.inr sz_b456)
  refine zst 179 #[rv a1, iv 1, rv a2, .val (.int ((na + nb) + nc)), iv 2, rv l2, iv i6, .unset, .unset, .unset] [] st494 ?_
  refine zii 182 #[rv a1, iv 1, rv a2, .val (.int ((na + nb) + nc)), iv 3, rv l2, iv i6, .unset, .unset, .unset] X494 hx (D d14_179) rfl ?_
  refine zgo 135 X494 hx (D d14_182) ?_
  refine zil 137 X494 hx (D d14_135) rfl ?_
  refine zan 138 X494 hx (D d14_137) rfl rfl ?_
  have ft496 := (Cx.wr ft485 W494 ne_a2_b456 ne_ed_b456 ne_l0_b456 ne_l1_b456 ne_l2_b456 ne_sa_b456 ne_sb_b456 ne_sc_b456)
  refine gI 143 1 5 16 X494 N494 hx hZ (y := mq18) (xi := mq39) hown hml (ww hw 250 rfl) (ww hw 251 rfl) (ww hw 252 rfl) (ww hw 253 rfl) (ww hw 254 rfl) (ww hw 255 rfl) (ww hw 256 rfl) (ww hw 113 rfl) (rmSz l Z a0 hw [] a2 ed ke l0 l1 l2 h494 n0 O494 ft496.1 ft496.2.1 ft496.2.2.1 ft496.2.2.2.1 ft496.2.2.2.2.2.1) (ww hw 257 rfl) (ww hw 2 rfl) e494 ft496.1 [] [(.int 3)] (lenOf pd___I rfl) (D d14_138) ?_
  rintro T495 L495 M495 _ X495 uu495 ⟨rfl, Nq495, kq495⟩
  have N495 := uu495 Nq495
  refine zsk [(.int 3), (.int 3)] ?_
  refine zcy 185 X495 hx (D d14_143) (by decide) ?_
  have ft497 := ((((ft459.wr W461).wr W472).wr W483).wr W494)
  have ft498 := (ft486.other W494 (Or.inl ne_a1_b456))
  have ft499 := ((((((((((pF_lineOfSegment.other W441 (Or.inr (slot_ne (Or.inr (ww hw 282 rfl)) (Or.inr (ww hw 169 rfl)) (by decide) (t := (.array .int)) (t' := .int) (by decide) (by decide)))).ext E442).keep kq445 (ninS ne_a1_b442 nin0)).keep kq447 nin0).other W453 (Or.inr (slot_ne (Or.inr (ww hw 282 rfl)) (Or.inr (ww hw 249 rfl)) (by decide) (t := (.array .int)) (t' := (.object "java/util/List")) (by decide) (by decide)))).ext E456).other W461 (Or.inr (slot_ne (Or.inr (ww hw 282 rfl)) (Or.inr (ww hw 259 rfl)) (by decide) (t := (.array .int)) (t' := (.array .int)) (by decide) (by decide)))).other W472 (Or.inl ne_a1_b456)).other W483 (Or.inl ne_a1_b456)).other W494 (Or.inl ne_a1_b456))
  have ft500 := ((((((((((pF_callStart.other W441 (Or.inr (slot_ne (Or.inr (ww hw 290 rfl)) (Or.inr (ww hw 169 rfl)) (by decide) (t := (.array .int)) (t' := .int) (by decide) (by decide)))).ext E442).keep kq445 (ninS ne_a1_b442 nin0)).keep kq447 nin0).other W453 (Or.inr (slot_ne (Or.inr (ww hw 290 rfl)) (Or.inr (ww hw 249 rfl)) (by decide) (t := (.array .int)) (t' := (.object "java/util/List")) (by decide) (by decide)))).ext E456).other W461 (Or.inr (slot_ne (Or.inr (ww hw 290 rfl)) (Or.inr (ww hw 259 rfl)) (by decide) (t := (.array .int)) (t' := (.array .int)) (by decide) (by decide)))).other W472 (Or.inl ne_a1_b456)).other W483 (Or.inl ne_a1_b456)).other W494 (Or.inl ne_a1_b456))
  have ft501 := ((((((((((pF_callLine.other W441 (Or.inr (slot_ne (Or.inr (ww hw 292 rfl)) (Or.inr (ww hw 169 rfl)) (by decide) (t := (.array .int)) (t' := .int) (by decide) (by decide)))).ext E442).keep kq445 (ninS ne_a1_b442 nin0)).keep kq447 nin0).other W453 (Or.inr (slot_ne (Or.inr (ww hw 292 rfl)) (Or.inr (ww hw 249 rfl)) (by decide) (t := (.array .int)) (t' := (.object "java/util/List")) (by decide) (by decide)))).ext E456).other W461 (Or.inr (slot_ne (Or.inr (ww hw 292 rfl)) (Or.inr (ww hw 259 rfl)) (by decide) (t := (.array .int)) (t' := (.array .int)) (by decide) (by decide)))).other W472 (Or.inl ne_a1_b456)).other W483 (Or.inl ne_a1_b456)).other W494 (Or.inl ne_a1_b456))
  have ft502 := ((((((((((pF_callPosition.other W441 (Or.inr (slot_ne (Or.inr (ww hw 294 rfl)) (Or.inr (ww hw 169 rfl)) (by decide) (t := (.array .int)) (t' := .int) (by decide) (by decide)))).ext E442).keep kq445 (ninS ne_a1_b442 nin0)).keep kq447 nin0).other W453 (Or.inr (slot_ne (Or.inr (ww hw 294 rfl)) (Or.inr (ww hw 249 rfl)) (by decide) (t := (.array .int)) (t' := (.object "java/util/List")) (by decide) (by decide)))).ext E456).other W461 (Or.inr (slot_ne (Or.inr (ww hw 294 rfl)) (Or.inr (ww hw 259 rfl)) (by decide) (t := (.array .int)) (t' := (.array .int)) (by decide) (by decide)))).other W472 (Or.inl ne_a1_b456)).other W483 (Or.inl ne_a1_b456)).other W494 (Or.inl ne_a1_b456))
  exact C2 _ h494 _ i6 b456 kc456 X495 kq495 O494 N495 K494 sz_b456 ft497 ft498 ft499 ft500 ft501 ft502 V_b456_494 ft496
set_option maxRecDepth 65536 in
set_option maxHeartbeats 40000000 in
theorem rmN (l : Launch) (Z : State) (a0 : Array Value) (hw : ∀ d ∈ tables_1, d.before a0 Z = true) (ws : List Jvm.Cond) (a1 : Addr) (a2 : Addr) (ed : Addr) (ke : ClassId) (l0 : Addr) (l1 : Addr) (l2 : Addr) (sa : Addr) (kA : ClassId) (na : Int32) (ea : List Value) (sb : Addr) (kB : ClassId) (nb : Int32) (eb : List Value) (sc : Addr) (kC : ClassId) (nc : Int32) (ec : List Value) (mir_0 : Addr) (mir_1 : Addr) (mir_2 : Addr) (mir_3 : Addr) (wE : Addr) (wD : Addr) (kE : ClassId) (kD : ClassId) (h0 : Heap) (n0 : Nat) (O0 : Old Z n0 h0) (ba2 : 2 ≤ na.toInt) (ba5 : na.toInt ≤ 5) (bb2 : 2 ≤ nb.toInt) (bb5 : nb.toInt ≤ 5) (bc2 : 2 ≤ nc.toInt) (bc5 : nc.toInt ≤ 5) (g_a1 : n0 ≤ a1) (ne12 : a1 ≠ a2) (E_a1 : Exa Z h0 a1 "com/example/kinetic_city/kineticcity/engine/TransitNetwork") (F_a1_stopCount : Fld Z h0 a1 "com/example/kinetic_city/kineticcity/engine/TransitNetwork" "stopCount" "I" (.int 0)) (F_a1_lines : Fld Z h0 a1 "com/example/kinetic_city/kineticcity/engine/TransitNetwork" "lines" "Ljava/util/List;" .null) (F_a1_firstSegment : Fld Z h0 a1 "com/example/kinetic_city/kineticcity/engine/TransitNetwork" "firstSegment" "[I" .null) (F_a1_lineOfSegment : Fld Z h0 a1 "com/example/kinetic_city/kineticcity/engine/TransitNetwork" "lineOfSegment" "[I" .null) (F_a1_callStart : Fld Z h0 a1 "com/example/kinetic_city/kineticcity/engine/TransitNetwork" "callStart" "[I" .null) (F_a1_callLine : Fld Z h0 a1 "com/example/kinetic_city/kineticcity/engine/TransitNetwork" "callLine" "[I" .null) (F_a1_callPosition : Fld Z h0 a1 "com/example/kinetic_city/kineticcity/engine/TransitNetwork" "callPosition" "[I" .null) (E_a2 : Exa Z h0 a2 "java/util/ArrayList") (F_a2_modCount : Fld Z h0 a2 "java/util/AbstractList" "modCount" "I" (.int 3)) (F_a2_elementData : Fld Z h0 a2 "java/util/ArrayList" "elementData" "[Ljava/lang/Object;" (.ref ed)) (F_a2_size : Fld Z h0 a2 "java/util/ArrayList" "size" "I" (.int 3)) (V_ed : Arv Z h0 ed ke (.object "java/lang/Object") (10 : Int32) [(.ref l0), (.ref l1), (.ref l2)] .null) (E_ed : Exa Z h0 ed "[Ljava/lang/Object;") (E_l0 : Exa Z h0 l0 "com/example/kinetic_city/kineticcity/engine/TransitLine") (E_l1 : Exa Z h0 l1 "com/example/kinetic_city/kineticcity/engine/TransitLine") (E_l2 : Exa Z h0 l2 "com/example/kinetic_city/kineticcity/engine/TransitLine") (ln_sa : Ln na ea) (al_sa : AllE (.int 1) ea) (F_l0_stops : Fld Z h0 l0 "com/example/kinetic_city/kineticcity/engine/TransitLine" "stops" "[I" (.ref sa)) (V_sa : Arv Z h0 sa kA .int na ea (.int 0)) (ln_sb : Ln nb eb) (al_sb : AllE (.int 1) eb) (F_l1_stops : Fld Z h0 l1 "com/example/kinetic_city/kineticcity/engine/TransitLine" "stops" "[I" (.ref sb)) (V_sb : Arv Z h0 sb kB .int nb eb (.int 0)) (ln_sc : Ln nc ec) (al_sc : AllE (.int 1) ec) (F_l2_stops : Fld Z h0 l2 "com/example/kinetic_city/kineticcity/engine/TransitLine" "stops" "[I" (.ref sc)) (V_sc : Arv Z h0 sc kC .int nc ec (.int 0)) (WW : World1 Z mir_0 mir_1 mir_2 mir_3 wE wD kE kD) :
    Con l Z mq38 prog_23_method_1_code 10 none ws ({ frames := 5, cells := 11, slots := 67, locals := 76 } : Room) #[(.ref a1), (.int 1), (.ref a2)] h0 (fun v h L => v = none ∧ Fr n0 L ∧ Keep h0 h [a1] ∧ Exa Z h a1 "com/example/kinetic_city/kineticcity/engine/TransitNetwork" ∧ ∃ (fs : Addr) (kf : ClassId), Fld Z h a1 "com/example/kinetic_city/kineticcity/engine/TransitNetwork" "firstSegment" "[I" (.ref fs) ∧ Arv Z h fs kf .int 4 [(.int 0), (.int (na - (1 : Int32))), (.int (((na - (1 : Int32)) + nb) - (1 : Int32))), (.int (((((na - (1 : Int32)) + nb) - (1 : Int32)) + nc) - (1 : Int32)))] (.int 0)) := by
  refine own_body (plainFor_of_name pn_com_example_kinetic_city_kineticcity_engine_TransitNetwork) ?_
  intro p e s m below meth c s₁ hx hby hml hZ hown hnm hlk hret X0 e0
  have N0 := Fr.nil n0
  have D := @hb _ _ hby
  have K0 : Keep h0 h0 [a1] := Keep.refl _ _
  refine Go.st (T' := s₁) (f' := (mkF m 0 #[rv a1, iv 1, rv a2, .unset, .unset, .unset, .unset, .unset, .unset, .unset] [])) (fun _ k => castTop (by first | (simp [entryFrame, mkF, argsToLocals, Value.category]; done) | rfl) k) ?_
  have ⟨M_0, M_1, M_2, M_3, S_wE, E_wE, S_wD, E_wD, V_wE, V_wD⟩ := WW
  have lt_wE := E_wE.lt
  have lt_wD := E_wD.lt
  have z0 : (0 : Int32).toInt = 0 := by decide
  have z1 : (1 : Int32).toInt = 1 := by decide
  obtain ⟨f1, f2, f3, f4⟩ := own_fs ba2 ba5 bb2 bb5 bc2 bc5
  have lt_a1 := E_a1.lt
  have ne_wE_a1 : wE ≠ a1 := O0.ne lt_wE g_a1
  have ne_wD_a1 : wD ≠ a1 := O0.ne lt_wD g_a1
  have lt_a2 := E_a2.lt
  have lt_ed := V_ed.lt
  have lt_l0 := E_l0.lt
  have lt_l1 := E_l1.lt
  have lt_l2 := E_l2.lt
  have lt_sa := V_sa.lt
  have nl_l0 : a1 ≠ l0 := Exa.ne E_a1 E_l0 (by decide)
  have ns_sa : a1 ≠ sa := Exa.neArv E_a1 V_sa (ww hw 100 rfl)
  have lt_sb := V_sb.lt
  have nl_l1 : a1 ≠ l1 := Exa.ne E_a1 E_l1 (by decide)
  have ns_sb : a1 ≠ sb := Exa.neArv E_a1 V_sb (ww hw 100 rfl)
  have lt_sc := V_sc.lt
  have nl_l2 : a1 ≠ l2 := Exa.ne E_a1 E_l2 (by decide)
  have ns_sc : a1 ≠ sc := Exa.neArv E_a1 V_sc (ww hw 100 rfl)
  have n1d : a1 ≠ ed := Exa.neArv E_a1 V_ed (ww hw 100 rfl)
  have cc := own_c12 ba2 ba5 bb2 bb5 bc2 bc5 f3 f4
  obtain ⟨g1, g2, g3, g4, g5, g6, g7⟩ := own_gs ba2 ba5 bb2 bb5 bc2 bc5 f1 f2 f3 f4
  have cx0 : Cx Z h0 a2 ed ke l0 l1 l2 sa kA na ea sb kB nb eb sc kC nc ec := ⟨E_a2, F_a2_modCount, F_a2_elementData, F_a2_size, E_ed, V_ed, E_l0, F_l0_stops, V_sa, E_l1, F_l1_stops, V_sb, E_l2, F_l2_stops, V_sc⟩
  refine zan 1 X0 hx (D d14_0) rfl rfl ?_
  obtain ⟨T1, X1, e1, st1⟩ := initO X0 hx hZ hown (ww hw 105 rfl) (ww hw 19 rfl) (ww hw 20 rfl) e0 (g := (mkF m 1 #[rv a1, iv 1, rv a2, .unset, .unset, .unset, .unset, .unset, .unset, .unset] [(.ref a1)])) rfl (by rw [hml]; rfl) rfl (D d14_1) (by decide) (W := 0) (by show 2 * 0 + _ ≤ _; exact Nat.le_of_eq rfl) (by decide)
  refine zst 4 #[rv a1, iv 1, rv a2, .unset, .unset, .unset, .unset, .unset, .unset, .unset] [] st1 ?_
  have C1 := @rmN_C1 l Z a0 hw a1 a2 ed ke l0 l1 l2 sa kA na ea sb kB nb eb sc kC nc ec mir_0 mir_1 mir_2 mir_3 wE wD kE kD h0 n0 O0 ba2 ba5 bb2 bb5 bc2 bc5 g_a1 ne12 E_a1 F_a1_stopCount F_a1_lines F_a1_firstSegment F_a1_lineOfSegment F_a1_callStart F_a1_callLine F_a1_callPosition E_a2 F_a2_modCount F_a2_elementData F_a2_size V_ed E_ed E_l0 E_l1 E_l2 ln_sa al_sa F_l0_stops V_sa ln_sb al_sb F_l1_stops V_sb ln_sc al_sc F_l2_stops V_sc WW p e s m below meth c ⟨hx, hby, hml, hnm, hlk, hret, hZ, hown⟩
  refine zic 5 0 X1 hx (D d14_4) ?_
  refine zsn 6 #[rv a1, iv 1, rv a2, iv 0, .unset, .unset, .unset, .unset, .unset, .unset] X1 hx (D d14_5) ?_
  refine zan 7 X1 hx (D d14_6) rfl rfl ?_
  refine gI 12 0 1 4 X1 N0 hx hZ (y := mq14) (xi := mq41) hown hml (ww hw 106 rfl) (ww hw 107 rfl) (ww hw 108 rfl) (ww hw 109 rfl) (ww hw 110 rfl) (ww hw 111 rfl) (ww hw 112 rfl) (ww hw 113 rfl) (rmIt l Z a0 hw [] a2 ed ke l0 l1 l2 h0 n0 O0 cx0.1 cx0.2.1 cx0.2.2.1 cx0.2.2.2.1 cx0.2.2.2.2.2.1) (ww hw 114 rfl) (ww hw 2 rfl) e1 cx0.1 [] [] (lenOf pd___Ljava_util_Iterator_ rfl) (D d14_7) ?_
  rintro T503 L503 M503 _ X503 uu503 ⟨b503, rfl, Nq503, zq503, kq503, eq503, fq503_0, fq503_1, fq503_2, fq503_3⟩
  have N503 := uu503 Nq503
  have ne_a1_b503 : a1 ≠ b503 := Nat.ne_of_lt (ltle lt_a1 zq503)
  have ne_a2_b503 : a2 ≠ b503 := Nat.ne_of_lt (ltle cx0.1.lt zq503)
  have ne_ed_b503 : ed ≠ b503 := Nat.ne_of_lt (ltle cx0.2.2.2.2.1.lt zq503)
  have ne_l0_b503 : l0 ≠ b503 := Nat.ne_of_lt (ltle cx0.2.2.2.2.2.2.1.lt zq503)
  have ne_l1_b503 : l1 ≠ b503 := Nat.ne_of_lt (ltle cx0.2.2.2.2.2.2.2.2.2.1.lt zq503)
  have ne_l2_b503 : l2 ≠ b503 := Nat.ne_of_lt (ltle cx0.2.2.2.2.2.2.2.2.2.2.2.2.1.lt zq503)
  have ne_sa_b503 : sa ≠ b503 := Nat.ne_of_lt (ltle cx0.2.2.2.2.2.2.2.2.1.lt zq503)
  have ne_sb_b503 : sb ≠ b503 := Nat.ne_of_lt (ltle cx0.2.2.2.2.2.2.2.2.2.2.2.1.lt zq503)
  have ne_sc_b503 : sc ≠ b503 := Nat.ne_of_lt (ltle cx0.2.2.2.2.2.2.2.2.2.2.2.2.2.2.lt zq503)
  have ne_wE_b503 : wE ≠ b503 := Nat.ne_of_lt (ltle lt_wE (Nat.le_trans O0.2.1 zq503))
  have ne_wD_b503 : wD ≠ b503 := Nat.ne_of_lt (ltle lt_wD (Nat.le_trans O0.2.1 zq503))
  have g_b503 : n0 ≤ b503 := Nat.le_trans (O0.1 ▸ O0.2.1) zq503
  have sz_b503 : h0.size ≤ b503 := Nat.le_trans K0.1 zq503
  have O503 : Old Z n0 T503.heap := O0.keep kq503 all0
  have K503 : Keep h0 T503.heap [a1] := K0.trans kq503 all0
  have lt_b503 := eq503.lt
  refine zsk [(.ref b503)] ?_
  refine zrl 14 #[rv a1, iv 1, rv a2, iv 0, rv b503, .unset, .unset, .unset, .unset, .unset] X503 hx (D d14_12) rfl ?_
  refine zal 16 X503 hx (D d14_14) rfl rfl ?_
  have ft505 := (Cx.keep0 cx0 kq503)
  refine gI 21 0 1 4 X503 N503 hx hZ (y := mq15) (xi := mq42) hown hml (ww hw 130 rfl) (ww hw 131 rfl) (ww hw 132 rfl) (ww hw 133 rfl) (ww hw 134 rfl) (ww hw 135 rfl) (ww hw 136 rfl) (ww hw 137 rfl) (rmHn0 l Z a0 hw [] b503 a2 ed ke l0 l1 l2 T503.heap n0 O503 g_b503 (Ne.symm ne_a2_b503) eq503 fq503_0 fq503_1 fq503_2 fq503_3 ft505.1 ft505.2.1 ft505.2.2.1 ft505.2.2.2.1 ft505.2.2.2.2.2.1) (ww hw 138 rfl) (ww hw 117 rfl) rfl eq503 [] [] (lenOf pd___Z rfl) (D d14_16) ?_
  rintro T504 L504 M504 _ X504 uu504 ⟨rfl, Nq504, kq504⟩
  have N504 := uu504 Nq504
  refine zsk [(.int 1)] ?_
  refine zfn 24 X504 hx (D d14_21) (by decide) ?_
  refine zal 26 X504 hx (D d14_24) rfl rfl ?_
  refine gI 31 0 1 4 X504 N504 hx hZ (y := mq17) (xi := mq43) hown hml (ww hw 142 rfl) (ww hw 143 rfl) (ww hw 144 rfl) (ww hw 145 rfl) (ww hw 146 rfl) (ww hw 147 rfl) (ww hw 148 rfl) (ww hw 137 rfl) (rmNx0 l Z a0 hw [] b503 a2 ed ke l0 l1 l2 T503.heap n0 O503 g_b503 (Ne.symm ne_a2_b503) eq503 fq503_0 fq503_1 fq503_2 fq503_3 ft505.1 ft505.2.1 ft505.2.2.1 ft505.2.2.2.1 ft505.2.2.2.2.2.1) (ww hw 149 rfl) (ww hw 117 rfl) kq504 eq503 [] [] (lenOf pd___Ljava_lang_Object_ rfl) (D d14_26) ?_
  rintro T506 L506 M506 _ X506 uu506 ⟨rfl, Nq506, kq506, eq506, fq506_0, fq506_1, fq506_2, fq506_3⟩
  have N506 := uu506 Nq506
  have O506 : Old Z n0 T506.heap := O503.keep kq506 (allS g_b503 all0)
  have K506 : Keep h0 T506.heap [a1] := K503.trans kq506 (allS (Or.inr sz_b503) all0)
  refine zsk [(.ref l0)] ?_
  have ft507 := (Cx.keep ft505 kq506 (ninS ne_a2_b503 nin0) (ninS ne_ed_b503 nin0) (ninS ne_l0_b503 nin0) (ninS ne_l1_b503 nin0) (ninS ne_l2_b503 nin0) (ninS ne_sa_b503 nin0) (ninS ne_sb_b503 nin0) (ninS ne_sc_b503 nin0))
  obtain ⟨T508, X508, e508, st508⟩ := castY X506 hx hZ hown (ww hw 156 rfl) rfl (Ins.self ft507.2.2.2.2.2.2.1) (g := (mkF m 31 #[rv a1, iv 1, rv a2, iv 0, rv b503, .unset, .unset, .unset, .unset, .unset] [(.ref l0)])) rfl rfl (D d14_31)
  refine zst 34 #[rv a1, iv 1, rv a2, iv 0, rv b503, .unset, .unset, .unset, .unset, .unset] [(.ref l0)] st508 ?_
  refine zrl 36 #[rv a1, iv 1, rv a2, iv 0, rv b503, rv l0, .unset, .unset, .unset, .unset] X508 hx (D d14_34) rfl ?_
  refine zic 37 0 X508 hx (D d14_36) ?_
  refine zsl 39 #[rv a1, iv 1, rv a2, iv 0, rv b503, rv l0, iv 0, .unset, .unset, .unset] X508 hx (D d14_37) ?_
  have LAl0 : ∀ (fuel : Nat) (TJ509 : State) (hJ509 : Heap) (LJ509 : List Loc) (i : Int32), (Stand p l e ({ frames := 5, cells := 11, slots := 67, locals := 76 } : Room) s m #[(.ref a1), (.int 1), (.ref a2)] below meth c TJ509 LJ509 1 4) → (TJ509.heap = hJ509) → (Old Z n0 hJ509) → (Fr n0 LJ509) → (Keep h0 hJ509 [a1]) → (Exa Z hJ509 a1 "com/example/kinetic_city/kineticcity/engine/TransitNetwork") → (Fld Z hJ509 a1 "com/example/kinetic_city/kineticcity/engine/TransitNetwork" "stopCount" "I" (.int (0 : Int32))) → (Fld Z hJ509 a1 "com/example/kinetic_city/kineticcity/engine/TransitNetwork" "lines" "Ljava/util/List;" .null) → (Fld Z hJ509 a1 "com/example/kinetic_city/kineticcity/engine/TransitNetwork" "firstSegment" "[I" .null) → (Fld Z hJ509 a1 "com/example/kinetic_city/kineticcity/engine/TransitNetwork" "lineOfSegment" "[I" .null) → (Fld Z hJ509 a1 "com/example/kinetic_city/kineticcity/engine/TransitNetwork" "callStart" "[I" .null) → (Fld Z hJ509 a1 "com/example/kinetic_city/kineticcity/engine/TransitNetwork" "callLine" "[I" .null) → (Fld Z hJ509 a1 "com/example/kinetic_city/kineticcity/engine/TransitNetwork" "callPosition" "[I" .null) → (a1 < hJ509.size) → (Cx Z hJ509 a2 ed ke l0 l1 l2 sa kA na ea sb kB nb eb sc kC nc ec) → (Exa Z hJ509 b503 "java/util/ArrayList$Itr") → (Fld Z hJ509 b503 "java/util/ArrayList$Itr" "this$0" "Ljava/util/ArrayList;" (.ref a2)) → (Fld Z hJ509 b503 "java/util/ArrayList$Itr" "lastRet" "I" (.int (0 : Int32))) → (Fld Z hJ509 b503 "java/util/ArrayList$Itr" "expectedModCount" "I" (.int (3 : Int32))) → (Fld Z hJ509 b503 "java/util/ArrayList$Itr" "cursor" "I" (.int (1 : Int32))) → (b503 < hJ509.size) → (((0 : Nat) : Int) ≤ i.toInt) → (i.toInt + (fuel : Int) = na.toInt) → Go p e below (Done s (fun v h L => v = none ∧ Fr n0 L ∧ Keep h0 h [a1] ∧ Exa Z h a1 "com/example/kinetic_city/kineticcity/engine/TransitNetwork" ∧ ∃ (fs : Addr) (kf : ClassId), Fld Z h a1 "com/example/kinetic_city/kineticcity/engine/TransitNetwork" "firstSegment" "[I" (.ref fs) ∧ Arv Z h fs kf .int (4 : Int32) [(.int (0 : Int32)), (.int (na - (1 : Int32))), (.int (((na - (1 : Int32)) + nb) - (1 : Int32))), (.int (((((na - (1 : Int32)) + nb) - (1 : Int32)) + nc) - (1 : Int32)))] (.int (0 : Int32))) ({ frames := 5, cells := 11, slots := 67, locals := 76 } : Room).cells ({ frames := 5, cells := 11, slots := 67, locals := 76 } : Room).slots) TJ509 (mkF m 39 #[rv a1, iv 1, rv a2, iv 0, rv b503, rv l0, iv i, .unset, .unset, .unset] []) := by
   intro fuel
   induction fuel with
   | zero =>
    intro TJ509 hJ509 LJ509 i XJ509 eJ509 OJ509 NJ509 KJ509 cyJ509_0 cyJ509_1 cyJ509_2 cyJ509_3 cyJ509_4 cyJ509_5 cyJ509_6 cyJ509_7 cyJ509_8 cyJ509_9 cyJ509_10 cyJ509_11 cyJ509_12 cyJ509_13 cyJ509_14 cyJ509_15 hi0_LAl0 hi1_LAl0
    refine zil 41 XJ509 hx (D d14_39) rfl ?_
    refine zal 43 XJ509 hx (D d14_41) rfl rfl ?_
    refine gV 46 1 1 4 XJ509 NJ509 hx hZ (y := mq34) hown hml (ww hw 158 rfl) (ww hw 159 rfl) (ww hw 161 rfl) (ww hw 160 rfl) (rmSc l Z a0 hw [] l0 sa kA na ea hJ509 n0 OJ509 cyJ509_9.2.2.2.2.2.2.1 cyJ509_9.2.2.2.2.2.2.2.1 cyJ509_9.2.2.2.2.2.2.2.2.1) (ww hw 162 rfl) (ww hw 32 rfl) eJ509 cyJ509_9.2.2.2.2.2.2.1 [] [(.int i)] (lenOf pd___I rfl) (D d14_43) ?_
    rintro T510 L510 M510 _ X510 uu510 ⟨rfl, Nq510, kq510⟩
    have N510 := uu510 Nq510
    refine zsk [(.int na), (.int i)] ?_
    refine zcy 87 X510 hx (D d14_46) (flt (lpZ hi1_LAl0)).2.1 ?_
    refine zin 88 X510 hx (D d14_87) rfl ?_
    refine zal 90 X510 hx (D d14_88) rfl rfl ?_
    refine gV 93 1 1 4 X510 N510 hx hZ (y := mq34) hown hml (ww hw 158 rfl) (ww hw 159 rfl) (ww hw 161 rfl) (ww hw 160 rfl) (rmSc l Z a0 hw [] l0 sa kA na ea hJ509 n0 OJ509 cyJ509_9.2.2.2.2.2.2.1 cyJ509_9.2.2.2.2.2.2.2.1 cyJ509_9.2.2.2.2.2.2.2.2.1) (ww hw 162 rfl) (ww hw 32 rfl) kq510 cyJ509_9.2.2.2.2.2.2.1 [] [(.int 0)] (lenOf pd___I rfl) (D d14_90) ?_
    rintro T511 L511 M511 _ X511 uu511 ⟨rfl, Nq511, kq511⟩
    have N511 := uu511 Nq511
    refine zsk [(.int na), (.int 0)] ?_
    refine zad 94 X511 hx (D d14_93) ?_
    rw [Int32.zero_add na]
    refine zsn 95 #[rv a1, iv 1, rv a2, iv na, rv b503, rv l0, iv i, .unset, .unset, .unset] X511 hx (D d14_94) ?_
    refine zgo 14 X511 hx (D d14_95) ?_
    refine zal 16 X511 hx (D d14_14) rfl rfl ?_
    refine gI 21 0 1 4 X511 N511 hx hZ (y := mq15) (xi := mq42) hown hml (ww hw 130 rfl) (ww hw 131 rfl) (ww hw 132 rfl) (ww hw 133 rfl) (ww hw 134 rfl) (ww hw 135 rfl) (ww hw 136 rfl) (ww hw 137 rfl) (rmHn1 l Z a0 hw [] b503 a2 ed ke l0 l1 l2 hJ509 n0 OJ509 g_b503 (Ne.symm ne_a2_b503) cyJ509_10 cyJ509_11 cyJ509_12 cyJ509_13 cyJ509_14 cyJ509_9.1 cyJ509_9.2.1 cyJ509_9.2.2.1 cyJ509_9.2.2.2.1 cyJ509_9.2.2.2.2.2.1) (ww hw 138 rfl) (ww hw 117 rfl) kq511 cyJ509_10 [] [] (lenOf pd___Z rfl) (D d14_16) ?_
    rintro T512 L512 M512 _ X512 uu512 ⟨rfl, Nq512, kq512⟩
    have N512 := uu512 Nq512
    refine zsk [(.int 1)] ?_
    refine zfn 24 X512 hx (D d14_21) (by decide) ?_
    refine zal 26 X512 hx (D d14_24) rfl rfl ?_
    refine gI 31 0 1 4 X512 N512 hx hZ (y := mq17) (xi := mq43) hown hml (ww hw 142 rfl) (ww hw 143 rfl) (ww hw 144 rfl) (ww hw 145 rfl) (ww hw 146 rfl) (ww hw 147 rfl) (ww hw 148 rfl) (ww hw 137 rfl) (rmNx1 l Z a0 hw [] b503 a2 ed ke l0 l1 l2 hJ509 n0 OJ509 g_b503 (Ne.symm ne_a2_b503) cyJ509_10 cyJ509_11 cyJ509_12 cyJ509_13 cyJ509_14 cyJ509_9.1 cyJ509_9.2.1 cyJ509_9.2.2.1 cyJ509_9.2.2.2.1 cyJ509_9.2.2.2.2.2.1) (ww hw 149 rfl) (ww hw 117 rfl) kq512 cyJ509_10 [] [] (lenOf pd___Ljava_lang_Object_ rfl) (D d14_26) ?_
    rintro T513 L513 M513 _ X513 uu513 ⟨rfl, Nq513, kq513, eq513, fq513_0, fq513_1, fq513_2, fq513_3⟩
    have N513 := uu513 Nq513
    have O513 : Old Z n0 T513.heap := OJ509.keep kq513 (allS g_b503 all0)
    have K513 : Keep h0 T513.heap [a1] := KJ509.trans kq513 (allS (Or.inr sz_b503) all0)
    refine zsk [(.ref l1)] ?_
    have ft514 := (Cx.keep cyJ509_9 kq513 (ninS ne_a2_b503 nin0) (ninS ne_ed_b503 nin0) (ninS ne_l0_b503 nin0) (ninS ne_l1_b503 nin0) (ninS ne_l2_b503 nin0) (ninS ne_sa_b503 nin0) (ninS ne_sb_b503 nin0) (ninS ne_sc_b503 nin0))
    obtain ⟨T515, X515, e515, st515⟩ := castY X513 hx hZ hown (ww hw 156 rfl) rfl (Ins.self ft514.2.2.2.2.2.2.2.2.2.1) (g := (mkF m 31 #[rv a1, iv 1, rv a2, iv na, rv b503, rv l0, iv i, .unset, .unset, .unset] [(.ref l1)])) rfl rfl (D d14_31)
    refine zst 34 #[rv a1, iv 1, rv a2, iv na, rv b503, rv l0, iv i, .unset, .unset, .unset] [(.ref l1)] st515 ?_
    refine zrl 36 #[rv a1, iv 1, rv a2, iv na, rv b503, rv l1, iv i, .unset, .unset, .unset] X515 hx (D d14_34) rfl ?_
    refine zic 37 0 X515 hx (D d14_36) ?_
    refine zsl 39 #[rv a1, iv 1, rv a2, iv na, rv b503, rv l1, iv 0, .unset, .unset, .unset] X515 hx (D d14_37) ?_
    have LAl1 : ∀ (fuel : Nat) (TJ516 : State) (hJ516 : Heap) (LJ516 : List Loc) (i : Int32), (Stand p l e ({ frames := 5, cells := 11, slots := 67, locals := 76 } : Room) s m #[(.ref a1), (.int 1), (.ref a2)] below meth c TJ516 LJ516 1 4) → (TJ516.heap = hJ516) → (Old Z n0 hJ516) → (Fr n0 LJ516) → (Keep h0 hJ516 [a1]) → (Exa Z hJ516 a1 "com/example/kinetic_city/kineticcity/engine/TransitNetwork") → (Fld Z hJ516 a1 "com/example/kinetic_city/kineticcity/engine/TransitNetwork" "stopCount" "I" (.int (0 : Int32))) → (Fld Z hJ516 a1 "com/example/kinetic_city/kineticcity/engine/TransitNetwork" "lines" "Ljava/util/List;" .null) → (Fld Z hJ516 a1 "com/example/kinetic_city/kineticcity/engine/TransitNetwork" "firstSegment" "[I" .null) → (Fld Z hJ516 a1 "com/example/kinetic_city/kineticcity/engine/TransitNetwork" "lineOfSegment" "[I" .null) → (Fld Z hJ516 a1 "com/example/kinetic_city/kineticcity/engine/TransitNetwork" "callStart" "[I" .null) → (Fld Z hJ516 a1 "com/example/kinetic_city/kineticcity/engine/TransitNetwork" "callLine" "[I" .null) → (Fld Z hJ516 a1 "com/example/kinetic_city/kineticcity/engine/TransitNetwork" "callPosition" "[I" .null) → (a1 < hJ516.size) → (Cx Z hJ516 a2 ed ke l0 l1 l2 sa kA na ea sb kB nb eb sc kC nc ec) → (Exa Z hJ516 b503 "java/util/ArrayList$Itr") → (Fld Z hJ516 b503 "java/util/ArrayList$Itr" "this$0" "Ljava/util/ArrayList;" (.ref a2)) → (Fld Z hJ516 b503 "java/util/ArrayList$Itr" "lastRet" "I" (.int (1 : Int32))) → (Fld Z hJ516 b503 "java/util/ArrayList$Itr" "expectedModCount" "I" (.int (3 : Int32))) → (Fld Z hJ516 b503 "java/util/ArrayList$Itr" "cursor" "I" (.int (2 : Int32))) → (b503 < hJ516.size) → (((0 : Nat) : Int) ≤ i.toInt) → (i.toInt + (fuel : Int) = nb.toInt) → Go p e below (Done s (fun v h L => v = none ∧ Fr n0 L ∧ Keep h0 h [a1] ∧ Exa Z h a1 "com/example/kinetic_city/kineticcity/engine/TransitNetwork" ∧ ∃ (fs : Addr) (kf : ClassId), Fld Z h a1 "com/example/kinetic_city/kineticcity/engine/TransitNetwork" "firstSegment" "[I" (.ref fs) ∧ Arv Z h fs kf .int (4 : Int32) [(.int (0 : Int32)), (.int (na - (1 : Int32))), (.int (((na - (1 : Int32)) + nb) - (1 : Int32))), (.int (((((na - (1 : Int32)) + nb) - (1 : Int32)) + nc) - (1 : Int32)))] (.int (0 : Int32))) ({ frames := 5, cells := 11, slots := 67, locals := 76 } : Room).cells ({ frames := 5, cells := 11, slots := 67, locals := 76 } : Room).slots) TJ516 (mkF m 39 #[rv a1, iv 1, rv a2, iv na, rv b503, rv l1, iv i, .unset, .unset, .unset] []) := by
     intro fuel
     induction fuel with
     | zero =>
      intro TJ516 hJ516 LJ516 i XJ516 eJ516 OJ516 NJ516 KJ516 cyJ516_0 cyJ516_1 cyJ516_2 cyJ516_3 cyJ516_4 cyJ516_5 cyJ516_6 cyJ516_7 cyJ516_8 cyJ516_9 cyJ516_10 cyJ516_11 cyJ516_12 cyJ516_13 cyJ516_14 cyJ516_15 hi0_LAl1 hi1_LAl1
      refine zil 41 XJ516 hx (D d14_39) rfl ?_
      refine zal 43 XJ516 hx (D d14_41) rfl rfl ?_
      refine gV 46 1 1 4 XJ516 NJ516 hx hZ (y := mq34) hown hml (ww hw 158 rfl) (ww hw 159 rfl) (ww hw 161 rfl) (ww hw 160 rfl) (rmSc l Z a0 hw [] l1 sb kB nb eb hJ516 n0 OJ516 cyJ516_9.2.2.2.2.2.2.2.2.2.1 cyJ516_9.2.2.2.2.2.2.2.2.2.2.1 cyJ516_9.2.2.2.2.2.2.2.2.2.2.2.1) (ww hw 162 rfl) (ww hw 32 rfl) eJ516 cyJ516_9.2.2.2.2.2.2.2.2.2.1 [] [(.int i)] (lenOf pd___I rfl) (D d14_43) ?_
      rintro T517 L517 M517 _ X517 uu517 ⟨rfl, Nq517, kq517⟩
      have N517 := uu517 Nq517
      refine zsk [(.int nb), (.int i)] ?_
      refine zcy 87 X517 hx (D d14_46) (flt (lpZ hi1_LAl1)).2.1 ?_
      refine zin 88 X517 hx (D d14_87) rfl ?_
      refine zal 90 X517 hx (D d14_88) rfl rfl ?_
      refine gV 93 1 1 4 X517 N517 hx hZ (y := mq34) hown hml (ww hw 158 rfl) (ww hw 159 rfl) (ww hw 161 rfl) (ww hw 160 rfl) (rmSc l Z a0 hw [] l1 sb kB nb eb hJ516 n0 OJ516 cyJ516_9.2.2.2.2.2.2.2.2.2.1 cyJ516_9.2.2.2.2.2.2.2.2.2.2.1 cyJ516_9.2.2.2.2.2.2.2.2.2.2.2.1) (ww hw 162 rfl) (ww hw 32 rfl) kq517 cyJ516_9.2.2.2.2.2.2.2.2.2.1 [] [(.int na)] (lenOf pd___I rfl) (D d14_90) ?_
      rintro T518 L518 M518 _ X518 uu518 ⟨rfl, Nq518, kq518⟩
      have N518 := uu518 Nq518
      refine zsk [(.int nb), (.int na)] ?_
      refine zad 94 X518 hx (D d14_93) ?_
      refine zsn 95 #[rv a1, iv 1, rv a2, .val (.int (na + nb)), rv b503, rv l1, iv i, .unset, .unset, .unset] X518 hx (D d14_94) ?_
      refine zgo 14 X518 hx (D d14_95) ?_
      refine zal 16 X518 hx (D d14_14) rfl rfl ?_
      refine gI 21 0 1 4 X518 N518 hx hZ (y := mq15) (xi := mq42) hown hml (ww hw 130 rfl) (ww hw 131 rfl) (ww hw 132 rfl) (ww hw 133 rfl) (ww hw 134 rfl) (ww hw 135 rfl) (ww hw 136 rfl) (ww hw 137 rfl) (rmHn2 l Z a0 hw [] b503 a2 ed ke l0 l1 l2 hJ516 n0 OJ516 g_b503 (Ne.symm ne_a2_b503) cyJ516_10 cyJ516_11 cyJ516_12 cyJ516_13 cyJ516_14 cyJ516_9.1 cyJ516_9.2.1 cyJ516_9.2.2.1 cyJ516_9.2.2.2.1 cyJ516_9.2.2.2.2.2.1) (ww hw 138 rfl) (ww hw 117 rfl) kq518 cyJ516_10 [] [] (lenOf pd___Z rfl) (D d14_16) ?_
      rintro T519 L519 M519 _ X519 uu519 ⟨rfl, Nq519, kq519⟩
      have N519 := uu519 Nq519
      refine zsk [(.int 1)] ?_
      refine zfn 24 X519 hx (D d14_21) (by decide) ?_
      refine zal 26 X519 hx (D d14_24) rfl rfl ?_
      refine gI 31 0 1 4 X519 N519 hx hZ (y := mq17) (xi := mq43) hown hml (ww hw 142 rfl) (ww hw 143 rfl) (ww hw 144 rfl) (ww hw 145 rfl) (ww hw 146 rfl) (ww hw 147 rfl) (ww hw 148 rfl) (ww hw 137 rfl) (rmNx2 l Z a0 hw [] b503 a2 ed ke l0 l1 l2 hJ516 n0 OJ516 g_b503 (Ne.symm ne_a2_b503) cyJ516_10 cyJ516_11 cyJ516_12 cyJ516_13 cyJ516_14 cyJ516_9.1 cyJ516_9.2.1 cyJ516_9.2.2.1 cyJ516_9.2.2.2.1 cyJ516_9.2.2.2.2.2.1) (ww hw 149 rfl) (ww hw 117 rfl) kq519 cyJ516_10 [] [] (lenOf pd___Ljava_lang_Object_ rfl) (D d14_26) ?_
      rintro T520 L520 M520 _ X520 uu520 ⟨rfl, Nq520, kq520, eq520, fq520_0, fq520_1, fq520_2, fq520_3⟩
      have N520 := uu520 Nq520
      have O520 : Old Z n0 T520.heap := OJ516.keep kq520 (allS g_b503 all0)
      have K520 : Keep h0 T520.heap [a1] := KJ516.trans kq520 (allS (Or.inr sz_b503) all0)
      refine zsk [(.ref l2)] ?_
      have ft521 := (Cx.keep cyJ516_9 kq520 (ninS ne_a2_b503 nin0) (ninS ne_ed_b503 nin0) (ninS ne_l0_b503 nin0) (ninS ne_l1_b503 nin0) (ninS ne_l2_b503 nin0) (ninS ne_sa_b503 nin0) (ninS ne_sb_b503 nin0) (ninS ne_sc_b503 nin0))
      obtain ⟨T522, X522, e522, st522⟩ := castY X520 hx hZ hown (ww hw 156 rfl) rfl (Ins.self ft521.2.2.2.2.2.2.2.2.2.2.2.2.1) (g := (mkF m 31 #[rv a1, iv 1, rv a2, .val (.int (na + nb)), rv b503, rv l1, iv i, .unset, .unset, .unset] [(.ref l2)])) rfl rfl (D d14_31)
      refine zst 34 #[rv a1, iv 1, rv a2, .val (.int (na + nb)), rv b503, rv l1, iv i, .unset, .unset, .unset] [(.ref l2)] st522 ?_
      refine zrl 36 #[rv a1, iv 1, rv a2, .val (.int (na + nb)), rv b503, rv l2, iv i, .unset, .unset, .unset] X522 hx (D d14_34) rfl ?_
      refine zic 37 0 X522 hx (D d14_36) ?_
      refine zsl 39 #[rv a1, iv 1, rv a2, .val (.int (na + nb)), rv b503, rv l2, iv 0, .unset, .unset, .unset] X522 hx (D d14_37) ?_
      have LAl2 : ∀ (fuel : Nat) (TJ523 : State) (hJ523 : Heap) (LJ523 : List Loc) (i : Int32), (Stand p l e ({ frames := 5, cells := 11, slots := 67, locals := 76 } : Room) s m #[(.ref a1), (.int 1), (.ref a2)] below meth c TJ523 LJ523 1 4) → (TJ523.heap = hJ523) → (Old Z n0 hJ523) → (Fr n0 LJ523) → (Keep h0 hJ523 [a1]) → (Exa Z hJ523 a1 "com/example/kinetic_city/kineticcity/engine/TransitNetwork") → (Fld Z hJ523 a1 "com/example/kinetic_city/kineticcity/engine/TransitNetwork" "stopCount" "I" (.int (0 : Int32))) → (Fld Z hJ523 a1 "com/example/kinetic_city/kineticcity/engine/TransitNetwork" "lines" "Ljava/util/List;" .null) → (Fld Z hJ523 a1 "com/example/kinetic_city/kineticcity/engine/TransitNetwork" "firstSegment" "[I" .null) → (Fld Z hJ523 a1 "com/example/kinetic_city/kineticcity/engine/TransitNetwork" "lineOfSegment" "[I" .null) → (Fld Z hJ523 a1 "com/example/kinetic_city/kineticcity/engine/TransitNetwork" "callStart" "[I" .null) → (Fld Z hJ523 a1 "com/example/kinetic_city/kineticcity/engine/TransitNetwork" "callLine" "[I" .null) → (Fld Z hJ523 a1 "com/example/kinetic_city/kineticcity/engine/TransitNetwork" "callPosition" "[I" .null) → (a1 < hJ523.size) → (Cx Z hJ523 a2 ed ke l0 l1 l2 sa kA na ea sb kB nb eb sc kC nc ec) → (Exa Z hJ523 b503 "java/util/ArrayList$Itr") → (Fld Z hJ523 b503 "java/util/ArrayList$Itr" "this$0" "Ljava/util/ArrayList;" (.ref a2)) → (Fld Z hJ523 b503 "java/util/ArrayList$Itr" "lastRet" "I" (.int (2 : Int32))) → (Fld Z hJ523 b503 "java/util/ArrayList$Itr" "expectedModCount" "I" (.int (3 : Int32))) → (Fld Z hJ523 b503 "java/util/ArrayList$Itr" "cursor" "I" (.int (3 : Int32))) → (b503 < hJ523.size) → (((0 : Nat) : Int) ≤ i.toInt) → (i.toInt + (fuel : Int) = nc.toInt) → Go p e below (Done s (fun v h L => v = none ∧ Fr n0 L ∧ Keep h0 h [a1] ∧ Exa Z h a1 "com/example/kinetic_city/kineticcity/engine/TransitNetwork" ∧ ∃ (fs : Addr) (kf : ClassId), Fld Z h a1 "com/example/kinetic_city/kineticcity/engine/TransitNetwork" "firstSegment" "[I" (.ref fs) ∧ Arv Z h fs kf .int (4 : Int32) [(.int (0 : Int32)), (.int (na - (1 : Int32))), (.int (((na - (1 : Int32)) + nb) - (1 : Int32))), (.int (((((na - (1 : Int32)) + nb) - (1 : Int32)) + nc) - (1 : Int32)))] (.int (0 : Int32))) ({ frames := 5, cells := 11, slots := 67, locals := 76 } : Room).cells ({ frames := 5, cells := 11, slots := 67, locals := 76 } : Room).slots) TJ523 (mkF m 39 #[rv a1, iv 1, rv a2, .val (.int (na + nb)), rv b503, rv l2, iv i, .unset, .unset, .unset] []) := by
       intro fuel
       induction fuel with
       | zero =>
        intro TJ523 hJ523 LJ523 i XJ523 eJ523 OJ523 NJ523 KJ523 cyJ523_0 cyJ523_1 cyJ523_2 cyJ523_3 cyJ523_4 cyJ523_5 cyJ523_6 cyJ523_7 cyJ523_8 cyJ523_9 cyJ523_10 cyJ523_11 cyJ523_12 cyJ523_13 cyJ523_14 cyJ523_15 hi0_LAl2 hi1_LAl2
        refine zil 41 XJ523 hx (D d14_39) rfl ?_
        refine zal 43 XJ523 hx (D d14_41) rfl rfl ?_
        refine gV 46 1 1 4 XJ523 NJ523 hx hZ (y := mq34) hown hml (ww hw 158 rfl) (ww hw 159 rfl) (ww hw 161 rfl) (ww hw 160 rfl) (rmSc l Z a0 hw [] l2 sc kC nc ec hJ523 n0 OJ523 cyJ523_9.2.2.2.2.2.2.2.2.2.2.2.2.1 cyJ523_9.2.2.2.2.2.2.2.2.2.2.2.2.2.1 cyJ523_9.2.2.2.2.2.2.2.2.2.2.2.2.2.2) (ww hw 162 rfl) (ww hw 32 rfl) eJ523 cyJ523_9.2.2.2.2.2.2.2.2.2.2.2.2.1 [] [(.int i)] (lenOf pd___I rfl) (D d14_43) ?_
        rintro T524 L524 M524 _ X524 uu524 ⟨rfl, Nq524, kq524⟩
        have N524 := uu524 Nq524
        refine zsk [(.int nc), (.int i)] ?_
        refine zcy 87 X524 hx (D d14_46) (flt (lpZ hi1_LAl2)).2.1 ?_
        refine zin 88 X524 hx (D d14_87) rfl ?_
        refine zal 90 X524 hx (D d14_88) rfl rfl ?_
        refine gV 93 1 1 4 X524 N524 hx hZ (y := mq34) hown hml (ww hw 158 rfl) (ww hw 159 rfl) (ww hw 161 rfl) (ww hw 160 rfl) (rmSc l Z a0 hw [] l2 sc kC nc ec hJ523 n0 OJ523 cyJ523_9.2.2.2.2.2.2.2.2.2.2.2.2.1 cyJ523_9.2.2.2.2.2.2.2.2.2.2.2.2.2.1 cyJ523_9.2.2.2.2.2.2.2.2.2.2.2.2.2.2) (ww hw 162 rfl) (ww hw 32 rfl) kq524 cyJ523_9.2.2.2.2.2.2.2.2.2.2.2.2.1 [] [(.int (na + nb))] (lenOf pd___I rfl) (D d14_90) ?_
        rintro T525 L525 M525 _ X525 uu525 ⟨rfl, Nq525, kq525⟩
        have N525 := uu525 Nq525
        refine zsk [(.int nc), (.int (na + nb))] ?_
        refine zad 94 X525 hx (D d14_93) ?_
        refine zsn 95 #[rv a1, iv 1, rv a2, .val (.int ((na + nb) + nc)), rv b503, rv l2, iv i, .unset, .unset, .unset] X525 hx (D d14_94) ?_
        refine zgo 14 X525 hx (D d14_95) ?_
        refine zal 16 X525 hx (D d14_14) rfl rfl ?_
        refine gI 21 0 1 4 X525 N525 hx hZ (y := mq15) (xi := mq42) hown hml (ww hw 130 rfl) (ww hw 131 rfl) (ww hw 132 rfl) (ww hw 133 rfl) (ww hw 134 rfl) (ww hw 135 rfl) (ww hw 136 rfl) (ww hw 137 rfl) (rmHn3 l Z a0 hw [] b503 a2 ed ke l0 l1 l2 hJ523 n0 OJ523 g_b503 (Ne.symm ne_a2_b503) cyJ523_10 cyJ523_11 cyJ523_12 cyJ523_13 cyJ523_14 cyJ523_9.1 cyJ523_9.2.1 cyJ523_9.2.2.1 cyJ523_9.2.2.2.1 cyJ523_9.2.2.2.2.2.1) (ww hw 138 rfl) (ww hw 117 rfl) kq525 cyJ523_10 [] [] (lenOf pd___Z rfl) (D d14_16) ?_
        rintro T526 L526 M526 _ X526 uu526 ⟨rfl, Nq526, kq526⟩
        have N526 := uu526 Nq526
        refine zsk [(.int 0)] ?_
        refine zfy 98 X526 hx (D d14_21) (by decide) ?_
        exact C1 _ hJ523 _ i b503 X526 kq526 OJ523 N526 KJ523 cyJ523_0 cyJ523_1 cyJ523_2 cyJ523_3 cyJ523_4 cyJ523_5 cyJ523_6 cyJ523_7 cyJ523_9
       | succ fuel ih =>
        intro TJ523 hJ523 LJ523 i XJ523 eJ523 OJ523 NJ523 KJ523 cyJ523_0 cyJ523_1 cyJ523_2 cyJ523_3 cyJ523_4 cyJ523_5 cyJ523_6 cyJ523_7 cyJ523_8 cyJ523_9 cyJ523_10 cyJ523_11 cyJ523_12 cyJ523_13 cyJ523_14 cyJ523_15 hi0_LAl2 hi1_LAl2
        refine zil 41 XJ523 hx (D d14_39) rfl ?_
        refine zal 43 XJ523 hx (D d14_41) rfl rfl ?_
        refine gV 46 1 1 4 XJ523 NJ523 hx hZ (y := mq34) hown hml (ww hw 158 rfl) (ww hw 159 rfl) (ww hw 161 rfl) (ww hw 160 rfl) (rmSc l Z a0 hw [] l2 sc kC nc ec hJ523 n0 OJ523 cyJ523_9.2.2.2.2.2.2.2.2.2.2.2.2.1 cyJ523_9.2.2.2.2.2.2.2.2.2.2.2.2.2.1 cyJ523_9.2.2.2.2.2.2.2.2.2.2.2.2.2.2) (ww hw 162 rfl) (ww hw 32 rfl) eJ523 cyJ523_9.2.2.2.2.2.2.2.2.2.2.2.2.1 [] [(.int i)] (lenOf pd___I rfl) (D d14_43) ?_
        rintro T527 L527 M527 _ X527 uu527 ⟨rfl, Nq527, kq527⟩
        have N527 := uu527 Nq527
        refine zsk [(.int nc), (.int i)] ?_
        refine zcn 49 X527 hx (D d14_46) (tlt (lpS hi1_LAl2)).2.1 ?_
        refine zal 51 X527 hx (D d14_49) rfl rfl ?_
        refine zil 53 X527 hx (D d14_51) rfl ?_
        refine gV 56 0 1 4 X527 N527 hx hZ (y := mq35) hown hml (ww hw 163 rfl) (ww hw 164 rfl) (ww hw 166 rfl) (ww hw 165 rfl) (rmSa l Z a0 hw [] l2 sc kC nc ec i hJ523 n0 OJ523 ln_sc al_sc (lpN hi0_LAl2) (lpS hi1_LAl2) cyJ523_9.2.2.2.2.2.2.2.2.2.2.2.2.1 cyJ523_9.2.2.2.2.2.2.2.2.2.2.2.2.2.1 cyJ523_9.2.2.2.2.2.2.2.2.2.2.2.2.2.2) (ww hw 167 rfl) (ww hw 32 rfl) kq527 cyJ523_9.2.2.2.2.2.2.2.2.2.2.2.2.1 [(.int i)] [] (lenOf pd__I_I rfl) (D d14_53) ?_
        rintro T528 L528 M528 _ X528 uu528 ⟨rfl, Nq528, kq528⟩
        have N528 := uu528 Nq528
        refine zsk [(.int 1)] ?_
        refine zin 57 X528 hx (D d14_56) rfl ?_
        refine zcy 81 X528 hx (D d14_57) (by decide) ?_
        refine zii 84 #[rv a1, iv 1, rv a2, .val (.int (na + nb)), rv b503, rv l2, .val (.int (i + (1 : Int32))), .unset, .unset, .unset] X528 hx (D d14_81) rfl ?_
        refine zgo 39 X528 hx (D d14_84) ?_
        exact ih _ hJ523 _ (i + (1 : Int32)) X528 kq528 OJ523 N528 KJ523 cyJ523_0 cyJ523_1 cyJ523_2 cyJ523_3 cyJ523_4 cyJ523_5 cyJ523_6 cyJ523_7 cyJ523_8 cyJ523_9 cyJ523_10 cyJ523_11 cyJ523_12 cyJ523_13 cyJ523_14 cyJ523_15 (lpI hi0_LAl2 hi1_LAl2).1 (lpI hi0_LAl2 hi1_LAl2).2
      have ft529 := (cyJ516_0.keep kq520)
      have ft530 := (cyJ516_1.keep kq520 (ninS ne_a1_b503 nin0))
      have ft531 := (cyJ516_2.keep kq520 (ninS ne_a1_b503 nin0))
      have ft532 := (cyJ516_3.keep kq520 (ninS ne_a1_b503 nin0))
      have ft533 := (cyJ516_4.keep kq520 (ninS ne_a1_b503 nin0))
      have ft534 := (cyJ516_5.keep kq520 (ninS ne_a1_b503 nin0))
      have ft535 := (cyJ516_6.keep kq520 (ninS ne_a1_b503 nin0))
      have ft536 := (cyJ516_7.keep kq520 (ninS ne_a1_b503 nin0))
      have ft537 := (ltle cyJ516_8 kq520.1)
      have ft538 := (ltle cyJ516_15 kq520.1)
      exact LAl2 (nc.toInt - 0).toNat _ T520.heap _ (0 : Int32) X522 e522 O520 N520 K520 ft529 ft530 ft531 ft532 ft533 ft534 ft535 ft536 ft537 ft521 eq520 fq520_0 fq520_1 fq520_2 fq520_3 ft538 (by decide) (lp0 bc2)
     | succ fuel ih =>
      intro TJ516 hJ516 LJ516 i XJ516 eJ516 OJ516 NJ516 KJ516 cyJ516_0 cyJ516_1 cyJ516_2 cyJ516_3 cyJ516_4 cyJ516_5 cyJ516_6 cyJ516_7 cyJ516_8 cyJ516_9 cyJ516_10 cyJ516_11 cyJ516_12 cyJ516_13 cyJ516_14 cyJ516_15 hi0_LAl1 hi1_LAl1
      refine zil 41 XJ516 hx (D d14_39) rfl ?_
      refine zal 43 XJ516 hx (D d14_41) rfl rfl ?_
      refine gV 46 1 1 4 XJ516 NJ516 hx hZ (y := mq34) hown hml (ww hw 158 rfl) (ww hw 159 rfl) (ww hw 161 rfl) (ww hw 160 rfl) (rmSc l Z a0 hw [] l1 sb kB nb eb hJ516 n0 OJ516 cyJ516_9.2.2.2.2.2.2.2.2.2.1 cyJ516_9.2.2.2.2.2.2.2.2.2.2.1 cyJ516_9.2.2.2.2.2.2.2.2.2.2.2.1) (ww hw 162 rfl) (ww hw 32 rfl) eJ516 cyJ516_9.2.2.2.2.2.2.2.2.2.1 [] [(.int i)] (lenOf pd___I rfl) (D d14_43) ?_
      rintro T539 L539 M539 _ X539 uu539 ⟨rfl, Nq539, kq539⟩
      have N539 := uu539 Nq539
      refine zsk [(.int nb), (.int i)] ?_
      refine zcn 49 X539 hx (D d14_46) (tlt (lpS hi1_LAl1)).2.1 ?_
      refine zal 51 X539 hx (D d14_49) rfl rfl ?_
      refine zil 53 X539 hx (D d14_51) rfl ?_
      refine gV 56 0 1 4 X539 N539 hx hZ (y := mq35) hown hml (ww hw 163 rfl) (ww hw 164 rfl) (ww hw 166 rfl) (ww hw 165 rfl) (rmSa l Z a0 hw [] l1 sb kB nb eb i hJ516 n0 OJ516 ln_sb al_sb (lpN hi0_LAl1) (lpS hi1_LAl1) cyJ516_9.2.2.2.2.2.2.2.2.2.1 cyJ516_9.2.2.2.2.2.2.2.2.2.2.1 cyJ516_9.2.2.2.2.2.2.2.2.2.2.2.1) (ww hw 167 rfl) (ww hw 32 rfl) kq539 cyJ516_9.2.2.2.2.2.2.2.2.2.1 [(.int i)] [] (lenOf pd__I_I rfl) (D d14_53) ?_
      rintro T540 L540 M540 _ X540 uu540 ⟨rfl, Nq540, kq540⟩
      have N540 := uu540 Nq540
      refine zsk [(.int 1)] ?_
      refine zin 57 X540 hx (D d14_56) rfl ?_
      refine zcy 81 X540 hx (D d14_57) (by decide) ?_
      refine zii 84 #[rv a1, iv 1, rv a2, iv na, rv b503, rv l1, .val (.int (i + (1 : Int32))), .unset, .unset, .unset] X540 hx (D d14_81) rfl ?_
      refine zgo 39 X540 hx (D d14_84) ?_
      exact ih _ hJ516 _ (i + (1 : Int32)) X540 kq540 OJ516 N540 KJ516 cyJ516_0 cyJ516_1 cyJ516_2 cyJ516_3 cyJ516_4 cyJ516_5 cyJ516_6 cyJ516_7 cyJ516_8 cyJ516_9 cyJ516_10 cyJ516_11 cyJ516_12 cyJ516_13 cyJ516_14 cyJ516_15 (lpI hi0_LAl1 hi1_LAl1).1 (lpI hi0_LAl1 hi1_LAl1).2
    have ft541 := (cyJ509_0.keep kq513)
    have ft542 := (cyJ509_1.keep kq513 (ninS ne_a1_b503 nin0))
    have ft543 := (cyJ509_2.keep kq513 (ninS ne_a1_b503 nin0))
    have ft544 := (cyJ509_3.keep kq513 (ninS ne_a1_b503 nin0))
    have ft545 := (cyJ509_4.keep kq513 (ninS ne_a1_b503 nin0))
    have ft546 := (cyJ509_5.keep kq513 (ninS ne_a1_b503 nin0))
    have ft547 := (cyJ509_6.keep kq513 (ninS ne_a1_b503 nin0))
    have ft548 := (cyJ509_7.keep kq513 (ninS ne_a1_b503 nin0))
    have ft549 := (ltle cyJ509_8 kq513.1)
    have ft550 := (ltle cyJ509_15 kq513.1)
    exact LAl1 (nb.toInt - 0).toNat _ T513.heap _ (0 : Int32) X515 e515 O513 N513 K513 ft541 ft542 ft543 ft544 ft545 ft546 ft547 ft548 ft549 ft514 eq513 fq513_0 fq513_1 fq513_2 fq513_3 ft550 (by decide) (lp0 bb2)
   | succ fuel ih =>
    intro TJ509 hJ509 LJ509 i XJ509 eJ509 OJ509 NJ509 KJ509 cyJ509_0 cyJ509_1 cyJ509_2 cyJ509_3 cyJ509_4 cyJ509_5 cyJ509_6 cyJ509_7 cyJ509_8 cyJ509_9 cyJ509_10 cyJ509_11 cyJ509_12 cyJ509_13 cyJ509_14 cyJ509_15 hi0_LAl0 hi1_LAl0
    refine zil 41 XJ509 hx (D d14_39) rfl ?_
    refine zal 43 XJ509 hx (D d14_41) rfl rfl ?_
    refine gV 46 1 1 4 XJ509 NJ509 hx hZ (y := mq34) hown hml (ww hw 158 rfl) (ww hw 159 rfl) (ww hw 161 rfl) (ww hw 160 rfl) (rmSc l Z a0 hw [] l0 sa kA na ea hJ509 n0 OJ509 cyJ509_9.2.2.2.2.2.2.1 cyJ509_9.2.2.2.2.2.2.2.1 cyJ509_9.2.2.2.2.2.2.2.2.1) (ww hw 162 rfl) (ww hw 32 rfl) eJ509 cyJ509_9.2.2.2.2.2.2.1 [] [(.int i)] (lenOf pd___I rfl) (D d14_43) ?_
    rintro T551 L551 M551 _ X551 uu551 ⟨rfl, Nq551, kq551⟩
    have N551 := uu551 Nq551
    refine zsk [(.int na), (.int i)] ?_
    refine zcn 49 X551 hx (D d14_46) (tlt (lpS hi1_LAl0)).2.1 ?_
    refine zal 51 X551 hx (D d14_49) rfl rfl ?_
    refine zil 53 X551 hx (D d14_51) rfl ?_
    refine gV 56 0 1 4 X551 N551 hx hZ (y := mq35) hown hml (ww hw 163 rfl) (ww hw 164 rfl) (ww hw 166 rfl) (ww hw 165 rfl) (rmSa l Z a0 hw [] l0 sa kA na ea i hJ509 n0 OJ509 ln_sa al_sa (lpN hi0_LAl0) (lpS hi1_LAl0) cyJ509_9.2.2.2.2.2.2.1 cyJ509_9.2.2.2.2.2.2.2.1 cyJ509_9.2.2.2.2.2.2.2.2.1) (ww hw 167 rfl) (ww hw 32 rfl) kq551 cyJ509_9.2.2.2.2.2.2.1 [(.int i)] [] (lenOf pd__I_I rfl) (D d14_53) ?_
    rintro T552 L552 M552 _ X552 uu552 ⟨rfl, Nq552, kq552⟩
    have N552 := uu552 Nq552
    refine zsk [(.int 1)] ?_
    refine zin 57 X552 hx (D d14_56) rfl ?_
    refine zcy 81 X552 hx (D d14_57) (by decide) ?_
    refine zii 84 #[rv a1, iv 1, rv a2, iv 0, rv b503, rv l0, .val (.int (i + (1 : Int32))), .unset, .unset, .unset] X552 hx (D d14_81) rfl ?_
    refine zgo 39 X552 hx (D d14_84) ?_
    exact ih _ hJ509 _ (i + (1 : Int32)) X552 kq552 OJ509 N552 KJ509 cyJ509_0 cyJ509_1 cyJ509_2 cyJ509_3 cyJ509_4 cyJ509_5 cyJ509_6 cyJ509_7 cyJ509_8 cyJ509_9 cyJ509_10 cyJ509_11 cyJ509_12 cyJ509_13 cyJ509_14 cyJ509_15 (lpI hi0_LAl0 hi1_LAl0).1 (lpI hi0_LAl0 hi1_LAl0).2
  have ft553 := ((E_a1.keep kq503).keep kq506)
  have ft554 := ((F_a1_stopCount.keep kq503 nin0).keep kq506 (ninS ne_a1_b503 nin0))
  have ft555 := ((F_a1_lines.keep kq503 nin0).keep kq506 (ninS ne_a1_b503 nin0))
  have ft556 := ((F_a1_firstSegment.keep kq503 nin0).keep kq506 (ninS ne_a1_b503 nin0))
  have ft557 := ((F_a1_lineOfSegment.keep kq503 nin0).keep kq506 (ninS ne_a1_b503 nin0))
  have ft558 := ((F_a1_callStart.keep kq503 nin0).keep kq506 (ninS ne_a1_b503 nin0))
  have ft559 := ((F_a1_callLine.keep kq503 nin0).keep kq506 (ninS ne_a1_b503 nin0))
  have ft560 := ((F_a1_callPosition.keep kq503 nin0).keep kq506 (ninS ne_a1_b503 nin0))
  have ft561 := (ltle (ltle lt_a1 kq503.1) kq506.1)
  have ft562 := (ltle lt_b503 kq506.1)
  exact LAl0 (na.toInt - 0).toNat _ T506.heap _ (0 : Int32) X508 e508 O506 N506 K506 ft553 ft554 ft555 ft556 ft557 ft558 ft559 ft560 ft561 ft507 eq506 fq506_0 fq506_1 fq506_2 fq506_3 ft562 (by decide) (lp0 ba2)
theorem d38_0 : decode prog_23_method_9_code 0 = .ok (.iload_n 2, 1) := by decide +kernel
theorem d38_1 : decode prog_23_method_9_code 1 = .ok (.ifCond .ne 7, 3) := by decide +kernel
theorem d38_4 : decode prog_23_method_9_code 4 = .ok (.iconst (-1), 1) := by decide +kernel
theorem d38_5 : decode prog_23_method_9_code 5 = .ok (.goto 13, 3) := by decide +kernel
theorem d38_18 : decode prog_23_method_9_code 18 = .ok (.ireturn, 1) := by decide +kernel
set_option maxRecDepth 65536 in
set_option maxHeartbeats 40000000 in
theorem rmS9 (l : Launch) (Z : State) (a0 : Array Value) (hw : ∀ d ∈ tables_1, d.before a0 Z = true) (ws : List Jvm.Cond) (a1 : Addr) (q1 : Int32) (q2 : Int32) (h0 : Heap) (n0 : Nat) (O0 : Old Z n0 h0) (hq : q2 = (0 : Int32)) :
    Con l Z mq44 prog_23_method_9_code 3 (some .int) ws ({ frames := 0, cells := 0, slots := 0, locals := 0 } : Room) #[(.ref a1), (.int q1), (.int q2)] h0 (fun v h L => v = some (.int (-1)) ∧ Fr n0 L ∧ h = h0) := by
  refine own_body (plainFor_of_name pn_com_example_kinetic_city_kineticcity_engine_TransitNetwork) ?_
  intro p e s m below meth c s₁ hx hby hml hZ hown hnm hlk hret X0 e0
  have N0 := Fr.nil n0
  have D := @hb _ _ hby
  refine Go.st (T' := s₁) (f' := (mkF m 0 #[rv a1, iv q1, iv q2] [])) (fun _ k => castTop (by first | (simp [entryFrame, mkF, argsToLocals, Value.category]; done) | rfl) k) ?_
  refine zin 1 X0 hx (D d38_0) rfl ?_
  refine zfn 4 X0 hx (D d38_1) ((if0 _ _).trans (teq hq).2) ?_
  refine zic 5 (-1) X0 hx (D d38_4) ?_
  refine zgo 18 X0 hx (D d38_5) ?_
  refine Go.retV X0 hlk hx (t := .int) hret rfl (Or.inl ⟨rfl, Or.inl rfl, _, rfl⟩) (D d38_18) e0 ?_ (by decide) (by decide)
  exact ⟨rfl, N0, rfl⟩
theorem d38_8 : decode prog_23_method_9_code 8 = .ok (.aload_n 0, 1) := by decide +kernel
theorem d38_9 : decode prog_23_method_9_code 9 = .ok (.getfield 66, 3) := by decide +kernel
theorem d38_12 : decode prog_23_method_9_code 12 = .ok (.iload_n 1, 1) := by decide +kernel
theorem d38_13 : decode prog_23_method_9_code 13 = .ok (.iaload, 1) := by decide +kernel
theorem d38_14 : decode prog_23_method_9_code 14 = .ok (.iload_n 2, 1) := by decide +kernel
theorem d38_15 : decode prog_23_method_9_code 15 = .ok (.iadd, 1) := by decide +kernel
theorem d38_16 : decode prog_23_method_9_code 16 = .ok (.iconst 1, 1) := by decide +kernel
theorem d38_17 : decode prog_23_method_9_code 17 = .ok (.isub, 1) := by decide +kernel
set_option maxRecDepth 65536 in
set_option maxHeartbeats 40000000 in
theorem rmS0 (l : Launch) (Z : State) (a0 : Array Value) (hw : ∀ d ∈ tables_1, d.before a0 Z = true) (ws : List Jvm.Cond) (a1 : Addr) (q2 : Int32) (fs : Addr) (kf : ClassId) (u1 : Int32) (u2 : Int32) (u3 : Int32) (h0 : Heap) (n0 : Nat) (O0 : Old Z n0 h0) (hq : ¬ q2 = (0 : Int32)) (E_a1 : Exa Z h0 a1 "com/example/kinetic_city/kineticcity/engine/TransitNetwork") (F_a1_firstSegment : Fld Z h0 a1 "com/example/kinetic_city/kineticcity/engine/TransitNetwork" "firstSegment" "[I" (.ref fs)) (V_fs : Arv Z h0 fs kf .int 4 [(.int 0), (.int u1), (.int u2), (.int u3)] (.int 0)) :
    Con l Z mq44 prog_23_method_9_code 3 (some .int) ws ({ frames := 0, cells := 0, slots := 0, locals := 0 } : Room) #[(.ref a1), (.int 0), (.int q2)] h0 (fun v h L => v = some (.int (q2 - (1 : Int32))) ∧ Fr n0 L ∧ h = h0) := by
  refine own_body (plainFor_of_name pn_com_example_kinetic_city_kineticcity_engine_TransitNetwork) ?_
  intro p e s m below meth c s₁ hx hby hml hZ hown hnm hlk hret X0 e0
  have N0 := Fr.nil n0
  have D := @hb _ _ hby
  refine Go.st (T' := s₁) (f' := (mkF m 0 #[rv a1, iv 0, iv q2] [])) (fun _ k => castTop (by first | (simp [entryFrame, mkF, argsToLocals, Value.category]; done) | rfl) k) ?_
  have lt_a1 := E_a1.lt
  have lt_fs := V_fs.lt
  refine zin 1 X0 hx (D d38_0) rfl ?_
  refine zfy 8 X0 hx (D d38_1) ((if0 _ _).trans (feq hq).2) ?_
  refine zan 9 X0 hx (D d38_8) rfl rfl ?_
  refine zgf 12 X0 hx hZ hown (host := "") (Or.inl (ww hw 258 rfl)) Via.refl e0 F_a1_firstSegment (D d38_9) fun T1 X1 e1 => ?_
  refine zin 13 X1 hx (D d38_12) rfl ?_
  obtain ⟨cl2, Ar2, -, S2, -, H2, -⟩ := id V_fs
  have hin2 : ¬ ((0 : Int32) < 0 ∨ cl2.slots.size ≤ ((0 : Int32)).toNatClampNeg) := inb_of S2 ⟨by decide, by decide⟩
  have hat2 : cl2.slots[((0 : Int32)).toNatClampNeg]? = some (.int (0 : Int32)) := H2.at hin2 rfl
  refine Go.st (f' := (mkF m 14 #[rv a1, iv 0, iv q2] [(.int 0)])) (fun _ k => X1.iaload hx (j := (0 : Int32)) (v := (.int (0 : Int32))) (by rw [e1]; exact Ar2.1) (State.isArrayOf_alike hZ.alike Ar2.2.1) Ar2.2.2 hin2 hat2 (g := (mkF m 13 #[rv a1, iv 0, iv q2] [(.int 0), (.ref fs)])) rfl rfl (D d38_13) _ k) ?_
  refine zin 15 X1 hx (D d38_14) rfl ?_
  refine zad 16 X1 hx (D d38_15) ?_
  rw [Int32.zero_add q2]
  refine zic 17 1 X1 hx (D d38_16) ?_
  refine zsb 18 X1 hx (D d38_17) ?_
  refine Go.retV X1 hlk hx (t := .int) hret rfl (Or.inl ⟨rfl, Or.inl rfl, _, rfl⟩) (D d38_18) e1 ?_ (by decide) (by decide)
  exact ⟨rfl, N0, rfl⟩
set_option maxRecDepth 65536 in
set_option maxHeartbeats 40000000 in
theorem rmS1 (l : Launch) (Z : State) (a0 : Array Value) (hw : ∀ d ∈ tables_1, d.before a0 Z = true) (ws : List Jvm.Cond) (a1 : Addr) (q2 : Int32) (fs : Addr) (kf : ClassId) (u1 : Int32) (u2 : Int32) (u3 : Int32) (h0 : Heap) (n0 : Nat) (O0 : Old Z n0 h0) (hq : ¬ q2 = (0 : Int32)) (E_a1 : Exa Z h0 a1 "com/example/kinetic_city/kineticcity/engine/TransitNetwork") (F_a1_firstSegment : Fld Z h0 a1 "com/example/kinetic_city/kineticcity/engine/TransitNetwork" "firstSegment" "[I" (.ref fs)) (V_fs : Arv Z h0 fs kf .int 4 [(.int 0), (.int u1), (.int u2), (.int u3)] (.int 0)) :
    Con l Z mq44 prog_23_method_9_code 3 (some .int) ws ({ frames := 0, cells := 0, slots := 0, locals := 0 } : Room) #[(.ref a1), (.int 1), (.int q2)] h0 (fun v h L => v = some (.int ((u1 + q2) - (1 : Int32))) ∧ Fr n0 L ∧ h = h0) := by
  refine own_body (plainFor_of_name pn_com_example_kinetic_city_kineticcity_engine_TransitNetwork) ?_
  intro p e s m below meth c s₁ hx hby hml hZ hown hnm hlk hret X0 e0
  have N0 := Fr.nil n0
  have D := @hb _ _ hby
  refine Go.st (T' := s₁) (f' := (mkF m 0 #[rv a1, iv 1, iv q2] [])) (fun _ k => castTop (by first | (simp [entryFrame, mkF, argsToLocals, Value.category]; done) | rfl) k) ?_
  have lt_a1 := E_a1.lt
  have lt_fs := V_fs.lt
  refine zin 1 X0 hx (D d38_0) rfl ?_
  refine zfy 8 X0 hx (D d38_1) ((if0 _ _).trans (feq hq).2) ?_
  refine zan 9 X0 hx (D d38_8) rfl rfl ?_
  refine zgf 12 X0 hx hZ hown (host := "") (Or.inl (ww hw 258 rfl)) Via.refl e0 F_a1_firstSegment (D d38_9) fun T1 X1 e1 => ?_
  refine zin 13 X1 hx (D d38_12) rfl ?_
  obtain ⟨cl2, Ar2, -, S2, -, H2, -⟩ := id V_fs
  have hin2 : ¬ ((1 : Int32) < 0 ∨ cl2.slots.size ≤ ((1 : Int32)).toNatClampNeg) := inb_of S2 ⟨by decide, by decide⟩
  have hat2 : cl2.slots[((1 : Int32)).toNatClampNeg]? = some (.int u1) := H2.at hin2 rfl
  refine Go.st (f' := (mkF m 14 #[rv a1, iv 1, iv q2] [(.int u1)])) (fun _ k => X1.iaload hx (j := (1 : Int32)) (v := (.int u1)) (by rw [e1]; exact Ar2.1) (State.isArrayOf_alike hZ.alike Ar2.2.1) Ar2.2.2 hin2 hat2 (g := (mkF m 13 #[rv a1, iv 1, iv q2] [(.int 1), (.ref fs)])) rfl rfl (D d38_13) _ k) ?_
  refine zin 15 X1 hx (D d38_14) rfl ?_
  refine zad 16 X1 hx (D d38_15) ?_
  refine zic 17 1 X1 hx (D d38_16) ?_
  refine zsb 18 X1 hx (D d38_17) ?_
  refine Go.retV X1 hlk hx (t := .int) hret rfl (Or.inl ⟨rfl, Or.inl rfl, _, rfl⟩) (D d38_18) e1 ?_ (by decide) (by decide)
  exact ⟨rfl, N0, rfl⟩
set_option maxRecDepth 65536 in
set_option maxHeartbeats 40000000 in
theorem rmS2 (l : Launch) (Z : State) (a0 : Array Value) (hw : ∀ d ∈ tables_1, d.before a0 Z = true) (ws : List Jvm.Cond) (a1 : Addr) (q2 : Int32) (fs : Addr) (kf : ClassId) (u1 : Int32) (u2 : Int32) (u3 : Int32) (h0 : Heap) (n0 : Nat) (O0 : Old Z n0 h0) (hq : ¬ q2 = (0 : Int32)) (E_a1 : Exa Z h0 a1 "com/example/kinetic_city/kineticcity/engine/TransitNetwork") (F_a1_firstSegment : Fld Z h0 a1 "com/example/kinetic_city/kineticcity/engine/TransitNetwork" "firstSegment" "[I" (.ref fs)) (V_fs : Arv Z h0 fs kf .int 4 [(.int 0), (.int u1), (.int u2), (.int u3)] (.int 0)) :
    Con l Z mq44 prog_23_method_9_code 3 (some .int) ws ({ frames := 0, cells := 0, slots := 0, locals := 0 } : Room) #[(.ref a1), (.int 2), (.int q2)] h0 (fun v h L => v = some (.int ((u2 + q2) - (1 : Int32))) ∧ Fr n0 L ∧ h = h0) := by
  refine own_body (plainFor_of_name pn_com_example_kinetic_city_kineticcity_engine_TransitNetwork) ?_
  intro p e s m below meth c s₁ hx hby hml hZ hown hnm hlk hret X0 e0
  have N0 := Fr.nil n0
  have D := @hb _ _ hby
  refine Go.st (T' := s₁) (f' := (mkF m 0 #[rv a1, iv 2, iv q2] [])) (fun _ k => castTop (by first | (simp [entryFrame, mkF, argsToLocals, Value.category]; done) | rfl) k) ?_
  have lt_a1 := E_a1.lt
  have lt_fs := V_fs.lt
  refine zin 1 X0 hx (D d38_0) rfl ?_
  refine zfy 8 X0 hx (D d38_1) ((if0 _ _).trans (feq hq).2) ?_
  refine zan 9 X0 hx (D d38_8) rfl rfl ?_
  refine zgf 12 X0 hx hZ hown (host := "") (Or.inl (ww hw 258 rfl)) Via.refl e0 F_a1_firstSegment (D d38_9) fun T1 X1 e1 => ?_
  refine zin 13 X1 hx (D d38_12) rfl ?_
  obtain ⟨cl2, Ar2, -, S2, -, H2, -⟩ := id V_fs
  have hin2 : ¬ ((2 : Int32) < 0 ∨ cl2.slots.size ≤ ((2 : Int32)).toNatClampNeg) := inb_of S2 ⟨by decide, by decide⟩
  have hat2 : cl2.slots[((2 : Int32)).toNatClampNeg]? = some (.int u2) := H2.at hin2 rfl
  refine Go.st (f' := (mkF m 14 #[rv a1, iv 2, iv q2] [(.int u2)])) (fun _ k => X1.iaload hx (j := (2 : Int32)) (v := (.int u2)) (by rw [e1]; exact Ar2.1) (State.isArrayOf_alike hZ.alike Ar2.2.1) Ar2.2.2 hin2 hat2 (g := (mkF m 13 #[rv a1, iv 2, iv q2] [(.int 2), (.ref fs)])) rfl rfl (D d38_13) _ k) ?_
  refine zin 15 X1 hx (D d38_14) rfl ?_
  refine zad 16 X1 hx (D d38_15) ?_
  refine zic 17 1 X1 hx (D d38_16) ?_
  refine zsb 18 X1 hx (D d38_17) ?_
  refine Go.retV X1 hlk hx (t := .int) hret rfl (Or.inl ⟨rfl, Or.inl rfl, _, rfl⟩) (D d38_18) e1 ?_ (by decide) (by decide)
  exact ⟨rfl, N0, rfl⟩
theorem own_b3 (x : Int32) : 2 ≤ ((2 : Int32) + (x &&& (3 : Int32))).toInt ∧ ((2 : Int32) + (x &&& (3 : Int32))).toInt ≤ 5 := by
  have m := c_and x 3 (by decide)
  have a := c_iadd 2 (x &&& (3 : Int32))
  have r := rng32 ((2 : Int32) + (x &&& (3 : Int32)))
  have e1 : (2 : Int32).toInt = 2 := by decide
  have e2 : (3 : Int32).toInt = 3 := by decide
  omega
theorem own_l3 (x : Int32) : ((x &&& (2147483647 : Int32)) % (3 : Int32)) = (0 : Int32) ∨ ((x &&& (2147483647 : Int32)) % (3 : Int32)) = (1 : Int32) ∨ ((x &&& (2147483647 : Int32)) % (3 : Int32)) = (2 : Int32) := by
  have m := (c_and x 2147483647 (by decide)).1
  have e3 : (3 : Int32).toInt = 3 := by decide
  have q := (c_iremV (x &&& 2147483647) 3).1 m (by omega)
  have e0 : (0 : Int32).toInt = 0 := by decide
  have e1 : (1 : Int32).toInt = 1 := by decide
  have e2 : (2 : Int32).toInt = 2 := by decide
  rw [← Int32.toInt_inj, ← Int32.toInt_inj, ← Int32.toInt_inj]
  omega
theorem own_nz {n : Int32} (h : 2 ≤ n.toInt) : n ≠ 0 := fun e => by
  subst e; have e0 : (0 : Int32).toInt = 0 := by decide
  omega
theorem own_e2 {a b q : Int32} : (((((a - (1 : Int32)) + b) - (1 : Int32)) + q) - (1 : Int32)) = ((((a - (1 : Int32)) + (b - (1 : Int32))) + q) - (1 : Int32)) := by
  have h : (((a - (1 : Int32)) + b) - (1 : Int32)) = ((a - (1 : Int32)) + (b - (1 : Int32))) := by
    simp only [Int32.sub_eq_add_neg, Int32.add_assoc]
  rw [h]
theorem pd__I_Lcom_example_kinetic_city_kineticcity_engine_TransitLine_ : parseMethodDescriptor "(I)Lcom/example/kinetic_city/kineticcity/engine/TransitLine;" = some ⟨[.int], some (.object "com/example/kinetic_city/kineticcity/engine/TransitLine")⟩ := by decide +kernel
theorem pd__Ljava_lang_Object__Z : parseMethodDescriptor "(Ljava/lang/Object;)Z" = some ⟨[(.object "java/lang/Object")], some .boolean⟩ := by decide +kernel
theorem pd__ILjava_util_List__V : parseMethodDescriptor "(ILjava/util/List;)V" = some ⟨[.int, (.object "java/util/List")], none⟩ := by decide +kernel
set_option maxRecDepth 65536 in
set_option maxHeartbeats 40000000 in
theorem rm0 (l : Launch) (Z : State) (a0 : Array Value) (hw : ∀ d ∈ tables_1, d.before a0 Z = true) (ws : List Jvm.Cond) (p1 : Int32) (p2 : Int32) (p3 : Int32) (p4 : Int32) (p5 : Int32) (mir_0 : Addr) (mir_1 : Addr) (mir_2 : Addr) (mir_3 : Addr) (wE : Addr) (wD : Addr) (kE : ClassId) (kD : ClassId) (h0 : Heap) (n0 : Nat) (O0 : Old Z n0 h0) (WW : World1 Z mir_0 mir_1 mir_2 mir_3 wE wD kE kD) :
    MetFree l x (head1 (Jvm.Cond.code x code maxLocals ret :: ws) room_1) (fun a U => a = #[(.int p1), (.int p2), (.int p3), (.int p4), (.int p5)] ∧ Z.Warmed39 U.vm ∧ U.heap = h0) (fun _ _ _ _ _ => True) (fun _ U o U' => ∃ v L, o = .returned v ∧ (fun v h L => v = some (.int (1 : Int32)) ∧ Fr n0 L) v U'.heap L ∧ FrameEnd U o U' L 72 384) := by
  refine MetFree.of_bodySF (plainFor_of_name pn_com_example_kinetic_city_kineticcity_engine_TransitNetworkArrivingSegmentPinLaw) hisR ?_
  intro p e s m args below meth c s₁ Bd hml0 hP hK
  obtain ⟨rfl, hZ, hh⟩ := hP
  have hx := Bd.exec
  have hby := Bd.bytes
  have hml : c.maxLocals = 15 := hml0
  have hlk := Bd.notSynchronized
  have hret := Bd.returns
  have hown : s.vm.findClass "com/example/kinetic_city/kineticcity/engine/TransitNetworkArrivingSegmentPinLaw" = some m.cls := findClass_of_methodNamed Bd.named
  have hnm := (name_of_methodNamed Bd.named Bd.method).1
  have X0 : Stand p l e room_1 s m #[(.int p1), (.int p2), (.int p3), (.int p4), (.int p5)] below meth c s₁ [] 0 0 := Stand.of_body Bd
  have e0 : s₁.heap = h0 := by rw [← hh, Bd.state]; rfl
  show Go p e below (Done s (fun v h L => v = some (.int (1 : Int32)) ∧ Fr n0 L) 72 384) s₁ _
  have N0 := Fr.nil n0
  have D := @hb _ _ hby
  refine Go.st (T' := s₁) (f' := (mkF m 0 #[iv p1, iv p2, iv p3, iv p4, iv p5, .unset, .unset, .unset, .unset, .unset, .unset, .unset, .unset, .unset, .unset] [])) (fun _ k => castTop (by first | (simp [entryFrame, mkF, argsToLocals, Value.category, maxLocals]; done) | rfl) k) ?_
  have ⟨M_0, M_1, M_2, M_3, S_wE, E_wE, S_wD, E_wD, V_wE, V_wD⟩ := WW
  have lt_wE := E_wE.lt
  have lt_wD := E_wD.lt
  refine zic 1 2 X0 hx (D at_0) ?_
  refine zin 2 X0 hx (D at_1) rfl ?_
  refine zic 3 3 X0 hx (D at_2) ?_
  refine Go.st (f' := (mkF m 4 #[iv p1, iv p2, iv p3, iv p4, iv p5, .unset, .unset, .unset, .unset, .unset, .unset, .unset, .unset, .unset, .unset] [(.int (p1 &&& (3 : Int32))), (.int 2)])) (fun _ k => XS.iand X0.here hx rfl (D at_3) rfl k) ?_
  refine zad 5 X0 hx (D at_4) ?_
  obtain ⟨yy1, hyy1⟩ : ∃ z, z = ((2 : Int32) + (p1 &&& (3 : Int32))) := ⟨_, rfl⟩
  rw [← hyy1]
  have byy1 := own_b3 p1
  rw [← hyy1] at byy1
  refine zsl 7 #[iv p1, iv p2, iv p3, iv p4, iv p5, iv yy1, .unset, .unset, .unset, .unset, .unset, .unset, .unset, .unset, .unset] X0 hx (D at_5) ?_
  refine zic 8 2 X0 hx (D at_7) ?_
  refine zin 9 X0 hx (D at_8) rfl ?_
  refine zic 10 3 X0 hx (D at_9) ?_
  refine Go.st (f' := (mkF m 11 #[iv p1, iv p2, iv p3, iv p4, iv p5, iv yy1, .unset, .unset, .unset, .unset, .unset, .unset, .unset, .unset, .unset] [(.int (p2 &&& (3 : Int32))), (.int 2)])) (fun _ k => XS.iand X0.here hx rfl (D at_10) rfl k) ?_
  refine zad 12 X0 hx (D at_11) ?_
  obtain ⟨yy2, hyy2⟩ : ∃ z, z = ((2 : Int32) + (p2 &&& (3 : Int32))) := ⟨_, rfl⟩
  rw [← hyy2]
  have byy2 := own_b3 p2
  rw [← hyy2] at byy2
  refine zsl 14 #[iv p1, iv p2, iv p3, iv p4, iv p5, iv yy1, iv yy2, .unset, .unset, .unset, .unset, .unset, .unset, .unset, .unset] X0 hx (D at_12) ?_
  refine zic 15 2 X0 hx (D at_14) ?_
  refine zin 16 X0 hx (D at_15) rfl ?_
  refine zic 17 3 X0 hx (D at_16) ?_
  refine Go.st (f' := (mkF m 18 #[iv p1, iv p2, iv p3, iv p4, iv p5, iv yy1, iv yy2, .unset, .unset, .unset, .unset, .unset, .unset, .unset, .unset] [(.int (p3 &&& (3 : Int32))), (.int 2)])) (fun _ k => XS.iand X0.here hx rfl (D at_17) rfl k) ?_
  refine zad 19 X0 hx (D at_18) ?_
  obtain ⟨yy3, hyy3⟩ : ∃ z, z = ((2 : Int32) + (p3 &&& (3 : Int32))) := ⟨_, rfl⟩
  rw [← hyy3]
  have byy3 := own_b3 p3
  rw [← hyy3] at byy3
  refine zsl 21 #[iv p1, iv p2, iv p3, iv p4, iv p5, iv yy1, iv yy2, iv yy3, .unset, .unset, .unset, .unset, .unset, .unset, .unset] X0 hx (D at_19) ?_
  obtain ⟨T4, h4, X4, e4, E4, A4, D4, -, st4⟩ := newO X0 hx hZ hown (ww hw 0 rfl) (ww hw 1 rfl) (ww hw 2 rfl) e0 (g := (mkF m 21 #[iv p1, iv p2, iv p3, iv p4, iv p5, iv yy1, iv yy2, iv yy3, .unset, .unset, .unset, .unset, .unset, .unset, .unset] [])) rfl (D at_21) (by decide) (by decide)
  obtain ⟨b4, g4⟩ : ∃ z, z = h0.size := ⟨_, rfl⟩
  rw [← g4] at A4 D4 st4
  have ne_wE_b4 : wE ≠ b4 := Nat.ne_of_lt (ltle lt_wE (Nat.le_trans O0.2.1 (Nat.le_of_eq g4.symm)))
  have ne_wD_b4 : wD ≠ b4 := Nat.ne_of_lt (ltle lt_wD (Nat.le_trans O0.2.1 (Nat.le_of_eq g4.symm)))
  have g_b4 : n0 ≤ b4 := Nat.le_trans (O0.1 ▸ O0.2.1) (Nat.le_of_eq g4.symm)
  have O4 : Old Z n0 h4 := O0.ext E4
  have lt_b4 := A4.lt
  have F_modCount_b4 : Fld Z h4 b4 "java/util/AbstractList" "modCount" "I" (.int (0 : Int32)) := D4 (Or.inl (ww hw 22 rfl)) (ty := .int) (by decide)
  have F_elementData_b4 : Fld Z h4 b4 "java/util/ArrayList" "elementData" "[Ljava/lang/Object;" .null := D4 (Or.inl (ww hw 25 rfl)) (ty := (.array (.object "java/lang/Object"))) (by decide)
  have F_size_b4 : Fld Z h4 b4 "java/util/ArrayList" "size" "I" (.int (0 : Int32)) := D4 (Or.inl (ww hw 77 rfl)) (ty := .int) (by decide)
  refine zst 24 #[iv p1, iv p2, iv p3, iv p4, iv p5, iv yy1, iv yy2, iv yy3, .unset, .unset, .unset, .unset, .unset, .unset, .unset] [(.ref b4)] st4 ?_
  refine Go.st (f' := (mkF m 25 #[iv p1, iv p2, iv p3, iv p4, iv p5, iv yy1, iv yy2, iv yy3, .unset, .unset, .unset, .unset, .unset, .unset, .unset] [(.ref b4), (.ref b4)])) (fun _ k => XS.dup X4.here hx rfl (D at_24) rfl rfl k) ?_
  obtain ⟨_, _, ⟨T5, L5, kk5, nn5⟩, -, X5, ⟨Lc5, hQ5, lq5, yq5, zz5⟩, st5⟩ := X4.specialBack hx (y := mq6) rfl hown (mvT hZ (ww hw 3 rfl)) (mvT hZ (ww hw 4 rfl)) (mvT hZ (ww hw 5 rfl)) (by decide) (own_back (W := 1) (rmAL l Z a0 hw [] b4 mir_0 mir_1 mir_2 mir_3 wE wD kE kD h4 n0 O4 g_b4 A4 F_modCount_b4 F_elementData_b4 F_size_b4 WW) hZ (ww hw 5 rfl) (ww hw 2 rfl) (by decide) (by decide)) (g := (mkF m 25 #[iv p1, iv p2, iv p3, iv p4, iv p5, iv yy1, iv yy2, iv yy3, .unset, .unset, .unset, .unset, .unset, .unset, .unset] [(.ref b4), (.ref b4)])) rfl (by rw [hml]; rfl) (Steps.refl _) (a := b4) (argsL := []) (rest := [(.ref b4)]) (lenOf pd___V rfl) rfl (by show 2 * 0 + _ ≤ _; exact Nat.le_of_eq rfl) (D at_25) (fun _ _ => ⟨rfl, e4, (by decide : 1 + 0 ≤ _), (by decide : 3 + 0 ≤ _)⟩)
  dsimp only [Pt.U, Pt.locs, Pt.cells, Pt.slots] at X5 lq5 yq5 zz5 st5 hQ5
  subst lq5 yq5 zz5
  obtain ⟨rfl, Nq5, kq5, eq5, fq5_0, fq5_1, fq5_2⟩ := hQ5
  have N5 := Fr.app N0 Nq5
  have O5 : Old Z n0 T5.heap := O4.keep kq5 (allS g_b4 all0)
  refine Go.tr (f' := (mkF m 28 #[iv p1, iv p2, iv p3, iv p4, iv p5, iv yy1, iv yy2, iv yy3, .unset, .unset, .unset, .unset, .unset, .unset, .unset] [(.ref b4)])) st5 ?_
  refine zrl 30 #[iv p1, iv p2, iv p3, iv p4, iv p5, iv yy1, iv yy2, iv yy3, rv b4, .unset, .unset, .unset, .unset, .unset, .unset] X5 hx (D at_28) rfl ?_
  refine zal 32 X5 hx (D at_30) rfl rfl ?_
  refine zil 34 X5 hx (D at_32) rfl ?_
  refine gS 37 1 6 24 X5 N5 hx hZ (y := mq3) hown hml (ww hw 26 rfl) (ww hw 27 rfl) (ww hw 28 rfl) (rmML l Z a0 hw [] yy1 T5.heap n0 O5 byy1.1 byy1.2) (ww hw 29 rfl) rfl [(.int yy1)] [(.ref b4)] (lenOf pd__I_Lcom_example_kinetic_city_kineticcity_engine_TransitLine_ rfl) (D at_34) ?_
  rintro T6 L6 M6 _ X6 uu6 ⟨b6, tt6, ks6, es6, rfl, Nq6, zb6, zs6, kq6, eq6, fq6, vq6, ln6, al6⟩
  have N6 := uu6 Nq6
  have ft7 := (ltle lt_b4 kq5.1)
  have ne_b4_b6 : b4 ≠ b6 := Nat.ne_of_lt (ltle ft7 zb6)
  have ne_wE_b6 : wE ≠ b6 := Nat.ne_of_lt (ltle lt_wE (Nat.le_trans O5.2.1 zb6))
  have ne_wD_b6 : wD ≠ b6 := Nat.ne_of_lt (ltle lt_wD (Nat.le_trans O5.2.1 zb6))
  have g_b6 : n0 ≤ b6 := Nat.le_trans (O5.1 ▸ O5.2.1) zb6
  have ne_b4_tt6 : b4 ≠ tt6 := Nat.ne_of_lt (ltle ft7 zs6)
  have ne_wE_tt6 : wE ≠ tt6 := Nat.ne_of_lt (ltle lt_wE (Nat.le_trans O5.2.1 zs6))
  have ne_wD_tt6 : wD ≠ tt6 := Nat.ne_of_lt (ltle lt_wD (Nat.le_trans O5.2.1 zs6))
  have g_tt6 : n0 ≤ tt6 := Nat.le_trans (O5.1 ▸ O5.2.1) zs6
  have O6 : Old Z n0 T6.heap := O5.keep kq6 all0
  have lt_b6 := eq6.lt
  have lt_tt6 := vq6.lt
  refine zsk [(.ref b6), (.ref b4)] ?_
  have ft9 := (eq5.keep kq6)
  have ft10 := (fq5_0.keep kq6 nin0)
  have ft11 := (fq5_1.keep kq6 nin0)
  have ft12 := (fq5_2.keep kq6 nin0)
  refine gV 40 0 7 34 X6 N6 hx hZ (y := mq12) hown hml (ww hw 69 rfl) (ww hw 70 rfl) (ww hw 72 rfl) (ww hw 71 rfl) (rmA1_0 l Z a0 hw [] b4 b6   mir_0 mir_1 mir_2 mir_3 wE wD kE kD T6.heap n0 O6 g_b4 eq6 ft9 ft10 ft11 ft12  WW) (ww hw 73 rfl) (ww hw 2 rfl) rfl ft9 [(.ref b6)] [] (lenOf pd__Ljava_lang_Object__Z rfl) (D at_37) ?_
  rintro T8 L8 M8 _ X8 uu8 ⟨rfl, Nq8, kq8, ed8, ke8, zq8, eq8, mq8, dq8, sq8, ov8, xq8, vq8⟩
  have N8 := uu8 Nq8
  have ft13 := (ltle ft7 kq6.1)
  have ne_b4_ed8 : b4 ≠ ed8 := Nat.ne_of_lt (ltle ft13 zq8)
  have ne_b6_ed8 : b6 ≠ ed8 := Nat.ne_of_lt (ltle lt_b6 zq8)
  have ne_tt6_ed8 : tt6 ≠ ed8 := Nat.ne_of_lt (ltle lt_tt6 zq8)
  have ne_wE_ed8 : wE ≠ ed8 := Nat.ne_of_lt (ltle lt_wE (Nat.le_trans O6.2.1 zq8))
  have ne_wD_ed8 : wD ≠ ed8 := Nat.ne_of_lt (ltle lt_wD (Nat.le_trans O6.2.1 zq8))
  have g_ed8 : n0 ≤ ed8 := Nat.le_trans (O6.1 ▸ O6.2.1) zq8
  have O8 : Old Z n0 T8.heap := O6.keep kq8 (allS g_b4 all0)
  have lt_ed8 := vq8.lt
  refine zsk [(.int 1)] ?_
  refine Go.st (f' := (mkF m 41 #[iv p1, iv p2, iv p3, iv p4, iv p5, iv yy1, iv yy2, iv yy3, rv b4, .unset, .unset, .unset, .unset, .unset, .unset] [])) (fun _ k => XS.pop X8.here hx rfl (D at_40) rfl rfl k) ?_
  refine zal 43 X8 hx (D at_41) rfl rfl ?_
  refine zil 45 X8 hx (D at_43) rfl ?_
  refine gS 48 1 12 55 X8 N8 hx hZ (y := mq3) hown hml (ww hw 26 rfl) (ww hw 27 rfl) (ww hw 28 rfl) (rmML l Z a0 hw [] yy2 T8.heap n0 O8 byy2.1 byy2.2) (ww hw 29 rfl) rfl [(.int yy2)] [(.ref b4)] (lenOf pd__I_Lcom_example_kinetic_city_kineticcity_engine_TransitLine_ rfl) (D at_45) ?_
  rintro T14 L14 M14 _ X14 uu14 ⟨b14, tt14, ks14, es14, rfl, Nq14, zb14, zs14, kq14, eq14, fq14, vq14, ln14, al14⟩
  have N14 := uu14 Nq14
  have ft15 := (ltle ft13 kq8.1)
  have ne_b4_b14 : b4 ≠ b14 := Nat.ne_of_lt (ltle ft15 zb14)
  have ft16 := (ltle lt_b6 kq8.1)
  have ne_b6_b14 : b6 ≠ b14 := Nat.ne_of_lt (ltle ft16 zb14)
  have ft17 := (ltle lt_tt6 kq8.1)
  have ne_tt6_b14 : tt6 ≠ b14 := Nat.ne_of_lt (ltle ft17 zb14)
  have ne_ed8_b14 : ed8 ≠ b14 := Nat.ne_of_lt (ltle lt_ed8 zb14)
  have ne_wE_b14 : wE ≠ b14 := Nat.ne_of_lt (ltle lt_wE (Nat.le_trans O8.2.1 zb14))
  have ne_wD_b14 : wD ≠ b14 := Nat.ne_of_lt (ltle lt_wD (Nat.le_trans O8.2.1 zb14))
  have g_b14 : n0 ≤ b14 := Nat.le_trans (O8.1 ▸ O8.2.1) zb14
  have ne_b4_tt14 : b4 ≠ tt14 := Nat.ne_of_lt (ltle ft15 zs14)
  have ne_b6_tt14 : b6 ≠ tt14 := Nat.ne_of_lt (ltle ft16 zs14)
  have ne_tt6_tt14 : tt6 ≠ tt14 := Nat.ne_of_lt (ltle ft17 zs14)
  have ne_ed8_tt14 : ed8 ≠ tt14 := Nat.ne_of_lt (ltle lt_ed8 zs14)
  have ne_wE_tt14 : wE ≠ tt14 := Nat.ne_of_lt (ltle lt_wE (Nat.le_trans O8.2.1 zs14))
  have ne_wD_tt14 : wD ≠ tt14 := Nat.ne_of_lt (ltle lt_wD (Nat.le_trans O8.2.1 zs14))
  have g_tt14 : n0 ≤ tt14 := Nat.le_trans (O8.1 ▸ O8.2.1) zs14
  have O14 : Old Z n0 T14.heap := O8.keep kq14 all0
  have lt_b14 := eq14.lt
  have lt_tt14 := vq14.lt
  refine zsk [(.ref b14), (.ref b4)] ?_
  have ft19 := (eq8.keep kq14)
  have ft20 := (mq8.keep kq14 nin0)
  have ft21 := (dq8.keep kq14 nin0)
  have ft22 := (sq8.keep kq14 nin0)
  have ft23 := (xq8.keep kq14)
  have ft24 := (vq8.keep kq14 nin0)
  refine gV 51 0 12 55 X14 N14 hx hZ (y := mq12) hown hml (ww hw 69 rfl) (ww hw 70 rfl) (ww hw 72 rfl) (ww hw 71 rfl) (rmA1_1 l Z a0 hw [] b4 b14 b6 ed8 ke8 mir_0 mir_1 mir_2 mir_3 wE wD kE kD T14.heap n0 O14 g_b4 eq14 ft19 ft20 ft21 ft22 g_ed8 ov8 ft23 ft24 WW) (ww hw 73 rfl) (ww hw 2 rfl) rfl ft19 [(.ref b14)] [] (lenOf pd__Ljava_lang_Object__Z rfl) (D at_48) ?_
  rintro T18 L18 M18 _ X18 uu18 ⟨rfl, Nq18, kq18, eq18, mq18, dq18, sq18, ov18, xq18, vq18⟩
  have N18 := uu18 Nq18
  have O18 : Old Z n0 T18.heap := O14.keep kq18 (allS g_b4 (allS g_ed8 all0))
  refine zsk [(.int 1)] ?_
  refine Go.st (f' := (mkF m 52 #[iv p1, iv p2, iv p3, iv p4, iv p5, iv yy1, iv yy2, iv yy3, rv b4, .unset, .unset, .unset, .unset, .unset, .unset] [])) (fun _ k => XS.pop X18.here hx rfl (D at_51) rfl rfl k) ?_
  refine zal 54 X18 hx (D at_52) rfl rfl ?_
  refine zil 56 X18 hx (D at_54) rfl ?_
  refine gS 59 1 17 76 X18 N18 hx hZ (y := mq3) hown hml (ww hw 26 rfl) (ww hw 27 rfl) (ww hw 28 rfl) (rmML l Z a0 hw [] yy3 T18.heap n0 O18 byy3.1 byy3.2) (ww hw 29 rfl) rfl [(.int yy3)] [(.ref b4)] (lenOf pd__I_Lcom_example_kinetic_city_kineticcity_engine_TransitLine_ rfl) (D at_56) ?_
  rintro T25 L25 M25 _ X25 uu25 ⟨b25, tt25, ks25, es25, rfl, Nq25, zb25, zs25, kq25, eq25, fq25, vq25, ln25, al25⟩
  have N25 := uu25 Nq25
  have ft26 := (ltle (ltle ft15 kq14.1) kq18.1)
  have ne_b4_b25 : b4 ≠ b25 := Nat.ne_of_lt (ltle ft26 zb25)
  have ft27 := (ltle (ltle ft16 kq14.1) kq18.1)
  have ne_b6_b25 : b6 ≠ b25 := Nat.ne_of_lt (ltle ft27 zb25)
  have ft28 := (ltle (ltle ft17 kq14.1) kq18.1)
  have ne_tt6_b25 : tt6 ≠ b25 := Nat.ne_of_lt (ltle ft28 zb25)
  have ft29 := (ltle (ltle lt_ed8 kq14.1) kq18.1)
  have ne_ed8_b25 : ed8 ≠ b25 := Nat.ne_of_lt (ltle ft29 zb25)
  have ft30 := (ltle lt_b14 kq18.1)
  have ne_b14_b25 : b14 ≠ b25 := Nat.ne_of_lt (ltle ft30 zb25)
  have ft31 := (ltle lt_tt14 kq18.1)
  have ne_tt14_b25 : tt14 ≠ b25 := Nat.ne_of_lt (ltle ft31 zb25)
  have ne_wE_b25 : wE ≠ b25 := Nat.ne_of_lt (ltle lt_wE (Nat.le_trans O18.2.1 zb25))
  have ne_wD_b25 : wD ≠ b25 := Nat.ne_of_lt (ltle lt_wD (Nat.le_trans O18.2.1 zb25))
  have g_b25 : n0 ≤ b25 := Nat.le_trans (O18.1 ▸ O18.2.1) zb25
  have ne_b4_tt25 : b4 ≠ tt25 := Nat.ne_of_lt (ltle ft26 zs25)
  have ne_b6_tt25 : b6 ≠ tt25 := Nat.ne_of_lt (ltle ft27 zs25)
  have ne_tt6_tt25 : tt6 ≠ tt25 := Nat.ne_of_lt (ltle ft28 zs25)
  have ne_ed8_tt25 : ed8 ≠ tt25 := Nat.ne_of_lt (ltle ft29 zs25)
  have ne_b14_tt25 : b14 ≠ tt25 := Nat.ne_of_lt (ltle ft30 zs25)
  have ne_tt14_tt25 : tt14 ≠ tt25 := Nat.ne_of_lt (ltle ft31 zs25)
  have ne_wE_tt25 : wE ≠ tt25 := Nat.ne_of_lt (ltle lt_wE (Nat.le_trans O18.2.1 zs25))
  have ne_wD_tt25 : wD ≠ tt25 := Nat.ne_of_lt (ltle lt_wD (Nat.le_trans O18.2.1 zs25))
  have g_tt25 : n0 ≤ tt25 := Nat.le_trans (O18.1 ▸ O18.2.1) zs25
  have O25 : Old Z n0 T25.heap := O18.keep kq25 all0
  have lt_b25 := eq25.lt
  have lt_tt25 := vq25.lt
  refine zsk [(.ref b25), (.ref b4)] ?_
  have ft33 := (eq18.keep kq25)
  have ft34 := (mq18.keep kq25 nin0)
  have ft35 := (dq18.keep kq25 nin0)
  have ft36 := (sq18.keep kq25 nin0)
  have ft37 := (xq18.keep kq25)
  have ft38 := (vq18.keep kq25 nin0)
  refine gV 62 0 17 76 X25 N25 hx hZ (y := mq12) hown hml (ww hw 69 rfl) (ww hw 70 rfl) (ww hw 72 rfl) (ww hw 71 rfl) (rmA1_2 l Z a0 hw [] b4 b25 b6 b14 ed8 ke8 mir_0 mir_1 mir_2 mir_3 wE wD kE kD T25.heap n0 O25 g_b4 eq25 ft33 ft34 ft35 ft36 g_ed8 ov18 ft37 ft38 WW) (ww hw 73 rfl) (ww hw 2 rfl) rfl ft33 [(.ref b25)] [] (lenOf pd__Ljava_lang_Object__Z rfl) (D at_59) ?_
  rintro T32 L32 M32 _ X32 uu32 ⟨rfl, Nq32, kq32, eq32, mq32, dq32, sq32, ov32, xq32, vq32⟩
  have N32 := uu32 Nq32
  have O32 : Old Z n0 T32.heap := O25.keep kq32 (allS g_b4 (allS g_ed8 all0))
  refine zsk [(.int 1)] ?_
  refine Go.st (f' := (mkF m 63 #[iv p1, iv p2, iv p3, iv p4, iv p5, iv yy1, iv yy2, iv yy3, rv b4, .unset, .unset, .unset, .unset, .unset, .unset] [])) (fun _ k => XS.pop X32.here hx rfl (D at_62) rfl rfl k) ?_
  obtain ⟨T39, h39, X39, e39, E39, A39, D39, -, st39⟩ := newO X32 hx hZ hown (ww hw 99 rfl) (ww hw 100 rfl) (ww hw 101 rfl) rfl (g := (mkF m 63 #[iv p1, iv p2, iv p3, iv p4, iv p5, iv yy1, iv yy2, iv yy3, rv b4, .unset, .unset, .unset, .unset, .unset, .unset] [])) rfl (D at_63) (by decide) (by decide)
  obtain ⟨b39, g39⟩ : ∃ z, z = T32.heap.size := ⟨_, rfl⟩
  rw [← g39] at A39 D39 st39
  have ft40 := (ltle (ltle ft26 kq25.1) kq32.1)
  have ne_b4_b39 : b4 ≠ b39 := Nat.ne_of_lt (lteq ft40 g39.symm)
  have ft41 := (ltle (ltle ft27 kq25.1) kq32.1)
  have ne_b6_b39 : b6 ≠ b39 := Nat.ne_of_lt (lteq ft41 g39.symm)
  have ft42 := (ltle (ltle ft28 kq25.1) kq32.1)
  have ne_tt6_b39 : tt6 ≠ b39 := Nat.ne_of_lt (lteq ft42 g39.symm)
  have ft43 := (ltle (ltle ft29 kq25.1) kq32.1)
  have ne_ed8_b39 : ed8 ≠ b39 := Nat.ne_of_lt (lteq ft43 g39.symm)
  have ft44 := (ltle (ltle ft30 kq25.1) kq32.1)
  have ne_b14_b39 : b14 ≠ b39 := Nat.ne_of_lt (lteq ft44 g39.symm)
  have ft45 := (ltle (ltle ft31 kq25.1) kq32.1)
  have ne_tt14_b39 : tt14 ≠ b39 := Nat.ne_of_lt (lteq ft45 g39.symm)
  have ft46 := (ltle lt_b25 kq32.1)
  have ne_b25_b39 : b25 ≠ b39 := Nat.ne_of_lt (lteq ft46 g39.symm)
  have ft47 := (ltle lt_tt25 kq32.1)
  have ne_tt25_b39 : tt25 ≠ b39 := Nat.ne_of_lt (lteq ft47 g39.symm)
  have ne_wE_b39 : wE ≠ b39 := Nat.ne_of_lt (ltle lt_wE (Nat.le_trans O32.2.1 (Nat.le_of_eq g39.symm)))
  have ne_wD_b39 : wD ≠ b39 := Nat.ne_of_lt (ltle lt_wD (Nat.le_trans O32.2.1 (Nat.le_of_eq g39.symm)))
  have g_b39 : n0 ≤ b39 := Nat.le_trans (O32.1 ▸ O32.2.1) (Nat.le_of_eq g39.symm)
  have O39 : Old Z n0 h39 := O32.ext E39
  have lt_b39 := A39.lt
  have F_stopCount_b39 : Fld Z h39 b39 "com/example/kinetic_city/kineticcity/engine/TransitNetwork" "stopCount" "I" (.int (0 : Int32)) := D39 (Or.inr (ww hw 169 rfl)) (ty := .int) (by decide)
  have F_lines_b39 : Fld Z h39 b39 "com/example/kinetic_city/kineticcity/engine/TransitNetwork" "lines" "Ljava/util/List;" .null := D39 (Or.inr (ww hw 249 rfl)) (ty := (.object "java/util/List")) (by decide)
  have F_firstSegment_b39 : Fld Z h39 b39 "com/example/kinetic_city/kineticcity/engine/TransitNetwork" "firstSegment" "[I" .null := D39 (Or.inr (ww hw 259 rfl)) (ty := (.array .int)) (by decide)
  have F_lineOfSegment_b39 : Fld Z h39 b39 "com/example/kinetic_city/kineticcity/engine/TransitNetwork" "lineOfSegment" "[I" .null := D39 (Or.inr (ww hw 282 rfl)) (ty := (.array .int)) (by decide)
  have F_callStart_b39 : Fld Z h39 b39 "com/example/kinetic_city/kineticcity/engine/TransitNetwork" "callStart" "[I" .null := D39 (Or.inr (ww hw 290 rfl)) (ty := (.array .int)) (by decide)
  have F_callLine_b39 : Fld Z h39 b39 "com/example/kinetic_city/kineticcity/engine/TransitNetwork" "callLine" "[I" .null := D39 (Or.inr (ww hw 292 rfl)) (ty := (.array .int)) (by decide)
  have F_callPosition_b39 : Fld Z h39 b39 "com/example/kinetic_city/kineticcity/engine/TransitNetwork" "callPosition" "[I" .null := D39 (Or.inr (ww hw 294 rfl)) (ty := (.array .int)) (by decide)
  refine zst 66 #[iv p1, iv p2, iv p3, iv p4, iv p5, iv yy1, iv yy2, iv yy3, rv b4, .unset, .unset, .unset, .unset, .unset, .unset] [(.ref b39)] st39 ?_
  refine Go.st (f' := (mkF m 67 #[iv p1, iv p2, iv p3, iv p4, iv p5, iv yy1, iv yy2, iv yy3, rv b4, .unset, .unset, .unset, .unset, .unset, .unset] [(.ref b39), (.ref b39)])) (fun _ k => XS.dup X39.here hx rfl (D at_66) rfl rfl k) ?_
  refine zic 68 1 X39 hx (D at_67) ?_
  refine zal 70 X39 hx (D at_68) rfl rfl ?_
  have ft49 := (eq32.ext E39)
  have ft50 := (mq32.ext E39)
  have ft51 := (dq32.ext E39)
  have ft52 := (sq32.ext E39)
  have ft53 := (vq32.ext E39)
  have ft54 := (xq32.ext E39)
  have ft55 := ((((((eq6.keep kq8).keep kq14).keep kq18).keep kq25).keep kq32).ext E39)
  have ft56 := ((((eq14.keep kq18).keep kq25).keep kq32).ext E39)
  have ft57 := ((eq25.keep kq32).ext E39)
  have ft58 := ((((((fq6.keep kq8 (ninS (Ne.symm ne_b4_b6) nin0)).keep kq14 nin0).keep kq18 (ninS (Ne.symm ne_b4_b6) (ninS ne_b6_ed8 nin0))).keep kq25 nin0).keep kq32 (ninS (Ne.symm ne_b4_b6) (ninS ne_b6_ed8 nin0))).ext E39)
  have ft59 := ((((((vq6.keep kq8 (ninS (Ne.symm ne_b4_tt6) nin0)).keep kq14 nin0).keep kq18 (ninS (Ne.symm ne_b4_tt6) (ninS ne_tt6_ed8 nin0))).keep kq25 nin0).keep kq32 (ninS (Ne.symm ne_b4_tt6) (ninS ne_tt6_ed8 nin0))).ext E39)
  have ft60 := ((((fq14.keep kq18 (ninS (Ne.symm ne_b4_b14) (ninS (Ne.symm ne_ed8_b14) nin0))).keep kq25 nin0).keep kq32 (ninS (Ne.symm ne_b4_b14) (ninS (Ne.symm ne_ed8_b14) nin0))).ext E39)
  have ft61 := ((((vq14.keep kq18 (ninS (Ne.symm ne_b4_tt14) (ninS (Ne.symm ne_ed8_tt14) nin0))).keep kq25 nin0).keep kq32 (ninS (Ne.symm ne_b4_tt14) (ninS (Ne.symm ne_ed8_tt14) nin0))).ext E39)
  have ft62 := ((fq25.keep kq32 (ninS (Ne.symm ne_b4_b25) (ninS (Ne.symm ne_ed8_b25) nin0))).ext E39)
  have ft63 := ((vq25.keep kq32 (ninS (Ne.symm ne_b4_tt25) (ninS (Ne.symm ne_ed8_tt25) nin0))).ext E39)
  obtain ⟨_, _, ⟨T48, L48, kk48, nn48⟩, -, X48, ⟨Lc48, hQ48, lq48, yq48, zz48⟩, st48⟩ := X39.specialBack hx (y := mq38) rfl hown (mvT hZ (ww hw 102 rfl)) (mvT hZ (ww hw 103 rfl)) (mvT hZ (ww hw 104 rfl)) (by decide) (own_back (W := 1) (rmN l Z a0 hw [] b39 b4 ed8 ke8 b6 b14 b25 tt6 ks6 yy1 es6 tt14 ks14 yy2 es14 tt25 ks25 yy3 es25 mir_0 mir_1 mir_2 mir_3 wE wD kE kD h39 n0 O39 byy1.1 byy1.2 byy2.1 byy2.2 byy3.1 byy3.2 g_b39 (Ne.symm ne_b4_b39) A39 F_stopCount_b39 F_lines_b39 F_firstSegment_b39 F_lineOfSegment_b39 F_callStart_b39 F_callLine_b39 F_callPosition_b39 ft49 ft50 ft51 ft52 ft53 ft54 ft55 ft56 ft57 ln6 al6 ft58 ft59 ln14 al14 ft60 ft61 ln25 al25 ft62 ft63 WW) hZ (ww hw 104 rfl) (ww hw 101 rfl) (by decide) (by decide)) (g := (mkF m 70 #[iv p1, iv p2, iv p3, iv p4, iv p5, iv yy1, iv yy2, iv yy3, rv b4, .unset, .unset, .unset, .unset, .unset, .unset] [(.ref b4), (.int 1), (.ref b39), (.ref b39)])) rfl (by rw [hml]; rfl) (Steps.refl _) (a := b39) (argsL := [(.int (1 : Int32)), (.ref b4)]) (rest := [(.ref b39)]) (lenOf pd__ILjava_util_List__V rfl) rfl (by show 2 * 0 + _ ≤ _; exact Nat.le_of_eq rfl) (D at_70) (fun _ _ => ⟨rfl, e39, (by decide : 18 + 11 ≤ _), (by decide : 83 + 67 ≤ _)⟩)
  dsimp only [Pt.U, Pt.locs, Pt.cells, Pt.slots] at X48 lq48 yq48 zz48 st48 hQ48
  subst lq48 yq48 zz48
  obtain ⟨rfl, Nq48, kq48, eq48, fs48, kf48, fq48, vq48⟩ := hQ48
  have N48 := Fr.app N32 Nq48
  have O48 : Old Z n0 T48.heap := O39.keep kq48 (allS g_b39 all0)
  refine Go.tr (f' := (mkF m 73 #[iv p1, iv p2, iv p3, iv p4, iv p5, iv yy1, iv yy2, iv yy3, rv b4, .unset, .unset, .unset, .unset, .unset, .unset] [(.ref b39)])) st48 ?_
  refine zrl 75 #[iv p1, iv p2, iv p3, iv p4, iv p5, iv yy1, iv yy2, iv yy3, rv b4, rv b39, .unset, .unset, .unset, .unset, .unset] X48 hx (D at_73) rfl ?_
  refine zin 76 X48 hx (D at_75) rfl ?_
  refine Go.st (f' := (mkF m 78 #[iv p1, iv p2, iv p3, iv p4, iv p5, iv yy1, iv yy2, iv yy3, rv b4, rv b39, .unset, .unset, .unset, .unset, .unset] [(.int 2147483647), (.int p4)])) (fun _ k => X48.ldcInt hx hown (mvT hZ (ww hw 295 rfl)) (g := (mkF m 76 #[iv p1, iv p2, iv p3, iv p4, iv p5, iv yy1, iv yy2, iv yy3, rv b4, rv b39, .unset, .unset, .unset, .unset, .unset] [(.int p4)])) rfl (D at_76) _ k) ?_
  refine Go.st (f' := (mkF m 79 #[iv p1, iv p2, iv p3, iv p4, iv p5, iv yy1, iv yy2, iv yy3, rv b4, rv b39, .unset, .unset, .unset, .unset, .unset] [(.int (p4 &&& (2147483647 : Int32)))])) (fun _ k => XS.iand X48.here hx rfl (D at_78) rfl k) ?_
  refine zic 80 3 X48 hx (D at_79) ?_
  refine Go.st (f' := (mkF m 81 #[iv p1, iv p2, iv p3, iv p4, iv p5, iv yy1, iv yy2, iv yy3, rv b4, rv b39, .unset, .unset, .unset, .unset, .unset] [(.int ((p4 &&& (2147483647 : Int32)) % (3 : Int32)))])) (fun _ k => iremM (g := (mkF m 80 #[.val (.int p1), .val (.int p2), .val (.int p3), .val (.int p4), .val (.int p5), .val (.int yy1), .val (.int yy2), .val (.int yy3), .val (.ref b4), .val (.ref b39), .unset, .unset, .unset, .unset, .unset] [(.int (3 : Int32)), (.int (p4 &&& (2147483647 : Int32)))])) X48 hx rfl (D at_80) rfl (by decide) k) ?_
  obtain ⟨yy64, hyy64⟩ : ∃ z, z = ((p4 &&& (2147483647 : Int32)) % (3 : Int32)) := ⟨_, rfl⟩
  rw [← hyy64]
  refine zsl 83 #[iv p1, iv p2, iv p3, iv p4, iv p5, iv yy1, iv yy2, iv yy3, rv b4, rv b39, iv yy64, .unset, .unset, .unset, .unset] X48 hx (D at_81) ?_
  rcases own_l3 p4 with hl | hl | hl
  · obtain rfl : yy64 = (0 : Int32) := hyy64.trans hl
    refine zil 85 X48 hx (D at_83) rfl ?_
    refine zfn 88 X48 hx (D at_85) (by decide) ?_
    refine zil 90 X48 hx (D at_88) rfl ?_
    refine zgo 106 X48 hx (D at_90) ?_
    refine zsl 108 #[iv p1, iv p2, iv p3, iv p4, iv p5, iv yy1, iv yy2, iv yy3, rv b4, rv b39, iv 0, iv yy1, .unset, .unset, .unset] X48 hx (D at_106) ?_
    refine zil 110 X48 hx (D at_108) rfl ?_
    refine Go.st (f' := (mkF m 112 #[iv p1, iv p2, iv p3, iv p4, iv p5, iv yy1, iv yy2, iv yy3, rv b4, rv b39, iv 0, iv yy1, .unset, .unset, .unset] [(.int 2147483647), (.int p5)])) (fun _ k => X48.ldcInt hx hown (mvT hZ (ww hw 295 rfl)) (g := (mkF m 110 #[iv p1, iv p2, iv p3, iv p4, iv p5, iv yy1, iv yy2, iv yy3, rv b4, rv b39, iv 0, iv yy1, .unset, .unset, .unset] [(.int p5)])) rfl (D at_110) _ k) ?_
    refine Go.st (f' := (mkF m 113 #[iv p1, iv p2, iv p3, iv p4, iv p5, iv yy1, iv yy2, iv yy3, rv b4, rv b39, iv 0, iv yy1, .unset, .unset, .unset] [(.int (p5 &&& (2147483647 : Int32)))])) (fun _ k => XS.iand X48.here hx rfl (D at_112) rfl k) ?_
    refine zil 115 X48 hx (D at_113) rfl ?_
    refine Go.st (f' := (mkF m 116 #[iv p1, iv p2, iv p3, iv p4, iv p5, iv yy1, iv yy2, iv yy3, rv b4, rv b39, iv 0, iv yy1, .unset, .unset, .unset] [(.int ((p5 &&& (2147483647 : Int32)) % yy1))])) (fun _ k => iremM (g := (mkF m 115 #[.val (.int p1), .val (.int p2), .val (.int p3), .val (.int p4), .val (.int p5), .val (.int yy1), .val (.int yy2), .val (.int yy3), .val (.ref b4), .val (.ref b39), .val (.int (0 : Int32)), .val (.int yy1), .unset, .unset, .unset] [(.int yy1), (.int (p5 &&& (2147483647 : Int32)))])) X48 hx rfl (D at_115) rfl (own_nz byy1.1) k) ?_
    obtain ⟨yy65, hyy65⟩ : ∃ z, z = ((p5 &&& (2147483647 : Int32)) % yy1) := ⟨_, rfl⟩
    rw [← hyy65]
    refine zsl 118 #[iv p1, iv p2, iv p3, iv p4, iv p5, iv yy1, iv yy2, iv yy3, rv b4, rv b39, iv 0, iv yy1, iv yy65, .unset, .unset] X48 hx (D at_116) ?_
    refine zil 120 X48 hx (D at_118) rfl ?_
    refine zfn 123 X48 hx (D at_120) (by decide) ?_
    refine zic 124 0 X48 hx (D at_123) ?_
    refine zgo 149 X48 hx (D at_124) ?_
    refine zsl 151 #[iv p1, iv p2, iv p3, iv p4, iv p5, iv yy1, iv yy2, iv yy3, rv b4, rv b39, iv 0, iv yy1, iv yy65, iv 0, .unset] X48 hx (D at_149) ?_
    refine zil 153 X48 hx (D at_151) rfl ?_
    by_cases cd66 : yy65 = (0 : Int32)
    · refine zfn 156 X48 hx (D at_153) ((if0 _ _).trans (teq cd66).2) ?_
      refine zic 157 (-1) X48 hx (D at_156) ?_
      refine zgo 167 X48 hx (D at_157) ?_
      refine zsl 169 #[iv p1, iv p2, iv p3, iv p4, iv p5, iv yy1, iv yy2, iv yy3, rv b4, rv b39, iv 0, iv yy1, iv yy65, iv 0, .val (.int (-1))] X48 hx (D at_167) ?_
      refine zal 171 X48 hx (D at_169) rfl rfl ?_
      refine zil 173 X48 hx (D at_171) rfl ?_
      refine zil 175 X48 hx (D at_173) rfl ?_
      refine gV 178 0 29 150 X48 N48 hx hZ (y := mq44) hown hml (ww hw 296 rfl) (ww hw 297 rfl) (ww hw 299 rfl) (ww hw 298 rfl) (rmS9 l Z a0 hw [] b39 (0 : Int32) yy65 T48.heap n0 O48 cd66) (ww hw 300 rfl) (ww hw 101 rfl) rfl eq48 [(.int 0), (.int yy65)] [] (lenOf pd__II_I rfl) (D at_175) ?_
      rintro T67 L67 M67 _ X67 uu67 ⟨rfl, Nq67, kq67⟩
      have N67 := uu67 Nq67
      refine zsk [(.int (-1))] ?_
      refine zil 180 X67 hx (D at_178) rfl ?_
      refine zcn 183 X67 hx (D at_180) (by decide) ?_
      refine zic 184 1 X67 hx (D at_183) ?_
      refine zgo 188 X67 hx (D at_184) ?_
      refine Go.retB X67 hlk hx (t := .boolean) hret (by simp) (D at_188) kq67 ?_ (by decide) (by decide)
      exact ⟨rfl, N67⟩
    · refine zfy 160 X48 hx (D at_153) ((if0 _ _).trans (feq cd66).2) ?_
      refine zil 162 X48 hx (D at_160) rfl ?_
      refine zil 164 X48 hx (D at_162) rfl ?_
      refine zad 165 X48 hx (D at_164) ?_
      rw [Int32.zero_add yy65]
      refine zic 166 1 X48 hx (D at_165) ?_
      refine zsb 167 X48 hx (D at_166) ?_
      refine zsl 169 #[iv p1, iv p2, iv p3, iv p4, iv p5, iv yy1, iv yy2, iv yy3, rv b4, rv b39, iv 0, iv yy1, iv yy65, iv 0, .val (.int (yy65 - (1 : Int32)))] X48 hx (D at_167) ?_
      refine zal 171 X48 hx (D at_169) rfl rfl ?_
      refine zil 173 X48 hx (D at_171) rfl ?_
      refine zil 175 X48 hx (D at_173) rfl ?_
      refine gV 178 0 29 150 X48 N48 hx hZ (y := mq44) hown hml (ww hw 296 rfl) (ww hw 297 rfl) (ww hw 299 rfl) (ww hw 298 rfl) (rmS0 l Z a0 hw [] b39 yy65 fs48 kf48 (yy1 - (1 : Int32)) (((yy1 - (1 : Int32)) + yy2) - (1 : Int32)) (((((yy1 - (1 : Int32)) + yy2) - (1 : Int32)) + yy3) - (1 : Int32)) T48.heap n0 O48 cd66 eq48 fq48 vq48) (ww hw 300 rfl) (ww hw 101 rfl) rfl eq48 [(.int 0), (.int yy65)] [] (lenOf pd__II_I rfl) (D at_175) ?_
      rintro T68 L68 M68 _ X68 uu68 ⟨rfl, Nq68, kq68⟩
      have N68 := uu68 Nq68
      refine zsk [(.int (yy65 - (1 : Int32)))] ?_
      refine zil 180 X68 hx (D at_178) rfl ?_
      refine zcn 183 X68 hx (D at_180) (teq (rfl : (yy65 - (1 : Int32)) = (yy65 - (1 : Int32)))).2 ?_
      refine zic 184 1 X68 hx (D at_183) ?_
      refine zgo 188 X68 hx (D at_184) ?_
      refine Go.retB X68 hlk hx (t := .boolean) hret (by simp) (D at_188) kq68 ?_ (by decide) (by decide)
      exact ⟨rfl, N68⟩
  · obtain rfl : yy64 = (1 : Int32) := hyy64.trans hl
    refine zil 85 X48 hx (D at_83) rfl ?_
    refine zfy 93 X48 hx (D at_85) (by decide) ?_
    refine zil 95 X48 hx (D at_93) rfl ?_
    refine zic 96 1 X48 hx (D at_95) ?_
    refine zcn 99 X48 hx (D at_96) (by decide) ?_
    refine zil 101 X48 hx (D at_99) rfl ?_
    refine zgo 106 X48 hx (D at_101) ?_
    refine zsl 108 #[iv p1, iv p2, iv p3, iv p4, iv p5, iv yy1, iv yy2, iv yy3, rv b4, rv b39, iv 1, iv yy2, .unset, .unset, .unset] X48 hx (D at_106) ?_
    refine zil 110 X48 hx (D at_108) rfl ?_
    refine Go.st (f' := (mkF m 112 #[iv p1, iv p2, iv p3, iv p4, iv p5, iv yy1, iv yy2, iv yy3, rv b4, rv b39, iv 1, iv yy2, .unset, .unset, .unset] [(.int 2147483647), (.int p5)])) (fun _ k => X48.ldcInt hx hown (mvT hZ (ww hw 295 rfl)) (g := (mkF m 110 #[iv p1, iv p2, iv p3, iv p4, iv p5, iv yy1, iv yy2, iv yy3, rv b4, rv b39, iv 1, iv yy2, .unset, .unset, .unset] [(.int p5)])) rfl (D at_110) _ k) ?_
    refine Go.st (f' := (mkF m 113 #[iv p1, iv p2, iv p3, iv p4, iv p5, iv yy1, iv yy2, iv yy3, rv b4, rv b39, iv 1, iv yy2, .unset, .unset, .unset] [(.int (p5 &&& (2147483647 : Int32)))])) (fun _ k => XS.iand X48.here hx rfl (D at_112) rfl k) ?_
    refine zil 115 X48 hx (D at_113) rfl ?_
    refine Go.st (f' := (mkF m 116 #[iv p1, iv p2, iv p3, iv p4, iv p5, iv yy1, iv yy2, iv yy3, rv b4, rv b39, iv 1, iv yy2, .unset, .unset, .unset] [(.int ((p5 &&& (2147483647 : Int32)) % yy2))])) (fun _ k => iremM (g := (mkF m 115 #[.val (.int p1), .val (.int p2), .val (.int p3), .val (.int p4), .val (.int p5), .val (.int yy1), .val (.int yy2), .val (.int yy3), .val (.ref b4), .val (.ref b39), .val (.int (1 : Int32)), .val (.int yy2), .unset, .unset, .unset] [(.int yy2), (.int (p5 &&& (2147483647 : Int32)))])) X48 hx rfl (D at_115) rfl (own_nz byy2.1) k) ?_
    obtain ⟨yy69, hyy69⟩ : ∃ z, z = ((p5 &&& (2147483647 : Int32)) % yy2) := ⟨_, rfl⟩
    rw [← hyy69]
    refine zsl 118 #[iv p1, iv p2, iv p3, iv p4, iv p5, iv yy1, iv yy2, iv yy3, rv b4, rv b39, iv 1, iv yy2, iv yy69, .unset, .unset] X48 hx (D at_116) ?_
    refine zil 120 X48 hx (D at_118) rfl ?_
    refine zfy 127 X48 hx (D at_120) (by decide) ?_
    refine zil 129 X48 hx (D at_127) rfl ?_
    refine zic 130 1 X48 hx (D at_129) ?_
    refine zcn 133 X48 hx (D at_130) (by decide) ?_
    refine zil 135 X48 hx (D at_133) rfl ?_
    refine zic 136 1 X48 hx (D at_135) ?_
    refine zsb 137 X48 hx (D at_136) ?_
    refine zgo 149 X48 hx (D at_137) ?_
    refine zsl 151 #[iv p1, iv p2, iv p3, iv p4, iv p5, iv yy1, iv yy2, iv yy3, rv b4, rv b39, iv 1, iv yy2, iv yy69, .val (.int (yy1 - (1 : Int32))), .unset] X48 hx (D at_149) ?_
    refine zil 153 X48 hx (D at_151) rfl ?_
    by_cases cd70 : yy69 = (0 : Int32)
    · refine zfn 156 X48 hx (D at_153) ((if0 _ _).trans (teq cd70).2) ?_
      refine zic 157 (-1) X48 hx (D at_156) ?_
      refine zgo 167 X48 hx (D at_157) ?_
      refine zsl 169 #[iv p1, iv p2, iv p3, iv p4, iv p5, iv yy1, iv yy2, iv yy3, rv b4, rv b39, iv 1, iv yy2, iv yy69, .val (.int (yy1 - (1 : Int32))), .val (.int (-1))] X48 hx (D at_167) ?_
      refine zal 171 X48 hx (D at_169) rfl rfl ?_
      refine zil 173 X48 hx (D at_171) rfl ?_
      refine zil 175 X48 hx (D at_173) rfl ?_
      refine gV 178 0 29 150 X48 N48 hx hZ (y := mq44) hown hml (ww hw 296 rfl) (ww hw 297 rfl) (ww hw 299 rfl) (ww hw 298 rfl) (rmS9 l Z a0 hw [] b39 (1 : Int32) yy69 T48.heap n0 O48 cd70) (ww hw 300 rfl) (ww hw 101 rfl) rfl eq48 [(.int 1), (.int yy69)] [] (lenOf pd__II_I rfl) (D at_175) ?_
      rintro T71 L71 M71 _ X71 uu71 ⟨rfl, Nq71, kq71⟩
      have N71 := uu71 Nq71
      refine zsk [(.int (-1))] ?_
      refine zil 180 X71 hx (D at_178) rfl ?_
      refine zcn 183 X71 hx (D at_180) (by decide) ?_
      refine zic 184 1 X71 hx (D at_183) ?_
      refine zgo 188 X71 hx (D at_184) ?_
      refine Go.retB X71 hlk hx (t := .boolean) hret (by simp) (D at_188) kq71 ?_ (by decide) (by decide)
      exact ⟨rfl, N71⟩
    · refine zfy 160 X48 hx (D at_153) ((if0 _ _).trans (feq cd70).2) ?_
      refine zil 162 X48 hx (D at_160) rfl ?_
      refine zil 164 X48 hx (D at_162) rfl ?_
      refine zad 165 X48 hx (D at_164) ?_
      refine zic 166 1 X48 hx (D at_165) ?_
      refine zsb 167 X48 hx (D at_166) ?_
      refine zsl 169 #[iv p1, iv p2, iv p3, iv p4, iv p5, iv yy1, iv yy2, iv yy3, rv b4, rv b39, iv 1, iv yy2, iv yy69, .val (.int (yy1 - (1 : Int32))), .val (.int (((yy1 - (1 : Int32)) + yy69) - (1 : Int32)))] X48 hx (D at_167) ?_
      refine zal 171 X48 hx (D at_169) rfl rfl ?_
      refine zil 173 X48 hx (D at_171) rfl ?_
      refine zil 175 X48 hx (D at_173) rfl ?_
      refine gV 178 0 29 150 X48 N48 hx hZ (y := mq44) hown hml (ww hw 296 rfl) (ww hw 297 rfl) (ww hw 299 rfl) (ww hw 298 rfl) (rmS1 l Z a0 hw [] b39 yy69 fs48 kf48 (yy1 - (1 : Int32)) (((yy1 - (1 : Int32)) + yy2) - (1 : Int32)) (((((yy1 - (1 : Int32)) + yy2) - (1 : Int32)) + yy3) - (1 : Int32)) T48.heap n0 O48 cd70 eq48 fq48 vq48) (ww hw 300 rfl) (ww hw 101 rfl) rfl eq48 [(.int 1), (.int yy69)] [] (lenOf pd__II_I rfl) (D at_175) ?_
      rintro T72 L72 M72 _ X72 uu72 ⟨rfl, Nq72, kq72⟩
      have N72 := uu72 Nq72
      refine zsk [(.int (((yy1 - (1 : Int32)) + yy69) - (1 : Int32)))] ?_
      refine zil 180 X72 hx (D at_178) rfl ?_
      refine zcn 183 X72 hx (D at_180) (teq (rfl : (((yy1 - (1 : Int32)) + yy69) - (1 : Int32)) = (((yy1 - (1 : Int32)) + yy69) - (1 : Int32)))).2 ?_
      refine zic 184 1 X72 hx (D at_183) ?_
      refine zgo 188 X72 hx (D at_184) ?_
      refine Go.retB X72 hlk hx (t := .boolean) hret (by simp) (D at_188) kq72 ?_ (by decide) (by decide)
      exact ⟨rfl, N72⟩
  · obtain rfl : yy64 = (2 : Int32) := hyy64.trans hl
    refine zil 85 X48 hx (D at_83) rfl ?_
    refine zfy 93 X48 hx (D at_85) (by decide) ?_
    refine zil 95 X48 hx (D at_93) rfl ?_
    refine zic 96 1 X48 hx (D at_95) ?_
    refine zcy 104 X48 hx (D at_96) (by decide) ?_
    refine zil 106 X48 hx (D at_104) rfl ?_
    refine zsl 108 #[iv p1, iv p2, iv p3, iv p4, iv p5, iv yy1, iv yy2, iv yy3, rv b4, rv b39, iv 2, iv yy3, .unset, .unset, .unset] X48 hx (D at_106) ?_
    refine zil 110 X48 hx (D at_108) rfl ?_
    refine Go.st (f' := (mkF m 112 #[iv p1, iv p2, iv p3, iv p4, iv p5, iv yy1, iv yy2, iv yy3, rv b4, rv b39, iv 2, iv yy3, .unset, .unset, .unset] [(.int 2147483647), (.int p5)])) (fun _ k => X48.ldcInt hx hown (mvT hZ (ww hw 295 rfl)) (g := (mkF m 110 #[iv p1, iv p2, iv p3, iv p4, iv p5, iv yy1, iv yy2, iv yy3, rv b4, rv b39, iv 2, iv yy3, .unset, .unset, .unset] [(.int p5)])) rfl (D at_110) _ k) ?_
    refine Go.st (f' := (mkF m 113 #[iv p1, iv p2, iv p3, iv p4, iv p5, iv yy1, iv yy2, iv yy3, rv b4, rv b39, iv 2, iv yy3, .unset, .unset, .unset] [(.int (p5 &&& (2147483647 : Int32)))])) (fun _ k => XS.iand X48.here hx rfl (D at_112) rfl k) ?_
    refine zil 115 X48 hx (D at_113) rfl ?_
    refine Go.st (f' := (mkF m 116 #[iv p1, iv p2, iv p3, iv p4, iv p5, iv yy1, iv yy2, iv yy3, rv b4, rv b39, iv 2, iv yy3, .unset, .unset, .unset] [(.int ((p5 &&& (2147483647 : Int32)) % yy3))])) (fun _ k => iremM (g := (mkF m 115 #[.val (.int p1), .val (.int p2), .val (.int p3), .val (.int p4), .val (.int p5), .val (.int yy1), .val (.int yy2), .val (.int yy3), .val (.ref b4), .val (.ref b39), .val (.int (2 : Int32)), .val (.int yy3), .unset, .unset, .unset] [(.int yy3), (.int (p5 &&& (2147483647 : Int32)))])) X48 hx rfl (D at_115) rfl (own_nz byy3.1) k) ?_
    obtain ⟨yy73, hyy73⟩ : ∃ z, z = ((p5 &&& (2147483647 : Int32)) % yy3) := ⟨_, rfl⟩
    rw [← hyy73]
    refine zsl 118 #[iv p1, iv p2, iv p3, iv p4, iv p5, iv yy1, iv yy2, iv yy3, rv b4, rv b39, iv 2, iv yy3, iv yy73, .unset, .unset] X48 hx (D at_116) ?_
    refine zil 120 X48 hx (D at_118) rfl ?_
    refine zfy 127 X48 hx (D at_120) (by decide) ?_
    refine zil 129 X48 hx (D at_127) rfl ?_
    refine zic 130 1 X48 hx (D at_129) ?_
    refine zcy 140 X48 hx (D at_130) (by decide) ?_
    refine zil 142 X48 hx (D at_140) rfl ?_
    refine zic 143 1 X48 hx (D at_142) ?_
    refine zsb 144 X48 hx (D at_143) ?_
    refine zil 146 X48 hx (D at_144) rfl ?_
    refine zic 147 1 X48 hx (D at_146) ?_
    refine zsb 148 X48 hx (D at_147) ?_
    refine zad 149 X48 hx (D at_148) ?_
    refine zsl 151 #[iv p1, iv p2, iv p3, iv p4, iv p5, iv yy1, iv yy2, iv yy3, rv b4, rv b39, iv 2, iv yy3, iv yy73, .val (.int ((yy1 - (1 : Int32)) + (yy2 - (1 : Int32)))), .unset] X48 hx (D at_149) ?_
    refine zil 153 X48 hx (D at_151) rfl ?_
    by_cases cd74 : yy73 = (0 : Int32)
    · refine zfn 156 X48 hx (D at_153) ((if0 _ _).trans (teq cd74).2) ?_
      refine zic 157 (-1) X48 hx (D at_156) ?_
      refine zgo 167 X48 hx (D at_157) ?_
      refine zsl 169 #[iv p1, iv p2, iv p3, iv p4, iv p5, iv yy1, iv yy2, iv yy3, rv b4, rv b39, iv 2, iv yy3, iv yy73, .val (.int ((yy1 - (1 : Int32)) + (yy2 - (1 : Int32)))), .val (.int (-1))] X48 hx (D at_167) ?_
      refine zal 171 X48 hx (D at_169) rfl rfl ?_
      refine zil 173 X48 hx (D at_171) rfl ?_
      refine zil 175 X48 hx (D at_173) rfl ?_
      refine gV 178 0 29 150 X48 N48 hx hZ (y := mq44) hown hml (ww hw 296 rfl) (ww hw 297 rfl) (ww hw 299 rfl) (ww hw 298 rfl) (rmS9 l Z a0 hw [] b39 (2 : Int32) yy73 T48.heap n0 O48 cd74) (ww hw 300 rfl) (ww hw 101 rfl) rfl eq48 [(.int 2), (.int yy73)] [] (lenOf pd__II_I rfl) (D at_175) ?_
      rintro T75 L75 M75 _ X75 uu75 ⟨rfl, Nq75, kq75⟩
      have N75 := uu75 Nq75
      refine zsk [(.int (-1))] ?_
      refine zil 180 X75 hx (D at_178) rfl ?_
      refine zcn 183 X75 hx (D at_180) (by decide) ?_
      refine zic 184 1 X75 hx (D at_183) ?_
      refine zgo 188 X75 hx (D at_184) ?_
      refine Go.retB X75 hlk hx (t := .boolean) hret (by simp) (D at_188) kq75 ?_ (by decide) (by decide)
      exact ⟨rfl, N75⟩
    · refine zfy 160 X48 hx (D at_153) ((if0 _ _).trans (feq cd74).2) ?_
      refine zil 162 X48 hx (D at_160) rfl ?_
      refine zil 164 X48 hx (D at_162) rfl ?_
      refine zad 165 X48 hx (D at_164) ?_
      refine zic 166 1 X48 hx (D at_165) ?_
      refine zsb 167 X48 hx (D at_166) ?_
      refine zsl 169 #[iv p1, iv p2, iv p3, iv p4, iv p5, iv yy1, iv yy2, iv yy3, rv b4, rv b39, iv 2, iv yy3, iv yy73, .val (.int ((yy1 - (1 : Int32)) + (yy2 - (1 : Int32)))), .val (.int ((((yy1 - (1 : Int32)) + (yy2 - (1 : Int32))) + yy73) - (1 : Int32)))] X48 hx (D at_167) ?_
      refine zal 171 X48 hx (D at_169) rfl rfl ?_
      refine zil 173 X48 hx (D at_171) rfl ?_
      refine zil 175 X48 hx (D at_173) rfl ?_
      refine gV 178 0 29 150 X48 N48 hx hZ (y := mq44) hown hml (ww hw 296 rfl) (ww hw 297 rfl) (ww hw 299 rfl) (ww hw 298 rfl) (rmS2 l Z a0 hw [] b39 yy73 fs48 kf48 (yy1 - (1 : Int32)) (((yy1 - (1 : Int32)) + yy2) - (1 : Int32)) (((((yy1 - (1 : Int32)) + yy2) - (1 : Int32)) + yy3) - (1 : Int32)) T48.heap n0 O48 cd74 eq48 fq48 vq48) (ww hw 300 rfl) (ww hw 101 rfl) rfl eq48 [(.int 2), (.int yy73)] [] (lenOf pd__II_I rfl) (D at_175) ?_
      rintro T76 L76 M76 _ X76 uu76 ⟨rfl, Nq76, kq76⟩
      have N76 := uu76 Nq76
      refine zsk [(.int (((((yy1 - (1 : Int32)) + yy2) - (1 : Int32)) + yy73) - (1 : Int32)))] ?_
      refine zil 180 X76 hx (D at_178) rfl ?_
      refine zcn 183 X76 hx (D at_180) (teq (own_e2 (a := yy1) (b := yy2) (q := yy73))).2 ?_
      refine zic 184 1 X76 hx (D at_183) ?_
      refine zgo 188 X76 hx (D at_184) ?_
      refine Go.retB X76 hlk hx (t := .boolean) hret (by simp) (D at_188) kq76 ?_ (by decide) (by decide)
      exact ⟨rfl, N76⟩
set_option maxRecDepth 65536 in
set_option maxHeartbeats 40000000 in
theorem comes_1 {Post : Tables → Env → Array Value → State → Outcome → State → Prop} (hpost : ∀ tb e args s v u, (limb_1_1.after args s (.returned v) u = true ∧ limb_1_2.after args s (.returned v) u = true ∧ True) → FrameEnd s (.returned v) u (Jvm.fieldLocs frame_1_writes args s ++ Jvm.arrayLocs frame_1_arrays args s ++ Jvm.staticLocs frame_1_statics s) 72 384 → Post tb e args s (.returned v) u) :
    ArmFor flags0 classFile x code maxLocals ret World_1 tables_1 room_1 Calls_1 rest_1 Pre_1 Post := by
  intro l hfl _ _ p e ha hc hk s m args below hf hA hF happ hP
  obtain ⟨hcalls, hrest, hpre⟩ := hP
  obtain ⟨-, -, -, hnamed, -, -, -, hat⟩ := (Spec.applies_iff hf).mp happ
  obtain ⟨hg, hn⟩ := and_e (Cond.before_iff.mp (show (Jvm.Cond.and given_1 narrow_1).before args s = true from hpre))
  obtain ⟨g1, g2⟩ := and_e hg
  obtain ⟨g3, g4⟩ := and_e g2
  obtain ⟨g5, g6⟩ := and_e g4
  obtain ⟨g7, g8⟩ := and_e g6
  obtain ⟨g9, g10⟩ := and_e g8
  obtain ⟨v0, v1, v2, v3, v4, rfl⟩ : ∃ v0 v1 v2 v3 v4 : Value, args = #[v0, v1, v2, v3, v4] := by
    have hs : args.size = 5 := by simpa [Cond.value, given_1] using g1
    obtain ⟨L⟩ := args
    match L, hs with
    | [v0, v1, v2, v3, v4], _ => exact ⟨v0, v1, v2, v3, v4, rfl⟩
  have hw := fun d (hd : d ∈ tables_1) => atoms_spec (ws := Jvm.Cond.code x code maxLocals ret :: tables_1) hat d (List.mem_cons_of_mem _ hd)
  have hfit : Fit s := fun {y c} hc i hi => by
    obtain ⟨ha, rfl⟩ := Array.getElem?_eq_some_iff.mp hc
    have q := List.all_eq_true.mp ((Array.all_eq_true_iff_forall_mem.mp hF) _ (Array.getElem_mem ha)) i (List.mem_range.mpr hi)
    simpa [Array.getElem?_eq_getElem hi] using q
  obtain ⟨hsets, hown0⟩ := atoms_of _ (rest_1_c_eq ▸ (show rest_1_c.before _ s = true from hrest))
  have hr0 := Cond.before_iff.mp hown0
  obtain ⟨i0, ei0⟩ := is_v g3
  obtain rfl : v0 = (.int i0) := Option.some.inj ei0
  obtain ⟨i1, ei1⟩ := is_v g5
  obtain rfl : v1 = (.int i1) := Option.some.inj ei1
  obtain ⟨i2, ei2⟩ := is_v g7
  obtain rfl : v2 = (.int i2) := Option.some.inj ei2
  obtain ⟨i3, ei3⟩ := is_v g9
  obtain rfl : v3 = (.int i3) := Option.some.inj ei3
  obtain ⟨i4, ei4⟩ := is_v g10
  obtain rfl : v4 = (.int i4) := Option.some.inj ei4
  obtain ⟨cM0, kM0, mir_0, mq0⟩ := hcalls.1
  have M_0 : Mir s "[Ljava/lang/Object;" mir_0 := ⟨cM0, kM0, mq0⟩
  obtain ⟨cM1, kM1, mir_1, mq1⟩ := hcalls.2.1
  have M_1 : Mir s "java/util/ArrayList" mir_1 := ⟨cM1, kM1, mq1⟩
  obtain ⟨cM2, kM2, mir_2, mq2⟩ := hcalls.2.2.1
  have M_2 : Mir s "java/util/Collections$UnmodifiableList" mir_2 := ⟨cM2, kM2, mq2⟩
  obtain ⟨cM3, kM3, mir_3, mq3⟩ := hcalls.2.2.2.1
  have M_3 : Mir s "java/util/Collections$UnmodifiableRandomAccessList" mir_3 := ⟨cM3, kM3, mq3⟩
  obtain ⟨wE, ev_wE⟩ := exa_v (Cond.before_iff.mp (hsets _ (List.mem_of_getElem? (i := 4) rfl)))
  obtain ⟨wD, ev_wD⟩ := exa_v (Cond.before_iff.mp (hsets _ (List.mem_of_getElem? (i := 7) rfl)))
  have S_wE := Sta.start ev_wE (Or.inl (hsets _ (List.mem_of_getElem? (i := 1) rfl)))
  have E_wE := Exa.start ev_wE (Cond.before_iff.mp (hsets _ (List.mem_of_getElem? (i := 4) rfl)))
  have S_wD := Sta.start ev_wD (Or.inr ⟨hw _ (List.mem_of_getElem? (i := 2) rfl), hsets _ (List.mem_of_getElem? (i := 2) rfl)⟩)
  have E_wD := Exa.start ev_wD (Cond.before_iff.mp (hsets _ (List.mem_of_getElem? (i := 7) rfl)))
  obtain ⟨cl_wE, Ar_wE⟩ := Arr.start ev_wE (Cond.before_iff.mp (hsets _ (List.mem_of_getElem? (i := 3) rfl)))
  obtain ⟨z_wE, y_wE⟩ := own_len (own_eq_int (Cond.before_iff.mp (hsets _ (List.mem_of_getElem? (i := 5) rfl)))) ev_wE Ar_wE.1
  have V_wE : Arv s s.heap wE cl_wE.cls (Jvm.ClassFile.FieldType.object "java/lang/Object") (0 : Int32) [] .null := Arv.start hfit Ar_wE z_wE y_wE (by decide) rfl trivial
  obtain ⟨cl_wD, Ar_wD⟩ := Arr.start ev_wD (Cond.before_iff.mp (hsets _ (List.mem_of_getElem? (i := 6) rfl)))
  obtain ⟨z_wD, y_wD⟩ := own_len (own_eq_int (Cond.before_iff.mp (hsets _ (List.mem_of_getElem? (i := 8) rfl)))) ev_wD Ar_wD.1
  have V_wD : Arv s s.heap wD cl_wD.cls (Jvm.ClassFile.FieldType.object "java/lang/Object") (0 : Int32) [] .null := Arv.start hfit Ar_wD z_wD y_wD (by decide) rfl trivial
  have WW : World1 s mir_0 mir_1 mir_2 mir_3 wE wD cl_wE.cls cl_wD.cls    := ⟨M_0, M_1, M_2, M_3, S_wE, E_wE, S_wD, E_wD, V_wE, V_wD⟩
  obtain ⟨n, o, h1, h2, h3, _, L, rfl, ⟨rfl, N⟩, hq⟩ := rm0 l s _ hw tables_1 i0 i1 i2 i3 i4 mir_0 mir_1 mir_2 mir_3 wE wD cl_wE.cls cl_wD.cls    s.heap s.heap.size (Old.start s) WW  p e ha hc hk s m _ below hf ((Spec.applies_iff_loose hf).mp happ).1 ⟨rfl, State.Warmed39.refl s, rfl⟩ trivial
  refine ⟨n, _, h1, h2, h3, hpost _ _ _ _ _ _ ⟨Cond.after_iff.mpr rfl, Cond.after_iff.mpr (eq_i res_at (Term.int_eval (1)) rfl), trivial⟩ ⟨hq.1, hq.2.1, (hq.2.2.sift fun y hy => Or.inr (N y hy)).mono (by decide) (by decide)⟩⟩
theorem main_1_1 : Claimed_1_1 := comes_1 fun _ _ _ _ _ _ h hF => ⟨h.1, hF⟩
theorem main_1_2 : Claimed_1_2 := comes_1 fun _ _ _ _ _ _ h hF => ⟨h.2.1, hF⟩
end Jvm.Pilot.@@N@@
namespace Jvm.Pilot.@@N@@
open Jvm Jvm.ClassFile Sem Op Lib Jvm.Free Jvm.Stand Jvm.Pilot.@@N@@.Jvm.D
/-! MADE BY PROGRAM (witnessworld.py) out of the Statement's table words and the real class files: 36 classes; the members and pool entries that the words name. The judged class is class 1, her method 2. -/
namespace start1
open Jvm.ClassFile
def u (s : String) : CpInfo := .utf8 (stringToUtf16 s)
/-- a pool by its gaps: so many unusable entries, then the entry; so many at the end -/
def gap : Nat → List CpInfo → List CpInfo
  | 0, r => r
  | n + 1, r => .unusable :: gap n r
def poolList (es : List (Nat × CpInfo)) (last : Nat) : List CpInfo := es.foldr (fun e r => gap e.1 (e.2 :: r)) (gap last [])
def pool (es : List (Nat × CpInfo)) (last : Nat) : Array CpInfo := ⟨poolList es last⟩
def fileOf (pool : Array CpInfo) (this : Nat) (attrs : Array Attribute := #[]) (ms : Array MethodInfo := #[]) (fl : Nat := 33) (sup : Nat := 0) (ifs : Array Nat := #[]) (fds : Array FieldInfo := #[]) : ClassFile where
  minorVersion := 0
  majorVersion := 65
  constantPool := pool
  accessFlags := fl
  thisClass := this
  superClass := sup
  interfaces := ifs
  fields := fds
  methods := ms
  attributes := attrs
def plain (name : String) (sup : Option ClassId) : Class where
  name := name
  kind := .ordinary
  loader := none
  accessFlags := 33
  super := sup
  interfaces := #[]
  cf := none
  fields := #[]
  methods := #[]
  instanceTypes := #[]
  staticTypes := #[]
  resolved := #[]
  callSites := []
  init := .initialized
  statics := none
  mirror := none

def pool0 : Array CpInfo := pool [(5, u "<init>"), (0, u "()V"), (1, .class_ 10), (1, u "java/lang/Object"), (0, u "getClass"), (0, u "()Ljava/lang/Class;"), (83, u "clone"), (0, u "()Ljava/lang/Object;")] 26

def k0c0 : Code := { maxStack := 0, maxLocals := 1, code := object_method_1_code, exceptionTable := #[], attributes := #[] }
def k0m0 : Method := { name := "<init>", desc := "()V", sig := { parameters := [], returnType := none }, accessFlags := 1, code := some k0c0 }
def k0m1 : Method := { name := "getClass", desc := "()Ljava/lang/Class;", sig := { parameters := [], returnType := some (.object "java/lang/Class") }, accessFlags := 273, code := none }
def k0m2 : Method := { name := "clone", desc := "()Ljava/lang/Object;", sig := { parameters := [], returnType := some (.object "java/lang/Object") }, accessFlags := 260, code := none }
/-- java/lang/Object -/
def k0 : Class := { plain "java/lang/Object" none with
  accessFlags := 33
  interfaces := #[]
  cf := some (fileOf pool0 8 #[] #[{ accessFlags := 1, nameIndex := 5, descriptorIndex := 6, attributes := #[] }, { accessFlags := 273, nameIndex := 11, descriptorIndex := 12, attributes := #[] }, { accessFlags := 260, nameIndex := 96, descriptorIndex := 97, attributes := #[] }] 33 0 #[] #[])
  fields := #[]
  methods := #[k0m0, k0m1, k0m2]
  instanceTypes := #[]
  staticTypes := #[]
  resolved := Array.replicate 124 none
  statics := none }

def pool1 : Array CpInfo := pool [(2, .class_ 4), (0, .nameAndType 5 6), (0, u "java/lang/Object"), (0, u "<init>"), (0, u "()V"), (0, .class_ 8), (0, u "com/example/kinetic_city/kineticcity/engine/TransitLine"), (0, .methodref 7 10), (0, .nameAndType 5 11), (0, u "([I[DD)V"), (0, .class_ 13), (0, u "java/util/ArrayList"), (0, .methodref 12 3), (0, .methodref 16 17), (0, .class_ 18), (0, .nameAndType 19 20), (0, u "com/example/kinetic_city/kineticcity/engine/TransitNetworkArrivingSegmentPinLaw"), (0, u "makeLine"), (0, u "(I)Lcom/example/kinetic_city/kineticcity/engine/TransitLine;"), (0, .methodref 12 22), (0, .nameAndType 23 24), (0, u "add"), (0, u "(Ljava/lang/Object;)Z"), (0, .class_ 26), (0, u "com/example/kinetic_city/kineticcity/engine/TransitNetwork"), (0, .methodref 25 28), (0, .nameAndType 5 29), (0, u "(ILjava/util/List;)V"), (0, .integer 2147483647), (0, .methodref 25 32), (0, .nameAndType 33 34), (0, u "arrivingSegment"), (0, u "(II)I"), (3, u "law"), (0, u "(IIIII)Z")] 2

def k1m0 : Method := { name := "<init>", desc := "()V", sig := { parameters := [], returnType := none }, accessFlags := 1, code := none }
def k1c1 : Code := { maxStack := 8, maxLocals := 1, code := method_2_code, exceptionTable := #[], attributes := #[] }
def k1m1 : Method := { name := "makeLine", desc := "(I)Lcom/example/kinetic_city/kineticcity/engine/TransitLine;", sig := { parameters := [.int], returnType := some (.object "com/example/kinetic_city/kineticcity/engine/TransitLine") }, accessFlags := 10, code := some k1c1 }
def k1c2 : Code := { maxStack := 4, maxLocals := 15, code := code, exceptionTable := #[], attributes := #[] }
def k1m2 : Method := { name := "law", desc := "(IIIII)Z", sig := { parameters := [.int, .int, .int, .int, .int], returnType := some .boolean }, accessFlags := 9, code := some k1c2 }
/-- com/example/kinetic_city/kineticcity/engine/TransitNetworkArrivingSegmentPinLaw -/
def k1 : Class := { plain "com/example/kinetic_city/kineticcity/engine/TransitNetworkArrivingSegmentPinLaw" (some 0) with
  accessFlags := 49
  interfaces := #[]
  cf := some (fileOf pool1 16 #[] #[{ accessFlags := 1, nameIndex := 5, descriptorIndex := 6, attributes := #[] }, { accessFlags := 10, nameIndex := 19, descriptorIndex := 20, attributes := #[] }, { accessFlags := 9, nameIndex := 38, descriptorIndex := 39, attributes := #[] }] 49 2 #[] #[])
  fields := #[]
  methods := #[k1m0, k1m1, k1m2]
  instanceTypes := #[]
  staticTypes := #[]
  resolved := Array.replicate 42 none
  statics := none }

def pool2 : Array CpInfo := pool [(8, .class_ 10), (1, u "java/lang/Iterable"), (24, .class_ 36), (0, u "java/lang/Object")] 25

/-- java/lang/Iterable -/
def k2 : Class := { plain "java/lang/Iterable" (some 0) with
  accessFlags := 1537
  interfaces := #[]
  cf := some (fileOf pool2 8 #[] #[] 1537 35 #[] #[])
  fields := #[]
  methods := #[]
  instanceTypes := #[]
  staticTypes := #[]
  resolved := Array.replicate 62 none
  statics := none }

def pool3 : Array CpInfo := pool [(10, .class_ 12), (1, u "java/util/Collection"), (0, u "toArray"), (46, .class_ 61), (0, u "java/lang/Object"), (0, .class_ 63), (0, u "java/lang/Iterable"), (6, u "()[Ljava/lang/Object;")] 44

def k3m0 : Method := { name := "toArray", desc := "()[Ljava/lang/Object;", sig := { parameters := [], returnType := some (.array (.object "java/lang/Object")) }, accessFlags := 1025, code := none }
/-- java/util/Collection -/
def k3 : Class := { plain "java/util/Collection" (some 0) with
  accessFlags := 1537
  interfaces := #[2]
  cf := some (fileOf pool3 10 #[] #[{ accessFlags := 1025, nameIndex := 13, descriptorIndex := 70, attributes := #[] }] 1537 60 #[62] #[])
  fields := #[]
  methods := #[k3m0]
  instanceTypes := #[]
  staticTypes := #[]
  resolved := Array.replicate 115 none
  statics := none }

def pool4 : Array CpInfo := pool [(1, .methodref 2 3), (0, .class_ 4), (0, .nameAndType 5 6), (0, u "java/lang/Object"), (0, u "<init>"), (0, u "()V"), (1, .class_ 10), (1, u "java/util/AbstractCollection"), (66, .class_ 78), (0, u "java/util/Collection")] 81

def k4c0 : Code := { maxStack := 1, maxLocals := 1, code := jdk_22_method_1_code, exceptionTable := #[], attributes := #[] }
def k4m0 : Method := { name := "<init>", desc := "()V", sig := { parameters := [], returnType := none }, accessFlags := 4, code := some k4c0 }
/-- java/util/AbstractCollection -/
def k4 : Class := { plain "java/util/AbstractCollection" (some 0) with
  accessFlags := 1057
  interfaces := #[3]
  cf := some (fileOf pool4 8 #[] #[{ accessFlags := 4, nameIndex := 5, descriptorIndex := 6, attributes := #[] }] 1057 2 #[77] #[])
  fields := #[]
  methods := #[k4m0]
  instanceTypes := #[]
  staticTypes := #[]
  resolved := Array.replicate 160 none
  statics := none }

def pool5 : Array CpInfo := pool [(8, .class_ 10), (1, u "java/util/SequencedCollection"), (15, .class_ 27), (0, u "java/lang/Object"), (0, .class_ 29), (0, u "java/util/Collection")] 27

/-- java/util/SequencedCollection -/
def k5 : Class := { plain "java/util/SequencedCollection" (some 0) with
  accessFlags := 1537
  interfaces := #[3]
  cf := some (fileOf pool5 8 #[] #[] 1537 26 #[28] #[])
  fields := #[]
  methods := #[]
  instanceTypes := #[]
  staticTypes := #[]
  resolved := Array.replicate 57 none
  statics := none }

def pool6 : Array CpInfo := pool [(8, .class_ 10), (1, u "java/util/List"), (64, u "get"), (0, u "(I)Ljava/lang/Object;"), (2, u "size"), (0, u "()I"), (22, .class_ 104), (0, u "java/lang/Object"), (15, .class_ 121), (0, u "java/util/SequencedCollection"), (1, u "iterator"), (0, u "()Ljava/util/Iterator;")] 126

def k6m0 : Method := { name := "size", desc := "()I", sig := { parameters := [], returnType := some .int }, accessFlags := 1025, code := none }
def k6m1 : Method := { name := "iterator", desc := "()Ljava/util/Iterator;", sig := { parameters := [], returnType := some (.object "java/util/Iterator") }, accessFlags := 1025, code := none }
def k6m2 : Method := { name := "get", desc := "(I)Ljava/lang/Object;", sig := { parameters := [.int], returnType := some (.object "java/lang/Object") }, accessFlags := 1025, code := none }
/-- java/util/List -/
def k6 : Class := { plain "java/util/List" (some 0) with
  accessFlags := 1537
  interfaces := #[5]
  cf := some (fileOf pool6 8 #[] #[{ accessFlags := 1025, nameIndex := 79, descriptorIndex := 80, attributes := #[] }, { accessFlags := 1025, nameIndex := 123, descriptorIndex := 124, attributes := #[] }, { accessFlags := 1025, nameIndex := 75, descriptorIndex := 76, attributes := #[] }] 1537 103 #[120] #[])
  fields := #[]
  methods := #[k6m0, k6m1, k6m2]
  instanceTypes := #[]
  staticTypes := #[]
  resolved := Array.replicate 251 none
  statics := none }

def pool7 : Array CpInfo := pool [(1, .methodref 2 3), (0, .class_ 4), (0, .nameAndType 5 6), (0, u "java/util/AbstractCollection"), (0, u "<init>"), (0, u "()V"), (0, .fieldref 8 9), (0, .class_ 10), (0, .nameAndType 11 12), (0, u "java/util/AbstractList"), (0, u "modCount"), (0, u "I"), (64, .class_ 78), (0, u "java/util/AbstractList$Itr"), (3, .class_ 83), (0, u "java/util/AbstractList$ListItr"), (9, .class_ 94), (0, u "java/util/AbstractList$RandomAccessSubList"), (3, .class_ 99), (0, u "java/util/AbstractList$SubList"), (33, .class_ 134), (0, u "java/util/List"), (73, .class_ 209), (0, u "java/util/AbstractList$SubList$1"), (0, .class_ 211), (0, u "java/util/AbstractList$RandomAccessSpliterator")] 6

def k7c0 : Code := { maxStack := 2, maxLocals := 1, code := jdk_39_method_1_code, exceptionTable := #[], attributes := #[] }
def k7m0 : Method := { name := "<init>", desc := "()V", sig := { parameters := [], returnType := none }, accessFlags := 4, code := some k7c0 }
/-- java/util/AbstractList -/
def k7 : Class := { plain "java/util/AbstractList" (some 4) with
  accessFlags := 1057
  interfaces := #[6]
  cf := some (fileOf pool7 8 #[.nestMembers #[93, 98, 208, 210, 82, 77]] #[{ accessFlags := 4, nameIndex := 5, descriptorIndex := 6, attributes := #[] }] 1057 2 #[133] #[{ accessFlags := 132, nameIndex := 11, descriptorIndex := 12, attributes := #[] }])
  fields := #[{ name := "modCount", type := .int, accessFlags := 132, slot := 0, constantValue := 0 }]
  methods := #[k7m0]
  instanceTypes := #[.int]
  staticTypes := #[]
  resolved := Array.replicate 218 none
  statics := none }

def pool8 : Array CpInfo := pool [(1, .class_ 2), (0, u "java/util/RandomAccess"), (0, .class_ 4), (0, u "java/lang/Object")] 2

/-- java/util/RandomAccess -/
def k8 : Class := { plain "java/util/RandomAccess" (some 0) with
  accessFlags := 1537
  interfaces := #[]
  cf := some (fileOf pool8 1 #[] #[] 1537 3 #[] #[])
  fields := #[]
  methods := #[]
  instanceTypes := #[]
  staticTypes := #[]
  resolved := Array.replicate 7 none
  statics := none }

def pool9 : Array CpInfo := pool [(1, .class_ 2), (0, u "java/lang/Cloneable"), (0, .class_ 4), (0, u "java/lang/Object")] 2

/-- java/lang/Cloneable -/
def k9 : Class := { plain "java/lang/Cloneable" (some 0) with
  accessFlags := 1537
  interfaces := #[]
  cf := some (fileOf pool9 1 #[] #[] 1537 3 #[] #[])
  fields := #[]
  methods := #[]
  instanceTypes := #[]
  staticTypes := #[]
  resolved := Array.replicate 7 none
  statics := none }

def pool10 : Array CpInfo := pool [(1, .class_ 2), (0, u "java/io/Serializable"), (0, .class_ 4), (0, u "java/lang/Object")] 2

/-- java/io/Serializable -/
def k10 : Class := { plain "java/io/Serializable" (some 0) with
  accessFlags := 1537
  interfaces := #[]
  cf := some (fileOf pool10 1 #[] #[] 1537 3 #[] #[])
  fields := #[]
  methods := #[]
  instanceTypes := #[]
  staticTypes := #[]
  resolved := Array.replicate 7 none
  statics := none }

def pool11 : Array CpInfo := pool [(1, .methodref 2 3), (0, .class_ 4), (0, .nameAndType 5 6), (0, u "java/util/AbstractList"), (0, u "<init>"), (0, u "()V"), (0, .class_ 8), (0, u "java/lang/Object"), (0, .fieldref 10 11), (0, .class_ 12), (0, .nameAndType 13 14), (0, u "java/util/ArrayList"), (0, u "elementData"), (0, u "[Ljava/lang/Object;"), (2, u "EMPTY_ELEMENTDATA"), (21, .fieldref 10 40), (0, .nameAndType 41 14), (0, u "DEFAULTCAPACITY_EMPTY_ELEMENTDATA"), (0, .interfaceMethodref 43 44), (0, .class_ 45), (0, .nameAndType 46 47), (0, u "java/util/Collection"), (0, u "toArray"), (0, u "()[Ljava/lang/Object;"), (0, .fieldref 10 49), (0, .nameAndType 50 51), (0, u "size"), (0, u "I"), (0, .interfaceMethodref 43 53), (0, .nameAndType 54 55), (0, u "getClass"), (0, u "()Ljava/lang/Class;"), (2, .class_ 60), (1, u "java/util/Arrays"), (0, u "copyOf"), (1, .fieldref 10 64), (0, .nameAndType 65 51), (0, u "modCount"), (0, .methodref 58 67), (0, .nameAndType 61 68), (0, u "([Ljava/lang/Object;I)[Ljava/lang/Object;"), (0, .methodref 10 70), (0, .nameAndType 71 72), (0, u "grow"), (0, u "(I)[Ljava/lang/Object;"), (6, .methodref 80 81), (0, .class_ 82), (0, .nameAndType 83 84), (0, u "java/lang/Math"), (0, u "max"), (0, u "(II)I"), (11, u "(Ljava/lang/Object;)Z"), (21, .methodref 119 120), (0, .class_ 121), (0, .nameAndType 122 84), (0, u "java/util/Objects"), (0, u "checkIndex"), (0, .methodref 10 124), (0, .nameAndType 13 125), (0, u "(I)Ljava/lang/Object;"), (3, .methodref 10 130), (0, .nameAndType 71 47), (0, .methodref 10 132), (0, .nameAndType 133 134), (0, u "add"), (0, u "(Ljava/lang/Object;[Ljava/lang/Object;I)V"), (13, .class_ 149), (0, u "java/util/List"), (16, u "iterator"), (0, u "()Ljava/util/Iterator;"), (18, u "()I"), (75, .class_ 263), (0, u "java/util/ArrayList$ListItr"), (3, .class_ 268), (0, u "java/util/ArrayList$Itr"), (0, .methodref 267 270), (0, .nameAndType 5 271), (0, u "(Ljava/util/ArrayList;)V"), (4, .class_ 277), (0, u "java/util/ArrayList$SubList"), (12, .class_ 291), (0, u "java/util/ArrayList$ArrayListSpliterator"), (37, .class_ 330), (0, u "java/util/RandomAccess"), (0, .class_ 332), (0, u "java/lang/Cloneable"), (0, .class_ 334), (0, u "java/io/Serializable"), (0, u "serialVersionUID"), (0, u "J"), (3, u "DEFAULT_CAPACITY"), (10, u "(Ljava/util/Collection;)V"), (29, u "get"), (118, .class_ 501), (0, u "java/util/ArrayList$SubList$2"), (0, .class_ 503), (0, u "java/util/ArrayList$SubList$1")] 5

def k11c0 : Code := { maxStack := 2, maxLocals := 1, code := jdk_38_method_2_code, exceptionTable := #[], attributes := #[] }
def k11m0 : Method := { name := "<init>", desc := "()V", sig := { parameters := [], returnType := none }, accessFlags := 1, code := some k11c0 }
def k11c1 : Code := { maxStack := 4, maxLocals := 3, code := jdk_38_method_3_code, exceptionTable := #[], attributes := #[] }
def k11m1 : Method := { name := "<init>", desc := "(Ljava/util/Collection;)V", sig := { parameters := [(.object "java/util/Collection")], returnType := none }, accessFlags := 1, code := some k11c1 }
def k11c2 : Code := { maxStack := 4, maxLocals := 4, code := jdk_38_method_6_code, exceptionTable := #[], attributes := #[] }
def k11m2 : Method := { name := "grow", desc := "(I)[Ljava/lang/Object;", sig := { parameters := [.int], returnType := some (.array (.object "java/lang/Object")) }, accessFlags := 2, code := some k11c2 }
def k11c3 : Code := { maxStack := 3, maxLocals := 1, code := jdk_38_method_7_code, exceptionTable := #[], attributes := #[] }
def k11m3 : Method := { name := "grow", desc := "()[Ljava/lang/Object;", sig := { parameters := [], returnType := some (.array (.object "java/lang/Object")) }, accessFlags := 2, code := some k11c3 }
def k11c4 : Code := { maxStack := 1, maxLocals := 1, code := jdk_38_method_8_code, exceptionTable := #[], attributes := #[] }
def k11m4 : Method := { name := "size", desc := "()I", sig := { parameters := [], returnType := some .int }, accessFlags := 1, code := some k11c4 }
def k11c5 : Code := { maxStack := 2, maxLocals := 1, code := jdk_38_method_16_code, exceptionTable := #[], attributes := #[] }
def k11m5 : Method := { name := "toArray", desc := "()[Ljava/lang/Object;", sig := { parameters := [], returnType := some (.array (.object "java/lang/Object")) }, accessFlags := 1, code := some k11c5 }
def k11c6 : Code := { maxStack := 2, maxLocals := 2, code := jdk_38_method_18_code, exceptionTable := #[], attributes := #[] }
def k11m6 : Method := { name := "elementData", desc := "(I)Ljava/lang/Object;", sig := { parameters := [.int], returnType := some (.object "java/lang/Object") }, accessFlags := 0, code := some k11c6 }
def k11c7 : Code := { maxStack := 2, maxLocals := 2, code := jdk_38_method_20_code, exceptionTable := #[], attributes := #[] }
def k11m7 : Method := { name := "get", desc := "(I)Ljava/lang/Object;", sig := { parameters := [.int], returnType := some (.object "java/lang/Object") }, accessFlags := 1, code := some k11c7 }
def k11c8 : Code := { maxStack := 3, maxLocals := 4, code := jdk_38_method_24_code, exceptionTable := #[], attributes := #[] }
def k11m8 : Method := { name := "add", desc := "(Ljava/lang/Object;[Ljava/lang/Object;I)V", sig := { parameters := [(.object "java/lang/Object"), (.array (.object "java/lang/Object")), .int], returnType := none }, accessFlags := 2, code := some k11c8 }
def k11c9 : Code := { maxStack := 4, maxLocals := 2, code := jdk_38_method_25_code, exceptionTable := #[], attributes := #[] }
def k11m9 : Method := { name := "add", desc := "(Ljava/lang/Object;)Z", sig := { parameters := [(.object "java/lang/Object")], returnType := some .boolean }, accessFlags := 1, code := some k11c9 }
def k11c10 : Code := { maxStack := 3, maxLocals := 1, code := jdk_38_method_55_code, exceptionTable := #[], attributes := #[] }
def k11m10 : Method := { name := "iterator", desc := "()Ljava/util/Iterator;", sig := { parameters := [], returnType := some (.object "java/util/Iterator") }, accessFlags := 1, code := some k11c10 }
/-- java/util/ArrayList -/
def k11 : Class := { plain "java/util/ArrayList" (some 7) with
  accessFlags := 33
  interfaces := #[6, 8, 9, 10]
  cf := some (fileOf pool11 10 #[.nestMembers #[290, 276, 500, 502, 262, 267]] #[{ accessFlags := 1, nameIndex := 5, descriptorIndex := 6, attributes := #[] }, { accessFlags := 1, nameIndex := 5, descriptorIndex := 351, attributes := #[] }, { accessFlags := 2, nameIndex := 71, descriptorIndex := 72, attributes := #[] }, { accessFlags := 2, nameIndex := 71, descriptorIndex := 47, attributes := #[] }, { accessFlags := 1, nameIndex := 50, descriptorIndex := 186, attributes := #[] }, { accessFlags := 1, nameIndex := 46, descriptorIndex := 47, attributes := #[] }, { accessFlags := 0, nameIndex := 13, descriptorIndex := 125, attributes := #[] }, { accessFlags := 1, nameIndex := 381, descriptorIndex := 125, attributes := #[] }, { accessFlags := 2, nameIndex := 133, descriptorIndex := 134, attributes := #[] }, { accessFlags := 1, nameIndex := 133, descriptorIndex := 96, attributes := #[] }, { accessFlags := 1, nameIndex := 166, descriptorIndex := 167, attributes := #[] }] 33 2 #[148, 329, 331, 333] #[{ accessFlags := 26, nameIndex := 335, descriptorIndex := 336, attributes := #[] }, { accessFlags := 26, nameIndex := 340, descriptorIndex := 51, attributes := #[] }, { accessFlags := 26, nameIndex := 17, descriptorIndex := 14, attributes := #[] }, { accessFlags := 26, nameIndex := 41, descriptorIndex := 14, attributes := #[] }, { accessFlags := 128, nameIndex := 13, descriptorIndex := 14, attributes := #[] }, { accessFlags := 2, nameIndex := 50, descriptorIndex := 51, attributes := #[] }])
  fields := #[{ name := "serialVersionUID", type := .long, accessFlags := 26, slot := 0, constantValue := 0 }, { name := "DEFAULT_CAPACITY", type := .int, accessFlags := 26, slot := 1, constantValue := 0 }, { name := "EMPTY_ELEMENTDATA", type := (.array (.object "java/lang/Object")), accessFlags := 26, slot := 2, constantValue := 0 }, { name := "DEFAULTCAPACITY_EMPTY_ELEMENTDATA", type := (.array (.object "java/lang/Object")), accessFlags := 26, slot := 3, constantValue := 0 }, { name := "elementData", type := (.array (.object "java/lang/Object")), accessFlags := 128, slot := 1, constantValue := 0 }, { name := "size", type := .int, accessFlags := 2, slot := 2, constantValue := 0 }]
  methods := #[k11m0, k11m1, k11m2, k11m3, k11m4, k11m5, k11m6, k11m7, k11m8, k11m9, k11m10]
  instanceTypes := #[.int, (.array (.object "java/lang/Object")), .int]
  staticTypes := #[.long, .int, (.array (.object "java/lang/Object")), (.array (.object "java/lang/Object"))]
  resolved := Array.replicate 509 none
  mirror := some 2
  statics := some 0 }

def pool12 : Array CpInfo := pool [(1, .methodref 2 3), (0, .class_ 4), (0, .nameAndType 5 6), (0, u "java/lang/Object"), (0, u "<init>"), (0, u "()V"), (13, .methodref 21 22), (0, .class_ 23), (0, .nameAndType 24 25), (0, u "java/lang/Double"), (0, u "isInfinite"), (0, u "(D)Z"), (4, .methodref 31 32), (0, .class_ 33), (0, .nameAndType 34 35), (0, u "[I"), (0, u "clone"), (0, u "()Ljava/lang/Object;"), (0, .fieldref 37 38), (0, .class_ 39), (0, .nameAndType 40 33), (0, u "com/example/kinetic_city/kineticcity/engine/TransitLine"), (0, u "stops"), (0, .methodref 42 32), (0, .class_ 43), (0, u "[D"), (0, .fieldref 37 45), (0, .nameAndType 46 43), (0, u "segmentSeconds"), (0, .fieldref 37 48), (0, .nameAndType 49 50), (0, u "frequency"), (0, u "D"), (0, u "([I[DD)V"), (3, u "getStopCount"), (0, u "()I"), (0, u "stopAt"), (0, u "(I)I")] 28

def k12c0 : Code := { maxStack := 4, maxLocals := 10, code := prog_22_method_1_code, exceptionTable := #[], attributes := #[] }
def k12m0 : Method := { name := "<init>", desc := "([I[DD)V", sig := { parameters := [(.array .int), (.array .double), .double], returnType := none }, accessFlags := 1, code := some k12c0 }
def k12c1 : Code := { maxStack := 1, maxLocals := 1, code := prog_22_method_2_code, exceptionTable := #[], attributes := #[] }
def k12m1 : Method := { name := "getStopCount", desc := "()I", sig := { parameters := [], returnType := some .int }, accessFlags := 1, code := some k12c1 }
def k12c2 : Code := { maxStack := 2, maxLocals := 2, code := prog_22_method_3_code, exceptionTable := #[], attributes := #[] }
def k12m2 : Method := { name := "stopAt", desc := "(I)I", sig := { parameters := [.int], returnType := some .int }, accessFlags := 1, code := some k12c2 }
/-- com/example/kinetic_city/kineticcity/engine/TransitLine -/
def k12 : Class := { plain "com/example/kinetic_city/kineticcity/engine/TransitLine" (some 0) with
  accessFlags := 49
  interfaces := #[]
  cf := some (fileOf pool12 37 #[] #[{ accessFlags := 1, nameIndex := 5, descriptorIndex := 51, attributes := #[] }, { accessFlags := 1, nameIndex := 55, descriptorIndex := 56, attributes := #[] }, { accessFlags := 1, nameIndex := 57, descriptorIndex := 58, attributes := #[] }] 49 2 #[] #[{ accessFlags := 18, nameIndex := 40, descriptorIndex := 33, attributes := #[] }, { accessFlags := 18, nameIndex := 46, descriptorIndex := 43, attributes := #[] }, { accessFlags := 18, nameIndex := 49, descriptorIndex := 50, attributes := #[] }])
  fields := #[{ name := "stops", type := (.array .int), accessFlags := 18, slot := 0, constantValue := 0 }, { name := "segmentSeconds", type := (.array .double), accessFlags := 18, slot := 1, constantValue := 0 }, { name := "frequency", type := .double, accessFlags := 18, slot := 2, constantValue := 0 }]
  methods := #[k12m0, k12m1, k12m2]
  instanceTypes := #[(.array .int), (.array .double), .double]
  staticTypes := #[]
  resolved := Array.replicate 87 none
  statics := none }

def pool13 : Array CpInfo := pool [(2, .class_ 4), (1, u "java/lang/Object"), (0, u "<init>"), (0, u "()V"), (1, .class_ 10), (1, u "java/lang/Number"), (2, .class_ 14), (0, u "java/io/Serializable"), (0, u "serialVersionUID"), (0, u "J")] 20

def k13m0 : Method := { name := "<init>", desc := "()V", sig := { parameters := [], returnType := none }, accessFlags := 1, code := none }
/-- java/lang/Number -/
def k13 : Class := { plain "java/lang/Number" (some 0) with
  accessFlags := 1057
  interfaces := #[10]
  cf := some (fileOf pool13 8 #[] #[{ accessFlags := 1, nameIndex := 5, descriptorIndex := 6, attributes := #[] }] 1057 2 #[13] #[{ accessFlags := 26, nameIndex := 15, descriptorIndex := 16, attributes := #[] }])
  fields := #[{ name := "serialVersionUID", type := .long, accessFlags := 26, slot := 0, constantValue := 0 }]
  methods := #[k13m0]
  instanceTypes := #[]
  staticTypes := #[.long]
  resolved := Array.replicate 37 none
  statics := none }

def pool14 : Array CpInfo := pool [(1, .class_ 2), (0, u "java/lang/Comparable"), (0, .class_ 4), (0, u "java/lang/Object")] 7

/-- java/lang/Comparable -/
def k14 : Class := { plain "java/lang/Comparable" (some 0) with
  accessFlags := 1537
  interfaces := #[]
  cf := some (fileOf pool14 1 #[] #[] 1537 3 #[] #[])
  fields := #[]
  methods := #[]
  instanceTypes := #[]
  staticTypes := #[]
  resolved := Array.replicate 12 none
  statics := none }

def pool15 : Array CpInfo := pool [(1, .class_ 2), (0, u "java/lang/constant/Constable"), (0, .class_ 4), (0, u "java/lang/Object")] 6

/-- java/lang/constant/Constable -/
def k15 : Class := { plain "java/lang/constant/Constable" (some 0) with
  accessFlags := 1537
  interfaces := #[]
  cf := some (fileOf pool15 1 #[] #[] 1537 3 #[] #[])
  fields := #[]
  methods := #[]
  instanceTypes := #[]
  staticTypes := #[]
  resolved := Array.replicate 11 none
  statics := none }

def pool16 : Array CpInfo := pool [(1, .class_ 2), (0, u "java/lang/constant/ConstantDesc"), (0, .class_ 4), (0, u "java/lang/Object")] 32

/-- java/lang/constant/ConstantDesc -/
def k16 : Class := { plain "java/lang/constant/ConstantDesc" (some 0) with
  accessFlags := 1537
  interfaces := #[]
  cf := some (fileOf pool16 1 #[] #[] 1537 3 #[] #[])
  fields := #[]
  methods := #[]
  instanceTypes := #[]
  staticTypes := #[]
  resolved := Array.replicate 37 none
  statics := none }

def pool17 : Array CpInfo := pool [(1, .class_ 2), (0, u "java/lang/Double"), (11, u "(D)Z"), (8, .class_ 25), (1, u "java/lang/Math"), (12, .methodref 23 39), (0, .nameAndType 40 41), (0, u "abs"), (0, u "(D)D"), (69, .double 9218868437227405311), (2, .class_ 116), (1, u "java/lang/Number"), (3, u "value"), (0, u "D"), (5, u "isInfinite"), (45, u "TYPE"), (0, u "Ljava/lang/Class;"), (0, .class_ 176), (0, u "java/lang/Comparable"), (0, .class_ 178), (0, u "java/lang/constant/Constable"), (0, .class_ 180), (0, u "java/lang/constant/ConstantDesc"), (0, u "POSITIVE_INFINITY"), (3, u "NEGATIVE_INFINITY"), (2, u "NaN"), (2, u "MAX_VALUE"), (0, u "MIN_NORMAL"), (0, u "MIN_VALUE"), (2, u "SIZE"), (0, u "I"), (1, u "PRECISION"), (1, u "MAX_EXPONENT"), (1, u "MIN_EXPONENT"), (1, u "BYTES"), (3, u "serialVersionUID"), (0, u "J")] 79

def k17c0 : Code := { maxStack := 4, maxLocals := 2, code := jdk_117_method_7_code, exceptionTable := #[], attributes := #[] }
def k17m0 : Method := { name := "isInfinite", desc := "(D)Z", sig := { parameters := [.double], returnType := some .boolean }, accessFlags := 9, code := some k17c0 }
/-- java/lang/Double -/
def k17 : Class := { plain "java/lang/Double" (some 13) with
  accessFlags := 49
  interfaces := #[14, 15, 16]
  cf := some (fileOf pool17 1 #[] #[{ accessFlags := 9, nameIndex := 127, descriptorIndex := 14, attributes := #[] }] 49 114 #[175, 177, 179] #[{ accessFlags := 25, nameIndex := 181, descriptorIndex := 121, attributes := #[] }, { accessFlags := 25, nameIndex := 185, descriptorIndex := 121, attributes := #[] }, { accessFlags := 25, nameIndex := 188, descriptorIndex := 121, attributes := #[] }, { accessFlags := 25, nameIndex := 191, descriptorIndex := 121, attributes := #[] }, { accessFlags := 25, nameIndex := 192, descriptorIndex := 121, attributes := #[] }, { accessFlags := 25, nameIndex := 193, descriptorIndex := 121, attributes := #[] }, { accessFlags := 25, nameIndex := 196, descriptorIndex := 197, attributes := #[] }, { accessFlags := 25, nameIndex := 199, descriptorIndex := 197, attributes := #[] }, { accessFlags := 25, nameIndex := 201, descriptorIndex := 197, attributes := #[] }, { accessFlags := 25, nameIndex := 203, descriptorIndex := 197, attributes := #[] }, { accessFlags := 25, nameIndex := 205, descriptorIndex := 197, attributes := #[] }, { accessFlags := 25, nameIndex := 173, descriptorIndex := 174, attributes := #[] }, { accessFlags := 18, nameIndex := 120, descriptorIndex := 121, attributes := #[] }, { accessFlags := 26, nameIndex := 209, descriptorIndex := 210, attributes := #[] }])
  fields := #[{ name := "POSITIVE_INFINITY", type := .double, accessFlags := 25, slot := 0, constantValue := 0 }, { name := "NEGATIVE_INFINITY", type := .double, accessFlags := 25, slot := 1, constantValue := 0 }, { name := "NaN", type := .double, accessFlags := 25, slot := 2, constantValue := 0 }, { name := "MAX_VALUE", type := .double, accessFlags := 25, slot := 3, constantValue := 0 }, { name := "MIN_NORMAL", type := .double, accessFlags := 25, slot := 4, constantValue := 0 }, { name := "MIN_VALUE", type := .double, accessFlags := 25, slot := 5, constantValue := 0 }, { name := "SIZE", type := .int, accessFlags := 25, slot := 6, constantValue := 0 }, { name := "PRECISION", type := .int, accessFlags := 25, slot := 7, constantValue := 0 }, { name := "MAX_EXPONENT", type := .int, accessFlags := 25, slot := 8, constantValue := 0 }, { name := "MIN_EXPONENT", type := .int, accessFlags := 25, slot := 9, constantValue := 0 }, { name := "BYTES", type := .int, accessFlags := 25, slot := 10, constantValue := 0 }, { name := "TYPE", type := (.object "java/lang/Class"), accessFlags := 25, slot := 11, constantValue := 0 }, { name := "value", type := .double, accessFlags := 18, slot := 0, constantValue := 0 }, { name := "serialVersionUID", type := .long, accessFlags := 26, slot := 12, constantValue := 0 }]
  methods := #[k17m0]
  instanceTypes := #[.double]
  staticTypes := #[.double, .double, .double, .double, .double, .double, .int, .int, .int, .int, .int, (.object "java/lang/Class"), .long]
  resolved := Array.replicate 290 none
  statics := none }

def pool18 : Array CpInfo := pool [(1, .class_ 2), (0, u "java/lang/Math"), (1, .class_ 6), (1, u "java/lang/Object"), (0, u "<init>"), (0, u "()V"), (5, u "(D)D"), (83, .class_ 100), (1, u "java/lang/Math$RandomNumberGeneratorHolder"), (23, u "abs"), (47, u "negativeZeroFloatBits"), (0, u "J"), (2, u "negativeZeroDoubleBits"), (21, u "max"), (2, u "min"), (43, u "$assertionsDisabled"), (0, u "Z"), (88, u "(II)I"), (2, u "twoToTheDoubleScaleDown"), (0, u "D"), (4, u "twoToTheDoubleScaleUp"), (9, u "E"), (3, u "PI"), (2, u "TAU"), (2, u "DEGREES_TO_RADIANS"), (0, u "RADIANS_TO_DEGREES")] 94

def k18m0 : Method := { name := "<init>", desc := "()V", sig := { parameters := [], returnType := none }, accessFlags := 2, code := none }
def k18c1 : Code := { maxStack := 4, maxLocals := 2, code := jdk_29_method_64_code, exceptionTable := #[], attributes := #[] }
def k18m1 : Method := { name := "abs", desc := "(D)D", sig := { parameters := [.double], returnType := some .double }, accessFlags := 9, code := some k18c1 }
def k18c2 : Code := { maxStack := 2, maxLocals := 2, code := jdk_29_method_65_code, exceptionTable := #[], attributes := #[] }
def k18m2 : Method := { name := "max", desc := "(II)I", sig := { parameters := [.int, .int], returnType := some .int }, accessFlags := 9, code := some k18c2 }
def k18c3 : Code := { maxStack := 2, maxLocals := 2, code := jdk_29_method_69_code, exceptionTable := #[], attributes := #[] }
def k18m3 : Method := { name := "min", desc := "(II)I", sig := { parameters := [.int, .int], returnType := some .int }, accessFlags := 9, code := some k18c3 }
/-- java/lang/Math -/
def k18 : Class := { plain "java/lang/Math" (some 0) with
  accessFlags := 49
  interfaces := #[]
  cf := some (fileOf pool18 1 #[.nestMembers #[98]] #[{ accessFlags := 2, nameIndex := 7, descriptorIndex := 8, attributes := #[] }, { accessFlags := 9, nameIndex := 124, descriptorIndex := 14, attributes := #[] }, { accessFlags := 9, nameIndex := 198, descriptorIndex := 335, attributes := #[] }, { accessFlags := 9, nameIndex := 201, descriptorIndex := 335, attributes := #[] }] 49 4 #[] #[{ accessFlags := 25, nameIndex := 354, descriptorIndex := 339, attributes := #[] }, { accessFlags := 25, nameIndex := 358, descriptorIndex := 339, attributes := #[] }, { accessFlags := 25, nameIndex := 361, descriptorIndex := 339, attributes := #[] }, { accessFlags := 26, nameIndex := 364, descriptorIndex := 339, attributes := #[] }, { accessFlags := 26, nameIndex := 365, descriptorIndex := 339, attributes := #[] }, { accessFlags := 26, nameIndex := 172, descriptorIndex := 173, attributes := #[] }, { accessFlags := 26, nameIndex := 176, descriptorIndex := 173, attributes := #[] }, { accessFlags := 8, nameIndex := 344, descriptorIndex := 339, attributes := #[] }, { accessFlags := 8, nameIndex := 338, descriptorIndex := 339, attributes := #[] }, { accessFlags := 4120, nameIndex := 245, descriptorIndex := 246, attributes := #[] }])
  fields := #[{ name := "E", type := .double, accessFlags := 25, slot := 0, constantValue := 0 }, { name := "PI", type := .double, accessFlags := 25, slot := 1, constantValue := 0 }, { name := "TAU", type := .double, accessFlags := 25, slot := 2, constantValue := 0 }, { name := "DEGREES_TO_RADIANS", type := .double, accessFlags := 26, slot := 3, constantValue := 0 }, { name := "RADIANS_TO_DEGREES", type := .double, accessFlags := 26, slot := 4, constantValue := 0 }, { name := "negativeZeroFloatBits", type := .long, accessFlags := 26, slot := 5, constantValue := 0 }, { name := "negativeZeroDoubleBits", type := .long, accessFlags := 26, slot := 6, constantValue := 0 }, { name := "twoToTheDoubleScaleUp", type := .double, accessFlags := 8, slot := 7, constantValue := 0 }, { name := "twoToTheDoubleScaleDown", type := .double, accessFlags := 8, slot := 8, constantValue := 0 }, { name := "$assertionsDisabled", type := .boolean, accessFlags := 4120, slot := 9, constantValue := 0 }]
  methods := #[k18m0, k18m1, k18m2, k18m3]
  instanceTypes := #[]
  staticTypes := #[.double, .double, .double, .double, .double, .long, .long, .double, .double, .boolean]
  resolved := Array.replicate 460 none
  statics := none }

def pool19 : Array CpInfo := pool [(1, .methodref 2 3), (0, .class_ 4), (0, .nameAndType 5 6), (0, u "java/lang/Object"), (0, u "<init>"), (0, u "()V"), (0, .interfaceMethodref 8 9), (0, .class_ 10), (0, .nameAndType 11 12), (0, u "java/util/List"), (0, u "iterator"), (0, u "()Ljava/util/Iterator;"), (0, .interfaceMethodref 14 15), (0, .class_ 16), (0, .nameAndType 17 18), (0, u "java/util/Iterator"), (0, u "hasNext"), (0, u "()Z"), (0, .interfaceMethodref 14 20), (0, .nameAndType 21 22), (0, u "next"), (0, u "()Ljava/lang/Object;"), (0, .class_ 24), (0, u "com/example/kinetic_city/kineticcity/engine/TransitLine"), (0, .methodref 23 26), (0, .nameAndType 27 28), (0, u "getStopCount"), (0, u "()I"), (0, .methodref 23 30), (0, .nameAndType 31 32), (0, u "stopAt"), (0, u "(I)I"), (9, .fieldref 43 44), (0, .class_ 45), (0, .nameAndType 46 47), (0, u "com/example/kinetic_city/kineticcity/engine/TransitNetwork"), (0, u "stopCount"), (0, u "I"), (0, .class_ 49), (0, u "java/util/ArrayList"), (0, .methodref 48 51), (0, .nameAndType 5 52), (0, u "(Ljava/util/Collection;)V"), (0, .methodref 54 55), (0, .class_ 56), (0, .nameAndType 57 58), (0, u "java/util/Collections"), (0, u "unmodifiableList"), (0, u "(Ljava/util/List;)Ljava/util/List;"), (0, .fieldref 43 60), (0, .nameAndType 61 62), (0, u "lines"), (0, u "Ljava/util/List;"), (0, .interfaceMethodref 8 64), (0, .nameAndType 65 28), (0, u "size"), (0, .fieldref 43 67), (0, .nameAndType 68 69), (0, u "firstSegment"), (0, u "[I"), (0, .interfaceMethodref 8 71), (0, .nameAndType 72 73), (0, u "get"), (0, u "(I)Ljava/lang/Object;"), (0, .fieldref 43 75), (0, .nameAndType 76 69), (0, u "lineOfSegment"), (0, .methodref 78 79), (0, .class_ 80), (0, .nameAndType 81 82), (0, u "java/util/Arrays"), (0, u "fill"), (0, u "([IIII)V"), (0, .fieldref 43 84), (0, .nameAndType 85 69), (0, u "callStart"), (0, .fieldref 43 87), (0, .nameAndType 88 69), (0, u "callLine"), (0, .fieldref 43 90), (0, .nameAndType 91 69), (0, u "callPosition"), (25, u "(II)I"), (3, u "(ILjava/util/List;)V"), (15, u "arrivingSegment")] 19

def k19c0 : Code := { maxStack := 6, maxLocals := 10, code := prog_23_method_1_code, exceptionTable := #[], attributes := #[] }
def k19m0 : Method := { name := "<init>", desc := "(ILjava/util/List;)V", sig := { parameters := [.int, (.object "java/util/List")], returnType := none }, accessFlags := 1, code := some k19c0 }
def k19c1 : Code := { maxStack := 2, maxLocals := 3, code := prog_23_method_9_code, exceptionTable := #[], attributes := #[] }
def k19m1 : Method := { name := "arrivingSegment", desc := "(II)I", sig := { parameters := [.int, .int], returnType := some .int }, accessFlags := 0, code := some k19c1 }
/-- com/example/kinetic_city/kineticcity/engine/TransitNetwork -/
def k19 : Class := { plain "com/example/kinetic_city/kineticcity/engine/TransitNetwork" (some 0) with
  accessFlags := 49
  interfaces := #[]
  cf := some (fileOf pool19 43 #[] #[{ accessFlags := 1, nameIndex := 5, descriptorIndex := 121, attributes := #[] }, { accessFlags := 0, nameIndex := 137, descriptorIndex := 117, attributes := #[] }] 49 2 #[] #[{ accessFlags := 18, nameIndex := 46, descriptorIndex := 47, attributes := #[] }, { accessFlags := 18, nameIndex := 61, descriptorIndex := 62, attributes := #[] }, { accessFlags := 18, nameIndex := 68, descriptorIndex := 69, attributes := #[] }, { accessFlags := 18, nameIndex := 76, descriptorIndex := 69, attributes := #[] }, { accessFlags := 18, nameIndex := 85, descriptorIndex := 69, attributes := #[] }, { accessFlags := 18, nameIndex := 88, descriptorIndex := 69, attributes := #[] }, { accessFlags := 18, nameIndex := 91, descriptorIndex := 69, attributes := #[] }])
  fields := #[{ name := "stopCount", type := .int, accessFlags := 18, slot := 0, constantValue := 0 }, { name := "lines", type := (.object "java/util/List"), accessFlags := 18, slot := 1, constantValue := 0 }, { name := "firstSegment", type := (.array .int), accessFlags := 18, slot := 2, constantValue := 0 }, { name := "lineOfSegment", type := (.array .int), accessFlags := 18, slot := 3, constantValue := 0 }, { name := "callStart", type := (.array .int), accessFlags := 18, slot := 4, constantValue := 0 }, { name := "callLine", type := (.array .int), accessFlags := 18, slot := 5, constantValue := 0 }, { name := "callPosition", type := (.array .int), accessFlags := 18, slot := 6, constantValue := 0 }]
  methods := #[k19m0, k19m1]
  instanceTypes := #[.int, (.object "java/util/List"), (.array .int), (.array .int), (.array .int), (.array .int), (.array .int)]
  staticTypes := #[]
  resolved := Array.replicate 157 none
  statics := none }

def pool20 : Array CpInfo := pool [(16, .class_ 18), (1, u "java/util/Iterator"), (0, u "hasNext"), (0, u "()Z"), (2, u "next"), (0, u "()Ljava/lang/Object;"), (6, .class_ 32), (0, u "java/lang/Object")] 20

def k20m0 : Method := { name := "hasNext", desc := "()Z", sig := { parameters := [], returnType := some .boolean }, accessFlags := 1025, code := none }
def k20m1 : Method := { name := "next", desc := "()Ljava/lang/Object;", sig := { parameters := [], returnType := some (.object "java/lang/Object") }, accessFlags := 1025, code := none }
/-- java/util/Iterator -/
def k20 : Class := { plain "java/util/Iterator" (some 0) with
  accessFlags := 1537
  interfaces := #[]
  cf := some (fileOf pool20 16 #[] #[{ accessFlags := 1025, nameIndex := 19, descriptorIndex := 20, attributes := #[] }, { accessFlags := 1025, nameIndex := 23, descriptorIndex := 24, attributes := #[] }] 1537 31 #[] #[])
  fields := #[]
  methods := #[k20m0, k20m1]
  instanceTypes := #[]
  staticTypes := #[]
  resolved := Array.replicate 53 none
  statics := none }

def pool21 : Array CpInfo := pool [(1, .fieldref 2 3), (0, .class_ 4), (0, .nameAndType 5 6), (0, u "java/util/ArrayList$Itr"), (0, u "this$0"), (0, u "Ljava/util/ArrayList;"), (0, .methodref 8 9), (0, .class_ 10), (0, .nameAndType 11 12), (0, u "java/lang/Object"), (0, u "<init>"), (0, u "()V"), (0, .fieldref 2 14), (0, .nameAndType 15 16), (0, u "lastRet"), (0, u "I"), (0, .fieldref 18 19), (0, .class_ 20), (0, .nameAndType 21 16), (0, u "java/util/ArrayList"), (0, u "modCount"), (0, .fieldref 2 23), (0, .nameAndType 24 16), (0, u "expectedModCount"), (0, .fieldref 2 26), (0, .nameAndType 27 16), (0, u "cursor"), (0, .fieldref 18 29), (0, .nameAndType 30 16), (0, u "size"), (0, .methodref 2 32), (0, .nameAndType 33 12), (0, u "checkForComodification"), (3, .fieldref 18 38), (0, .nameAndType 39 40), (0, u "elementData"), (0, u "[Ljava/lang/Object;"), (28, .class_ 70), (0, u "java/util/Iterator"), (0, u "(Ljava/util/ArrayList;)V"), (8, u "hasNext"), (0, u "()Z"), (1, u "next"), (0, u "()Ljava/lang/Object;")] 19

def k21c0 : Code := { maxStack := 2, maxLocals := 2, code := jdk_49_method_1_code, exceptionTable := #[], attributes := #[] }
def k21m0 : Method := { name := "<init>", desc := "(Ljava/util/ArrayList;)V", sig := { parameters := [(.object "java/util/ArrayList")], returnType := none }, accessFlags := 0, code := some k21c0 }
def k21c1 : Code := { maxStack := 2, maxLocals := 1, code := jdk_49_method_2_code, exceptionTable := #[], attributes := #[] }
def k21m1 : Method := { name := "hasNext", desc := "()Z", sig := { parameters := [], returnType := some .boolean }, accessFlags := 1, code := some k21c1 }
def k21c2 : Code := { maxStack := 4, maxLocals := 3, code := jdk_49_method_3_code, exceptionTable := #[], attributes := #[] }
def k21m2 : Method := { name := "next", desc := "()Ljava/lang/Object;", sig := { parameters := [], returnType := some (.object "java/lang/Object") }, accessFlags := 1, code := some k21c2 }
def k21c3 : Code := { maxStack := 2, maxLocals := 1, code := jdk_49_method_6_code, exceptionTable := #[], attributes := #[] }
def k21m3 : Method := { name := "checkForComodification", desc := "()V", sig := { parameters := [], returnType := none }, accessFlags := 16, code := some k21c3 }
/-- java/util/ArrayList$Itr -/
def k21 : Class := { plain "java/util/ArrayList$Itr" (some 0) with
  accessFlags := 32
  interfaces := #[20]
  cf := some (fileOf pool21 2 #[.nestHost 18] #[{ accessFlags := 0, nameIndex := 11, descriptorIndex := 71, attributes := #[] }, { accessFlags := 1, nameIndex := 80, descriptorIndex := 81, attributes := #[] }, { accessFlags := 1, nameIndex := 83, descriptorIndex := 84, attributes := #[] }, { accessFlags := 16, nameIndex := 33, descriptorIndex := 12, attributes := #[] }] 32 8 #[69] #[{ accessFlags := 0, nameIndex := 27, descriptorIndex := 16, attributes := #[] }, { accessFlags := 0, nameIndex := 15, descriptorIndex := 16, attributes := #[] }, { accessFlags := 0, nameIndex := 24, descriptorIndex := 16, attributes := #[] }, { accessFlags := 4112, nameIndex := 5, descriptorIndex := 6, attributes := #[] }])
  fields := #[{ name := "cursor", type := .int, accessFlags := 0, slot := 0, constantValue := 0 }, { name := "lastRet", type := .int, accessFlags := 0, slot := 1, constantValue := 0 }, { name := "expectedModCount", type := .int, accessFlags := 0, slot := 2, constantValue := 0 }, { name := "this$0", type := (.object "java/util/ArrayList"), accessFlags := 4112, slot := 3, constantValue := 0 }]
  methods := #[k21m0, k21m1, k21m2, k21m3]
  instanceTypes := #[.int, .int, .int, (.object "java/util/ArrayList")]
  staticTypes := #[]
  resolved := Array.replicate 104 none
  statics := none }

def pool22 : Array CpInfo := pool [(2, .class_ 4), (1, u "java/lang/Object"), (0, u "<init>"), (0, u "()V"), (5, u "([IIII)V"), (0, .methodref 14 15), (0, .class_ 16), (0, .nameAndType 17 18), (0, u "java/util/Arrays"), (0, u "rangeCheck"), (0, u "(III)V"), (55, .class_ 76), (1, u "java/util/Arrays$NaturalOrder"), (9, .methodref 2 87), (0, .nameAndType 88 89), (0, u "getClass"), (0, u "()Ljava/lang/Class;"), (20, .class_ 111), (0, u "[Ljava/lang/Object;"), (1, .class_ 115), (1, u "java/util/Arrays$LegacyMergeSort"), (1, u "Z"), (32, .methodref 151 152), (0, .class_ 153), (0, .nameAndType 154 155), (0, u "java/lang/System"), (0, u "arraycopy"), (0, u "(Ljava/lang/Object;ILjava/lang/Object;II)V"), (144, .methodref 14 301), (0, .nameAndType 302 303), (0, u "copyOf"), (0, u "([Ljava/lang/Object;ILjava/lang/Class;)[Ljava/lang/Object;"), (0, .methodref 305 306), (0, .class_ 307), (0, .nameAndType 308 309), (0, u "java/lang/Math"), (0, u "min"), (0, u "(II)I"), (65, .class_ 376), (0, u "java/util/Arrays$ArrayList"), (68, u "$assertionsDisabled"), (269, u "MIN_ARRAY_SORT_GRAN"), (0, u "I"), (2, u "INSERTIONSORT_THRESHOLD"), (120, u "fill"), (19, u "([Ljava/lang/Object;I)[Ljava/lang/Object;"), (114, .class_ 976), (0, u "java/util/Arrays$ArrayItr")] 52

def k22m0 : Method := { name := "<init>", desc := "()V", sig := { parameters := [], returnType := none }, accessFlags := 2, code := none }
def k22c1 : Code := { maxStack := 4, maxLocals := 3, code := jdk_65_method_30_code, exceptionTable := #[], attributes := #[] }
def k22m1 : Method := { name := "rangeCheck", desc := "(III)V", sig := { parameters := [.int, .int, .int], returnType := none }, accessFlags := 8, code := some k22c1 }
def k22c2 : Code := { maxStack := 3, maxLocals := 5, code := jdk_65_method_104_code, exceptionTable := #[], attributes := #[] }
def k22m2 : Method := { name := "fill", desc := "([IIII)V", sig := { parameters := [(.array .int), .int, .int, .int], returnType := none }, accessFlags := 9, code := some k22c2 }
def k22c3 : Code := { maxStack := 3, maxLocals := 2, code := jdk_65_method_119_code, exceptionTable := #[], attributes := #[] }
def k22m3 : Method := { name := "copyOf", desc := "([Ljava/lang/Object;I)[Ljava/lang/Object;", sig := { parameters := [(.array (.object "java/lang/Object")), .int], returnType := some (.array (.object "java/lang/Object")) }, accessFlags := 9, code := some k22c3 }
def k22c4 : Code := { maxStack := 6, maxLocals := 4, code := jdk_65_method_120_code, exceptionTable := #[], attributes := #[] }
def k22m4 : Method := { name := "copyOf", desc := "([Ljava/lang/Object;ILjava/lang/Class;)[Ljava/lang/Object;", sig := { parameters := [(.array (.object "java/lang/Object")), .int, (.object "java/lang/Class")], returnType := some (.array (.object "java/lang/Object")) }, accessFlags := 9, code := some k22c4 }
/-- java/util/Arrays -/
def k22 : Class := { plain "java/util/Arrays" (some 0) with
  accessFlags := 49
  interfaces := #[]
  cf := some (fileOf pool22 14 #[.nestMembers #[975, 375, 113, 74]] #[{ accessFlags := 2, nameIndex := 5, descriptorIndex := 6, attributes := #[] }, { accessFlags := 8, nameIndex := 17, descriptorIndex := 18, attributes := #[] }, { accessFlags := 9, nameIndex := 840, descriptorIndex := 12, attributes := #[] }, { accessFlags := 9, nameIndex := 302, descriptorIndex := 860, attributes := #[] }, { accessFlags := 9, nameIndex := 302, descriptorIndex := 303, attributes := #[] }] 49 2 #[] #[{ accessFlags := 26, nameIndex := 715, descriptorIndex := 716, attributes := #[] }, { accessFlags := 26, nameIndex := 719, descriptorIndex := 716, attributes := #[] }, { accessFlags := 4120, nameIndex := 445, descriptorIndex := 117, attributes := #[] }])
  fields := #[{ name := "MIN_ARRAY_SORT_GRAN", type := .int, accessFlags := 26, slot := 0, constantValue := 0 }, { name := "INSERTIONSORT_THRESHOLD", type := .int, accessFlags := 26, slot := 1, constantValue := 0 }, { name := "$assertionsDisabled", type := .boolean, accessFlags := 4120, slot := 2, constantValue := 0 }]
  methods := #[k22m0, k22m1, k22m2, k22m3, k22m4]
  instanceTypes := #[]
  staticTypes := #[.int, .int, .boolean]
  resolved := Array.replicate 1029 none
  statics := none }

def pool23 : Array CpInfo := pool [(2, .class_ 4), (1, u "java/lang/Object"), (0, u "<init>"), (0, u "()V"), (1, .class_ 10), (1, u "java/lang/System"), (0, u "allowSecurityManager"), (0, u "I"), (16, u "cons"), (0, u "Ljava/io/Console;"), (77, .class_ 110), (1, u "java/lang/System$CallersHolder"), (43, u "initialErrStream"), (0, u "Ljava/io/PrintStream;"), (19, u "security"), (0, u "Ljava/lang/SecurityManager;"), (31, .class_ 209), (0, u "java/lang/System$1"), (7, u "props"), (0, u "Ljava/util/Properties;"), (2, u "lineSeparator"), (0, u "Ljava/lang/String;"), (96, .class_ 321), (1, u "java/lang/System$LoggerFinder"), (5, .class_ 328), (0, u "java/lang/System$Logger"), (67, u "err"), (2, u "out"), (91, u "notSupportedJnuEncoding"), (15, u "in"), (17, u "initialIn"), (0, u "Ljava/io/InputStream;"), (35, u "bootLayer"), (0, u "Ljava/lang/ModuleLayer;"), (99, .class_ 664), (0, u "java/lang/System$2"), (9, u "NEVER"), (2, u "MAYBE"), (49, u "arraycopy"), (0, u "(Ljava/lang/Object;ILjava/lang/Object;II)V"), (72, .class_ 802), (0, u "java/lang/System$Logger$Level")] 31

def k23m0 : Method := { name := "<init>", desc := "()V", sig := { parameters := [], returnType := none }, accessFlags := 2, code := none }
def k23m1 : Method := { name := "arraycopy", desc := "(Ljava/lang/Object;ILjava/lang/Object;II)V", sig := { parameters := [(.object "java/lang/Object"), .int, (.object "java/lang/Object"), .int, .int], returnType := none }, accessFlags := 265, code := none }
/-- java/lang/System -/
def k23 : Class := { plain "java/lang/System" (some 0) with
  accessFlags := 49
  interfaces := #[]
  cf := some (fileOf pool23 8 #[.nestMembers #[319, 327, 801, 108, 663, 208]] #[{ accessFlags := 2, nameIndex := 5, descriptorIndex := 6, attributes := #[] }, { accessFlags := 265, nameIndex := 727, descriptorIndex := 728, attributes := #[] }] 49 2 #[] #[{ accessFlags := 25, nameIndex := 507, descriptorIndex := 526, attributes := #[] }, { accessFlags := 25, nameIndex := 399, descriptorIndex := 155, attributes := #[] }, { accessFlags := 25, nameIndex := 396, descriptorIndex := 155, attributes := #[] }, { accessFlags := 10, nameIndex := 525, descriptorIndex := 526, attributes := #[] }, { accessFlags := 26, nameIndex := 674, descriptorIndex := 12, attributes := #[] }, { accessFlags := 26, nameIndex := 677, descriptorIndex := 12, attributes := #[] }, { accessFlags := 10, nameIndex := 11, descriptorIndex := 12, attributes := #[] }, { accessFlags := 74, nameIndex := 175, descriptorIndex := 176, attributes := #[] }, { accessFlags := 10, nameIndex := 491, descriptorIndex := 222, attributes := #[] }, { accessFlags := 74, nameIndex := 29, descriptorIndex := 30, attributes := #[] }, { accessFlags := 74, nameIndex := 154, descriptorIndex := 155, attributes := #[] }, { accessFlags := 10, nameIndex := 217, descriptorIndex := 218, attributes := #[] }, { accessFlags := 10, nameIndex := 221, descriptorIndex := 222, attributes := #[] }, { accessFlags := 8, nameIndex := 562, descriptorIndex := 563, attributes := #[] }])
  fields := #[{ name := "in", type := (.object "java/io/InputStream"), accessFlags := 25, slot := 0, constantValue := 0 }, { name := "out", type := (.object "java/io/PrintStream"), accessFlags := 25, slot := 1, constantValue := 0 }, { name := "err", type := (.object "java/io/PrintStream"), accessFlags := 25, slot := 2, constantValue := 0 }, { name := "initialIn", type := (.object "java/io/InputStream"), accessFlags := 10, slot := 3, constantValue := 0 }, { name := "NEVER", type := .int, accessFlags := 26, slot := 4, constantValue := 0 }, { name := "MAYBE", type := .int, accessFlags := 26, slot := 5, constantValue := 0 }, { name := "allowSecurityManager", type := .int, accessFlags := 10, slot := 6, constantValue := 0 }, { name := "security", type := (.object "java/lang/SecurityManager"), accessFlags := 74, slot := 7, constantValue := 0 }, { name := "notSupportedJnuEncoding", type := (.object "java/lang/String"), accessFlags := 10, slot := 8, constantValue := 0 }, { name := "cons", type := (.object "java/io/Console"), accessFlags := 74, slot := 9, constantValue := 0 }, { name := "initialErrStream", type := (.object "java/io/PrintStream"), accessFlags := 74, slot := 10, constantValue := 0 }, { name := "props", type := (.object "java/util/Properties"), accessFlags := 10, slot := 11, constantValue := 0 }, { name := "lineSeparator", type := (.object "java/lang/String"), accessFlags := 10, slot := 12, constantValue := 0 }, { name := "bootLayer", type := (.object "java/lang/ModuleLayer"), accessFlags := 8, slot := 13, constantValue := 0 }]
  methods := #[k23m0, k23m1]
  instanceTypes := #[]
  staticTypes := #[(.object "java/io/InputStream"), (.object "java/io/PrintStream"), (.object "java/io/PrintStream"), (.object "java/io/InputStream"), .int, .int, .int, (.object "java/lang/SecurityManager"), (.object "java/lang/String"), (.object "java/io/Console"), (.object "java/io/PrintStream"), (.object "java/util/Properties"), (.object "java/lang/String"), (.object "java/lang/ModuleLayer")]
  resolved := Array.replicate 834 none
  statics := none }

def pool24 : Array CpInfo := pool [(2, .class_ 4), (1, u "java/lang/Object"), (0, u "<init>"), (0, u "()V"), (1, .class_ 10), (1, u "java/util/List"), (2, .class_ 14), (0, u "java/util/RandomAccess"), (4, .class_ 20), (0, u "java/util/Collections"), (63, u "r"), (0, u "Ljava/util/Random;"), (67, u "(Ljava/util/List;)V"), (9, .nameAndType 164 165), (0, u "getClass"), (0, u "()Ljava/lang/Class;"), (0, .class_ 167), (0, u "java/util/Collections$UnmodifiableCollection"), (6, .class_ 175), (0, u "java/util/Collections$UnmodifiableSequencedCollection"), (6, .class_ 183), (0, u "java/util/Collections$UnmodifiableSet"), (6, .class_ 191), (0, u "java/util/Collections$UnmodifiableSequencedSet"), (6, .class_ 199), (0, u "java/util/Collections$UnmodifiableSortedSet"), (6, .class_ 207), (0, u "java/util/Collections$UnmodifiableNavigableSet"), (3, .interfaceMethodref 8 163), (0, .class_ 213), (0, u "java/util/Collections$UnmodifiableList"), (0, .interfaceMethodref 8 163), (0, .class_ 216), (0, u "java/util/Collections$UnmodifiableRandomAccessList"), (0, .methodref 215 218), (0, .nameAndType 5 153), (4, .class_ 224), (0, u "java/util/Collections$UnmodifiableMap"), (6, .class_ 232), (0, u "java/util/Collections$UnmodifiableSequencedMap"), (4, .class_ 238), (0, u "java/util/Collections$UnmodifiableSortedMap"), (6, .class_ 246), (0, u "java/util/Collections$UnmodifiableNavigableMap"), (3, .class_ 251), (0, u "java/util/Collections$SynchronizedCollection"), (4, .class_ 257), (0, u "java/util/Collections$SynchronizedSet"), (4, .class_ 263), (0, u "java/util/Collections$SynchronizedSortedSet"), (1, .class_ 266), (0, u "java/util/Collections$SynchronizedNavigableSet"), (1, .class_ 269), (0, u "java/util/Collections$SynchronizedRandomAccessList"), (1, .class_ 272), (0, u "java/util/Collections$SynchronizedList"), (5, .class_ 279), (0, u "java/util/Collections$SynchronizedMap"), (1, .class_ 282), (0, u "java/util/Collections$SynchronizedSortedMap"), (1, .class_ 285), (0, u "java/util/Collections$SynchronizedNavigableMap"), (1, .class_ 288), (0, u "java/util/Collections$CheckedCollection"), (11, .class_ 301), (0, u "java/util/Collections$CheckedQueue"), (3, .class_ 306), (0, u "java/util/Collections$CheckedSet"), (3, .class_ 311), (0, u "java/util/Collections$CheckedSortedSet"), (3, .class_ 316), (0, u "java/util/Collections$CheckedNavigableSet"), (3, .class_ 321), (0, u "java/util/Collections$CheckedRandomAccessList"), (3, .class_ 326), (0, u "java/util/Collections$CheckedList"), (1, .class_ 329), (0, u "java/util/Collections$CheckedMap"), (3, .class_ 334), (0, u "java/util/Collections$CheckedSortedMap"), (3, .class_ 339), (0, u "java/util/Collections$CheckedNavigableMap"), (4, .class_ 346), (1, u "java/util/Collections$EmptyIterator"), (3, .class_ 352), (1, u "java/util/Collections$EmptyListIterator"), (2, .class_ 357), (1, u "java/util/Collections$EmptyEnumeration"), (4, u "EMPTY_SET"), (0, u "Ljava/util/Set;"), (6, u "EMPTY_LIST"), (0, u "Ljava/util/List;"), (2, u "EMPTY_MAP"), (0, u "Ljava/util/Map;"), (4, .class_ 381), (0, u "java/util/Collections$SingletonSet"), (2, .class_ 385), (0, u "java/util/Collections$1"), (1, .class_ 388), (0, u "java/util/Collections$2"), (1, .class_ 391), (0, u "java/util/Collections$SingletonList"), (1, .class_ 394), (0, u "java/util/Collections$SingletonMap"), (22, .class_ 418), (0, u "java/util/Collections$CopiesList"), (4, .class_ 425), (1, u "java/util/Collections$ReverseComparator"), (8, .class_ 435), (0, u "java/util/Collections$ReverseComparator2"), (6, .class_ 443), (0, u "java/util/Collections$3"), (25, .class_ 470), (0, u "java/util/Collections$SetFromMap"), (2, .class_ 474), (0, u "java/util/Collections$SequencedSetFromMap"), (3, .class_ 479), (0, u "java/util/Collections$AsLIFOQueue"), (11, .class_ 492), (0, u "java/util/Collections$EmptySet"), (1, .class_ 495), (0, u "java/util/Collections$EmptyList"), (1, .class_ 498), (0, u "java/util/Collections$EmptyMap"), (1, u "BINARYSEARCH_THRESHOLD"), (0, u "I"), (2, u "REVERSE_THRESHOLD"), (1, u "SHUFFLE_THRESHOLD"), (1, u "FILL_THRESHOLD"), (1, u "ROTATE_THRESHOLD"), (1, u "COPY_THRESHOLD"), (1, u "REPLACEALL_THRESHOLD"), (1, u "INDEXOFSUBLIST_THRESHOLD"), (129, u "unmodifiableList"), (0, u "(Ljava/util/List;)Ljava/util/List;"), (202, .class_ 851), (0, u "java/util/Collections$CheckedMap$CheckedEntrySet"), (0, .class_ 853), (0, u "java/util/Collections$CheckedMap$CheckedEntrySet$CheckedEntry"), (0, .class_ 855), (0, u "java/util/Collections$CheckedMap$CheckedEntrySet$1"), (0, .class_ 857), (0, u "java/util/Collections$CheckedList$1"), (0, .class_ 859), (0, u "java/util/Collections$CheckedCollection$1"), (0, .class_ 861), (0, u "java/util/Collections$UnmodifiableNavigableMap$EmptyNavigableMap"), (0, .class_ 863), (0, u "java/util/Collections$UnmodifiableMap$UnmodifiableEntrySet"), (0, .class_ 865), (0, u "java/util/Collections$UnmodifiableMap$UnmodifiableEntrySet$UnmodifiableEntry"), (0, .class_ 867), (0, u "java/util/Collections$UnmodifiableMap$UnmodifiableEntrySet$UnmodifiableEntrySetSpliterator"), (0, .class_ 869), (0, u "java/util/Collections$UnmodifiableMap$UnmodifiableEntrySet$1"), (0, .class_ 871), (0, u "java/util/Collections$UnmodifiableList$1"), (0, .class_ 873), (0, u "java/util/Collections$UnmodifiableNavigableSet$EmptyNavigableSet"), (0, .class_ 875), (0, u "java/util/Collections$UnmodifiableCollection$1")] 57

def k24m0 : Method := { name := "<init>", desc := "()V", sig := { parameters := [], returnType := none }, accessFlags := 2, code := none }
def k24c1 : Code := { maxStack := 3, maxLocals := 1, code := jdk_79_method_35_code, exceptionTable := #[], attributes := #[] }
def k24m1 : Method := { name := "unmodifiableList", desc := "(Ljava/util/List;)Ljava/util/List;", sig := { parameters := [(.object "java/util/List")], returnType := some (.object "java/util/List") }, accessFlags := 9, code := some k24c1 }
/-- java/util/Collections -/
def k24 : Class := { plain "java/util/Collections" (some 0) with
  accessFlags := 33
  interfaces := #[]
  cf := some (fileOf pool24 19 #[.nestMembers #[478, 473, 469, 434, 423, 417, 393, 390, 380, 497, 494, 491, 355, 350, 344, 338, 333, 328, 850, 852, 854, 320, 325, 856, 315, 310, 305, 300, 287, 858, 284, 281, 278, 268, 271, 265, 262, 256, 250, 245, 860, 237, 231, 223, 862, 864, 866, 868, 215, 212, 870, 206, 872, 198, 190, 182, 174, 166, 874, 442, 387, 384]] #[{ accessFlags := 2, nameIndex := 5, descriptorIndex := 6, attributes := #[] }, { accessFlags := 9, nameIndex := 646, descriptorIndex := 647, attributes := #[] }] 33 2 #[] #[{ accessFlags := 26, nameIndex := 500, descriptorIndex := 501, attributes := #[] }, { accessFlags := 26, nameIndex := 504, descriptorIndex := 501, attributes := #[] }, { accessFlags := 26, nameIndex := 506, descriptorIndex := 501, attributes := #[] }, { accessFlags := 26, nameIndex := 508, descriptorIndex := 501, attributes := #[] }, { accessFlags := 26, nameIndex := 510, descriptorIndex := 501, attributes := #[] }, { accessFlags := 26, nameIndex := 512, descriptorIndex := 501, attributes := #[] }, { accessFlags := 26, nameIndex := 514, descriptorIndex := 501, attributes := #[] }, { accessFlags := 26, nameIndex := 516, descriptorIndex := 501, attributes := #[] }, { accessFlags := 10, nameIndex := 84, descriptorIndex := 85, attributes := #[] }, { accessFlags := 25, nameIndex := 362, descriptorIndex := 363, attributes := #[] }, { accessFlags := 25, nameIndex := 370, descriptorIndex := 371, attributes := #[] }, { accessFlags := 25, nameIndex := 374, descriptorIndex := 375, attributes := #[] }])
  fields := #[{ name := "BINARYSEARCH_THRESHOLD", type := .int, accessFlags := 26, slot := 0, constantValue := 0 }, { name := "REVERSE_THRESHOLD", type := .int, accessFlags := 26, slot := 1, constantValue := 0 }, { name := "SHUFFLE_THRESHOLD", type := .int, accessFlags := 26, slot := 2, constantValue := 0 }, { name := "FILL_THRESHOLD", type := .int, accessFlags := 26, slot := 3, constantValue := 0 }, { name := "ROTATE_THRESHOLD", type := .int, accessFlags := 26, slot := 4, constantValue := 0 }, { name := "COPY_THRESHOLD", type := .int, accessFlags := 26, slot := 5, constantValue := 0 }, { name := "REPLACEALL_THRESHOLD", type := .int, accessFlags := 26, slot := 6, constantValue := 0 }, { name := "INDEXOFSUBLIST_THRESHOLD", type := .int, accessFlags := 26, slot := 7, constantValue := 0 }, { name := "r", type := (.object "java/util/Random"), accessFlags := 10, slot := 8, constantValue := 0 }, { name := "EMPTY_SET", type := (.object "java/util/Set"), accessFlags := 25, slot := 9, constantValue := 0 }, { name := "EMPTY_LIST", type := (.object "java/util/List"), accessFlags := 25, slot := 10, constantValue := 0 }, { name := "EMPTY_MAP", type := (.object "java/util/Map"), accessFlags := 25, slot := 11, constantValue := 0 }]
  methods := #[k24m0, k24m1]
  instanceTypes := #[]
  staticTypes := #[.int, .int, .int, .int, .int, .int, .int, .int, (.object "java/util/Random"), (.object "java/util/Set"), (.object "java/util/List"), (.object "java/util/Map")]
  resolved := Array.replicate 933 none
  statics := none }

def pool25 : Array CpInfo := pool [(1, .methodref 2 3), (0, .class_ 4), (0, .nameAndType 5 6), (0, u "java/lang/Object"), (0, u "<init>"), (0, u "()V"), (3, .fieldref 11 12), (0, .class_ 13), (0, .nameAndType 14 15), (0, u "java/util/Collections$UnmodifiableCollection"), (0, u "c"), (0, u "Ljava/util/Collection;"), (1, .class_ 19), (1, u "java/util/Collection"), (51, .class_ 72), (0, u "java/io/Serializable"), (0, u "serialVersionUID"), (0, u "J"), (5, u "(Ljava/util/Collection;)V"), (51, .class_ 133), (0, u "java/util/Collections")] 2

def k25c0 : Code := { maxStack := 2, maxLocals := 2, code := jdk_119_method_1_code, exceptionTable := #[], attributes := #[] }
def k25m0 : Method := { name := "<init>", desc := "(Ljava/util/Collection;)V", sig := { parameters := [(.object "java/util/Collection")], returnType := none }, accessFlags := 0, code := some k25c0 }
/-- java/util/Collections$UnmodifiableCollection -/
def k25 : Class := { plain "java/util/Collections$UnmodifiableCollection" (some 0) with
  accessFlags := 32
  interfaces := #[3, 10]
  cf := some (fileOf pool25 11 #[.nestHost 132] #[{ accessFlags := 0, nameIndex := 5, descriptorIndex := 80, attributes := #[] }] 32 2 #[17, 71] #[{ accessFlags := 26, nameIndex := 73, descriptorIndex := 74, attributes := #[] }, { accessFlags := 16, nameIndex := 14, descriptorIndex := 15, attributes := #[] }])
  fields := #[{ name := "serialVersionUID", type := .long, accessFlags := 26, slot := 0, constantValue := 0 }, { name := "c", type := (.object "java/util/Collection"), accessFlags := 16, slot := 0, constantValue := 0 }]
  methods := #[k25m0]
  instanceTypes := #[(.object "java/util/Collection")]
  staticTypes := #[.long]
  resolved := Array.replicate 136 none
  statics := none }

def pool26 : Array CpInfo := pool [(1, .methodref 2 3), (0, .class_ 4), (0, .nameAndType 5 6), (0, u "java/util/Collections$UnmodifiableCollection"), (0, u "<init>"), (0, u "(Ljava/util/Collection;)V"), (0, .fieldref 8 9), (0, .class_ 10), (0, .nameAndType 11 12), (0, u "java/util/Collections$UnmodifiableList"), (0, u "list"), (0, u "Ljava/util/List;"), (1, .class_ 16), (1, u "java/util/List"), (37, u "(Ljava/util/List;)V"), (5, u "serialVersionUID"), (0, u "J"), (59, .class_ 122), (0, u "java/util/Collections")] 4

def k26c0 : Code := { maxStack := 2, maxLocals := 2, code := jdk_120_method_1_code, exceptionTable := #[], attributes := #[] }
def k26m0 : Method := { name := "<init>", desc := "(Ljava/util/List;)V", sig := { parameters := [(.object "java/util/List")], returnType := none }, accessFlags := 0, code := some k26c0 }
/-- java/util/Collections$UnmodifiableList -/
def k26 : Class := { plain "java/util/Collections$UnmodifiableList" (some 25) with
  accessFlags := 32
  interfaces := #[6]
  cf := some (fileOf pool26 8 #[.nestHost 121] #[{ accessFlags := 0, nameIndex := 5, descriptorIndex := 54, attributes := #[] }] 32 2 #[14] #[{ accessFlags := 26, nameIndex := 60, descriptorIndex := 61, attributes := #[] }, { accessFlags := 16, nameIndex := 11, descriptorIndex := 12, attributes := #[] }])
  fields := #[{ name := "serialVersionUID", type := .long, accessFlags := 26, slot := 0, constantValue := 0 }, { name := "list", type := (.object "java/util/List"), accessFlags := 16, slot := 1, constantValue := 0 }]
  methods := #[k26m0]
  instanceTypes := #[(.object "java/util/Collection"), (.object "java/util/List")]
  staticTypes := #[.long]
  resolved := Array.replicate 127 none
  mirror := some 3
  statics := none }

def pool27 : Array CpInfo := pool [(1, .methodref 2 3), (0, .class_ 4), (0, .nameAndType 5 6), (0, u "java/util/Collections$UnmodifiableList"), (0, u "<init>"), (0, u "(Ljava/util/List;)V"), (0, .class_ 8), (0, u "java/util/Collections$UnmodifiableRandomAccessList"), (11, .class_ 21), (0, u "java/util/RandomAccess"), (0, u "serialVersionUID"), (0, u "J"), (23, .class_ 48), (0, u "java/util/Collections")] 3

def k27c0 : Code := { maxStack := 2, maxLocals := 2, code := jdk_121_method_1_code, exceptionTable := #[], attributes := #[] }
def k27m0 : Method := { name := "<init>", desc := "(Ljava/util/List;)V", sig := { parameters := [(.object "java/util/List")], returnType := none }, accessFlags := 0, code := some k27c0 }
/-- java/util/Collections$UnmodifiableRandomAccessList -/
def k27 : Class := { plain "java/util/Collections$UnmodifiableRandomAccessList" (some 26) with
  accessFlags := 32
  interfaces := #[8]
  cf := some (fileOf pool27 7 #[.nestHost 47] #[{ accessFlags := 0, nameIndex := 5, descriptorIndex := 6, attributes := #[] }] 32 2 #[20] #[{ accessFlags := 26, nameIndex := 22, descriptorIndex := 23, attributes := #[] }])
  fields := #[{ name := "serialVersionUID", type := .long, accessFlags := 26, slot := 0, constantValue := 0 }]
  methods := #[k27m0]
  instanceTypes := #[(.object "java/util/Collection"), (.object "java/util/List")]
  staticTypes := #[.long]
  resolved := Array.replicate 52 none
  mirror := some 4
  statics := none }

def pool28 : Array CpInfo := pool [(2, .class_ 4), (1, u "java/lang/Object"), (0, u "<init>"), (0, u "()V"), (35, .class_ 44), (1, u "java/util/Objects"), (60, .methodref 106 107), (0, .class_ 108), (0, .nameAndType 109 110), (0, u "jdk/internal/util/Preconditions"), (0, u "checkIndex"), (0, u "(IILjava/util/function/BiFunction;)I"), (60, u "(II)I")] 12

def k28m0 : Method := { name := "<init>", desc := "()V", sig := { parameters := [], returnType := none }, accessFlags := 2, code := none }
def k28c1 : Code := { maxStack := 3, maxLocals := 2, code := jdk_31_method_17_code, exceptionTable := #[], attributes := #[] }
def k28m1 : Method := { name := "checkIndex", desc := "(II)I", sig := { parameters := [.int, .int], returnType := some .int }, accessFlags := 9, code := some k28c1 }
/-- java/util/Objects -/
def k28 : Class := { plain "java/util/Objects" (some 0) with
  accessFlags := 49
  interfaces := #[]
  cf := some (fileOf pool28 42 #[] #[{ accessFlags := 2, nameIndex := 5, descriptorIndex := 6, attributes := #[] }, { accessFlags := 9, nameIndex := 109, descriptorIndex := 171, attributes := #[] }] 49 2 #[] #[])
  fields := #[]
  methods := #[k28m0, k28m1]
  instanceTypes := #[]
  staticTypes := #[]
  resolved := Array.replicate 184 none
  statics := none }

def pool29 : Array CpInfo := pool [(2, .class_ 4), (1, u "java/lang/Object"), (0, u "<init>"), (0, u "()V"), (17, .class_ 26), (1, u "jdk/internal/util/Preconditions"), (6, u "checkIndex"), (21, .class_ 56), (0, u "jdk/internal/util/Preconditions$4"), (57, .class_ 115), (0, u "jdk/internal/util/Preconditions$1"), (7, u "SIOOBE_FORMATTER"), (0, u "Ljava/util/function/BiFunction;"), (0, .class_ 126), (0, u "jdk/internal/util/Preconditions$2"), (3, u "AIOOBE_FORMATTER"), (0, .class_ 132), (0, u "jdk/internal/util/Preconditions$3"), (3, u "IOOBE_FORMATTER"), (41, u "(IILjava/util/function/BiFunction;)I")] 15

def k29m0 : Method := { name := "<init>", desc := "()V", sig := { parameters := [], returnType := none }, accessFlags := 1, code := none }
def k29c1 : Code := { maxStack := 3, maxLocals := 3, code := jdk_41_method_11_code, exceptionTable := #[], attributes := #[] }
def k29m1 : Method := { name := "checkIndex", desc := "(IILjava/util/function/BiFunction;)I", sig := { parameters := [.int, .int, (.object "java/util/function/BiFunction")], returnType := some .int }, accessFlags := 9, code := some k29c1 }
/-- jdk/internal/util/Preconditions -/
def k29 : Class := { plain "jdk/internal/util/Preconditions" (some 0) with
  accessFlags := 33
  interfaces := #[]
  cf := some (fileOf pool29 24 #[.nestMembers #[55, 131, 125, 114]] #[{ accessFlags := 1, nameIndex := 5, descriptorIndex := 6, attributes := #[] }, { accessFlags := 9, nameIndex := 33, descriptorIndex := 178, attributes := #[] }] 33 2 #[] #[{ accessFlags := 25, nameIndex := 123, descriptorIndex := 124, attributes := #[] }, { accessFlags := 25, nameIndex := 130, descriptorIndex := 124, attributes := #[] }, { accessFlags := 25, nameIndex := 136, descriptorIndex := 124, attributes := #[] }])
  fields := #[{ name := "SIOOBE_FORMATTER", type := (.object "java/util/function/BiFunction"), accessFlags := 25, slot := 0, constantValue := 0 }, { name := "AIOOBE_FORMATTER", type := (.object "java/util/function/BiFunction"), accessFlags := 25, slot := 1, constantValue := 0 }, { name := "IOOBE_FORMATTER", type := (.object "java/util/function/BiFunction"), accessFlags := 25, slot := 2, constantValue := 0 }]
  methods := #[k29m0, k29m1]
  instanceTypes := #[]
  staticTypes := #[(.object "java/util/function/BiFunction"), (.object "java/util/function/BiFunction"), (.object "java/util/function/BiFunction")]
  resolved := Array.replicate 194 none
  statics := none }

def pool30 : Array CpInfo := pool [(1, u "java/lang/Class"), (0, .class_ 1), (0, u "java/lang/Object"), (0, .class_ 3)] 0

/-- java/lang/Class -/
def k30 : Class := { plain "java/lang/Class" (some 0) with
  accessFlags := 49
  interfaces := #[]
  cf := some (fileOf pool30 2 #[] #[] 49 4 #[] #[])
  fields := #[]
  methods := #[]
  instanceTypes := #[]
  staticTypes := #[]
  resolved := Array.replicate 5 none
  statics := none }

/-- the primitive byte -/
def k31 : Class := { plain "byte" none with kind := .primitive 'B', accessFlags := 0x411 }
/-- [B -/
def k32 : Class := { plain "[B" (some 0) with kind := .array 31 .byte, interfaces := #[9, 10], accessFlags := 1041 }

/-- the primitive int -/
def k33 : Class := { plain "int" none with kind := .primitive 'I', accessFlags := 0x411 }
/-- [I -/
def k34 : Class := { plain "[I" (some 0) with kind := .array 33 .int, interfaces := #[9, 10], accessFlags := 1041 }

/-- [Ljava/lang/Object; -/
def k35 : Class := { plain "[Ljava/lang/Object;" (some 0) with kind := .array 0 (.object "java/lang/Object"), interfaces := #[9, 10], accessFlags := 1041, mirror := some 1 }

/-- the primitive double -/
def k36 : Class := { plain "double" none with kind := .primitive 'D', accessFlags := 0x411 }
/-- [D -/
def k37 : Class := { plain "[D" (some 0) with kind := .array 36 .double, interfaces := #[9, 10], accessFlags := 1041 }

def heap : Heap := #[{ cls := 11, slots := #[.long 0, .int 0, .ref 5, .ref 6], vm := .statics 11 },
  { cls := 30, slots := #[], vm := .mirror 35 },
  { cls := 30, slots := #[], vm := .mirror 11 },
  { cls := 30, slots := #[], vm := .mirror 26 },
  { cls := 30, slots := #[], vm := .mirror 27 },
  { cls := 35, slots := #[], vm := .none },
  { cls := 35, slots := #[], vm := .none }]
def classes : Array Class := #[k0, k1, k2, k3, k4, k5, k6, k7, k8, k9, k10, k11, k12, k13, k14, k15, k16, k17, k18, k19, k20, k21, k22, k23, k24, k25, k26, k27, k28, k29, k30, k31, k32, k33, k34, k35, k36, k37]
def interned : List (Array UInt16 × Addr) := []
def slotsUsed : Nat := 4
def theMethod : MethodId := ⟨1, 2⟩
def args0 : Array Value := #[.int 1, .int 1, .int 1, .int 1, .int 1]
def aboutOver (below : List Frame) : State where
  vm := { classes := classes, interned := interned.toArray }
  heap := heap
  slotsUsed := slotsUsed
  threads := #[{ frames := .invoking theMethod args0 :: below }]
def below0 : List Frame := [.native { method := ⟨0, 0⟩, args := #[] }]
def about1 : State := aboutOver below0
def p0 : Program := .bare "" "" ""
def e0 : Env := launch0.env 0 0 0
theorem w_frames : about1.frames = Frame.invoking theMethod args0 :: below0 := rfl
set_option maxRecDepth 65536 in
theorem w_args : argsFit about1.vm theMethod args0 = true := by decide +kernel
set_option maxRecDepth 65536 in
theorem w_heap : heapFits about1 = true := by decide +kernel
set_option maxRecDepth 65536 in
theorem w_runnable : about1.curStatus? = some .runnable := by decide +kernel
set_option maxRecDepth 65536 in
theorem w_alone : about1.alone = true := by decide +kernel
set_option maxRecDepth 65536 in
theorem w_named : about1.methodNamed? x = some theMethod := by decide +kernel
set_option maxRecDepth 65536 in
theorem w_hears : about1.hears theMethod below0 = true := by decide +kernel
set_option maxRecDepth 65536 in
theorem w_ripe : about1.ripe theMethod args0 below0 = true := by decide +kernel
theorem w_running : about1.status = .running := rfl
set_option maxRecDepth 65536 in
theorem w_room : about1.hasRoom e0.platform room_1 = true :=
  launch0.hasRoom_least _ room_1 (by decide +kernel) (by decide +kernel) (by decide +kernel) (by decide +kernel) (by decide +kernel) (by decide +kernel)
theorem allAtoms_all (ts : List Jvm.Cond) (a : Array Jvm.Value) (st : Jvm.State) : (allAtoms ts).before a st = ts.all (fun c => c.before a st) := by
  induction ts with
  | nil => rfl
  | cons c t ih =>
    show (Jvm.Cond.and c (allAtoms t)).before a st = _
    rw [Jvm.Cond.before_and, ih, List.all_cons]
def words1 : List Jvm.Cond := Jvm.Cond.code x code maxLocals ret :: tables_1
/-- a 'code' word, met by the world's own term for the bytes: nothing is compared byte by byte -/
theorem code_word {y : MethodName} {bytes : ByteArray} {mx : Nat} {rt : Option FieldType} {a : Array Value} {s : State} {m : MethodId} {meth : Method} {c : Code} (h1 : s.methodNamed? y = some m) (h2 : s.vm.method? m = some meth) (h3 : meth.code = some c) (h4 : c.code = bytes)
    (h5 : (c.maxLocals == mx && c.exceptionTable.isEmpty && decide (c.maxStack ≤ mostOperands) && decide (meth.sig.returnType = rt) && !meth.locks && decide (parseMethodDescriptor y.desc = some meth.sig)) = true) : (Jvm.Cond.code y bytes mx rt).before a s = true := by
  simp only [Bool.and_eq_true, beq_iff_eq, Bool.not_eq_true', decide_eq_true_eq] at h5
  obtain ⟨⟨⟨⟨⟨g1, g2⟩, g3⟩, g4⟩, g5⟩, g6⟩ := h5
  simp [Cond.before, Cond.holds, Cond.value, h1, h2, h3, h4, g1, g2, g3, g4, g5, g6]
def isCode : Jvm.Cond → Bool
  | .code _ _ _ _ => true
  | _ => false
theorem all_split {L : List Jvm.Cond} {P : Jvm.Cond → Bool} (h1 : L.all (fun c => isCode c || P c) = true) (h2 : ∀ c ∈ L.filter isCode, P c = true) : L.all P = true := by
  refine List.all_eq_true.mpr fun c hc => ?_
  have h := List.all_eq_true.mp h1 c hc
  rcases Bool.eq_false_or_eq_true (isCode c) with hi | hi
  · exact h2 c (List.mem_filter.mpr ⟨hc, hi⟩)
  · simpa [hi] using h
set_option maxRecDepth 65536 in
theorem w_c0 : (Jvm.Cond.code x code maxLocals ret).before args0 about1 = true := code_word (m := ⟨1, 2⟩) (meth := k1m2) (c := k1c2) (by decide +kernel) rfl rfl rfl (by decide +kernel)
set_option maxRecDepth 65536 in
theorem w_c1 : (Jvm.Cond.code ({ cls := "java/util/ArrayList", name := "<init>", desc := "()V" } : Jvm.MethodName) jdk_38_method_2_code (1 : Nat) (Option.none : Option Jvm.ClassFile.FieldType)).before args0 about1 = true := code_word (m := ⟨11, 0⟩) (meth := k11m0) (c := k11c0) (by decide +kernel) rfl rfl rfl (by decide +kernel)
set_option maxRecDepth 65536 in
theorem w_c2 : (Jvm.Cond.code ({ cls := "java/util/AbstractList", name := "<init>", desc := "()V" } : Jvm.MethodName) jdk_39_method_1_code (1 : Nat) (Option.none : Option Jvm.ClassFile.FieldType)).before args0 about1 = true := code_word (m := ⟨7, 0⟩) (meth := k7m0) (c := k7c0) (by decide +kernel) rfl rfl rfl (by decide +kernel)
set_option maxRecDepth 65536 in
theorem w_c3 : (Jvm.Cond.code ({ cls := "java/util/AbstractCollection", name := "<init>", desc := "()V" } : Jvm.MethodName) jdk_22_method_1_code (1 : Nat) (Option.none : Option Jvm.ClassFile.FieldType)).before args0 about1 = true := code_word (m := ⟨4, 0⟩) (meth := k4m0) (c := k4c0) (by decide +kernel) rfl rfl rfl (by decide +kernel)
set_option maxRecDepth 65536 in
theorem w_c4 : (Jvm.Cond.code ({ cls := "java/lang/Object", name := "<init>", desc := "()V" } : Jvm.MethodName) object_method_1_code (1 : Nat) (Option.none : Option Jvm.ClassFile.FieldType)).before args0 about1 = true := code_word (m := ⟨0, 0⟩) (meth := k0m0) (c := k0c0) (by decide +kernel) rfl rfl rfl (by decide +kernel)
set_option maxRecDepth 65536 in
theorem w_c5 : (Jvm.Cond.code ({ cls := "com/example/kinetic_city/kineticcity/engine/TransitNetworkArrivingSegmentPinLaw", name := "makeLine", desc := "(I)Lcom/example/kinetic_city/kineticcity/engine/TransitLine;" } : Jvm.MethodName) method_2_code (1 : Nat) (Option.some (Jvm.ClassFile.FieldType.object "com/example/kinetic_city/kineticcity/engine/TransitLine"))).before args0 about1 = true := code_word (m := ⟨1, 1⟩) (meth := k1m1) (c := k1c1) (by decide +kernel) rfl rfl rfl (by decide +kernel)
set_option maxRecDepth 65536 in
theorem w_c6 : (Jvm.Cond.code ({ cls := "com/example/kinetic_city/kineticcity/engine/TransitLine", name := "<init>", desc := "([I[DD)V" } : Jvm.MethodName) prog_22_method_1_code (10 : Nat) (Option.none : Option Jvm.ClassFile.FieldType)).before args0 about1 = true := code_word (m := ⟨12, 0⟩) (meth := k12m0) (c := k12c0) (by decide +kernel) rfl rfl rfl (by decide +kernel)
set_option maxRecDepth 65536 in
theorem w_c7 : (Jvm.Cond.code ({ cls := "java/lang/Double", name := "isInfinite", desc := "(D)Z" } : Jvm.MethodName) jdk_117_method_7_code (2 : Nat) (Option.some Jvm.ClassFile.FieldType.boolean)).before args0 about1 = true := code_word (m := ⟨17, 0⟩) (meth := k17m0) (c := k17c0) (by decide +kernel) rfl rfl rfl (by decide +kernel)
set_option maxRecDepth 65536 in
theorem w_c8 : (Jvm.Cond.code ({ cls := "java/lang/Math", name := "abs", desc := "(D)D" } : Jvm.MethodName) jdk_29_method_64_code (2 : Nat) (Option.some Jvm.ClassFile.FieldType.double)).before args0 about1 = true := code_word (m := ⟨18, 1⟩) (meth := k18m1) (c := k18c1) (by decide +kernel) rfl rfl rfl (by decide +kernel)
set_option maxRecDepth 65536 in
theorem w_c9 : (Jvm.Cond.code ({ cls := "java/util/ArrayList", name := "add", desc := "(Ljava/lang/Object;)Z" } : Jvm.MethodName) jdk_38_method_25_code (2 : Nat) (Option.some Jvm.ClassFile.FieldType.boolean)).before args0 about1 = true := code_word (m := ⟨11, 9⟩) (meth := k11m9) (c := k11c9) (by decide +kernel) rfl rfl rfl (by decide +kernel)
set_option maxRecDepth 65536 in
theorem w_c10 : (Jvm.Cond.code ({ cls := "java/util/ArrayList", name := "add", desc := "(Ljava/lang/Object;[Ljava/lang/Object;I)V" } : Jvm.MethodName) jdk_38_method_24_code (4 : Nat) (Option.none : Option Jvm.ClassFile.FieldType)).before args0 about1 = true := code_word (m := ⟨11, 8⟩) (meth := k11m8) (c := k11c8) (by decide +kernel) rfl rfl rfl (by decide +kernel)
set_option maxRecDepth 65536 in
theorem w_c11 : (Jvm.Cond.code ({ cls := "java/util/ArrayList", name := "grow", desc := "()[Ljava/lang/Object;" } : Jvm.MethodName) jdk_38_method_7_code (1 : Nat) (Option.some (Jvm.ClassFile.FieldType.array (Jvm.ClassFile.FieldType.object "java/lang/Object")))).before args0 about1 = true := code_word (m := ⟨11, 3⟩) (meth := k11m3) (c := k11c3) (by decide +kernel) rfl rfl rfl (by decide +kernel)
set_option maxRecDepth 65536 in
theorem w_c12 : (Jvm.Cond.code ({ cls := "java/util/ArrayList", name := "grow", desc := "(I)[Ljava/lang/Object;" } : Jvm.MethodName) jdk_38_method_6_code (4 : Nat) (Option.some (Jvm.ClassFile.FieldType.array (Jvm.ClassFile.FieldType.object "java/lang/Object")))).before args0 about1 = true := code_word (m := ⟨11, 2⟩) (meth := k11m2) (c := k11c2) (by decide +kernel) rfl rfl rfl (by decide +kernel)
set_option maxRecDepth 65536 in
theorem w_c13 : (Jvm.Cond.code ({ cls := "java/lang/Math", name := "max", desc := "(II)I" } : Jvm.MethodName) jdk_29_method_65_code (2 : Nat) (Option.some Jvm.ClassFile.FieldType.int)).before args0 about1 = true := code_word (m := ⟨18, 2⟩) (meth := k18m2) (c := k18c2) (by decide +kernel) rfl rfl rfl (by decide +kernel)
set_option maxRecDepth 65536 in
theorem w_c14 : (Jvm.Cond.code ({ cls := "com/example/kinetic_city/kineticcity/engine/TransitNetwork", name := "<init>", desc := "(ILjava/util/List;)V" } : Jvm.MethodName) prog_23_method_1_code (10 : Nat) (Option.none : Option Jvm.ClassFile.FieldType)).before args0 about1 = true := code_word (m := ⟨19, 0⟩) (meth := k19m0) (c := k19c0) (by decide +kernel) rfl rfl rfl (by decide +kernel)
set_option maxRecDepth 65536 in
theorem w_c15 : (Jvm.Cond.code ({ cls := "java/util/ArrayList", name := "iterator", desc := "()Ljava/util/Iterator;" } : Jvm.MethodName) jdk_38_method_55_code (1 : Nat) (Option.some (Jvm.ClassFile.FieldType.object "java/util/Iterator"))).before args0 about1 = true := code_word (m := ⟨11, 10⟩) (meth := k11m10) (c := k11c10) (by decide +kernel) rfl rfl rfl (by decide +kernel)
set_option maxRecDepth 65536 in
theorem w_c16 : (Jvm.Cond.code ({ cls := "java/util/ArrayList$Itr", name := "<init>", desc := "(Ljava/util/ArrayList;)V" } : Jvm.MethodName) jdk_49_method_1_code (2 : Nat) (Option.none : Option Jvm.ClassFile.FieldType)).before args0 about1 = true := code_word (m := ⟨21, 0⟩) (meth := k21m0) (c := k21c0) (by decide +kernel) rfl rfl rfl (by decide +kernel)
set_option maxRecDepth 65536 in
theorem w_c17 : (Jvm.Cond.code ({ cls := "java/util/ArrayList$Itr", name := "hasNext", desc := "()Z" } : Jvm.MethodName) jdk_49_method_2_code (1 : Nat) (Option.some Jvm.ClassFile.FieldType.boolean)).before args0 about1 = true := code_word (m := ⟨21, 1⟩) (meth := k21m1) (c := k21c1) (by decide +kernel) rfl rfl rfl (by decide +kernel)
set_option maxRecDepth 65536 in
theorem w_c18 : (Jvm.Cond.code ({ cls := "java/util/ArrayList$Itr", name := "next", desc := "()Ljava/lang/Object;" } : Jvm.MethodName) jdk_49_method_3_code (3 : Nat) (Option.some (Jvm.ClassFile.FieldType.object "java/lang/Object"))).before args0 about1 = true := code_word (m := ⟨21, 2⟩) (meth := k21m2) (c := k21c2) (by decide +kernel) rfl rfl rfl (by decide +kernel)
set_option maxRecDepth 65536 in
theorem w_c19 : (Jvm.Cond.code ({ cls := "java/util/ArrayList$Itr", name := "checkForComodification", desc := "()V" } : Jvm.MethodName) jdk_49_method_6_code (1 : Nat) (Option.none : Option Jvm.ClassFile.FieldType)).before args0 about1 = true := code_word (m := ⟨21, 3⟩) (meth := k21m3) (c := k21c3) (by decide +kernel) rfl rfl rfl (by decide +kernel)
set_option maxRecDepth 65536 in
theorem w_c20 : (Jvm.Cond.code ({ cls := "com/example/kinetic_city/kineticcity/engine/TransitLine", name := "getStopCount", desc := "()I" } : Jvm.MethodName) prog_22_method_2_code (1 : Nat) (Option.some Jvm.ClassFile.FieldType.int)).before args0 about1 = true := code_word (m := ⟨12, 1⟩) (meth := k12m1) (c := k12c1) (by decide +kernel) rfl rfl rfl (by decide +kernel)
set_option maxRecDepth 65536 in
theorem w_c21 : (Jvm.Cond.code ({ cls := "com/example/kinetic_city/kineticcity/engine/TransitLine", name := "stopAt", desc := "(I)I" } : Jvm.MethodName) prog_22_method_3_code (2 : Nat) (Option.some Jvm.ClassFile.FieldType.int)).before args0 about1 = true := code_word (m := ⟨12, 2⟩) (meth := k12m2) (c := k12c2) (by decide +kernel) rfl rfl rfl (by decide +kernel)
set_option maxRecDepth 65536 in
theorem w_c22 : (Jvm.Cond.code ({ cls := "java/util/ArrayList", name := "<init>", desc := "(Ljava/util/Collection;)V" } : Jvm.MethodName) jdk_38_method_3_code (3 : Nat) (Option.none : Option Jvm.ClassFile.FieldType)).before args0 about1 = true := code_word (m := ⟨11, 1⟩) (meth := k11m1) (c := k11c1) (by decide +kernel) rfl rfl rfl (by decide +kernel)
set_option maxRecDepth 65536 in
theorem w_c23 : (Jvm.Cond.code ({ cls := "java/util/ArrayList", name := "toArray", desc := "()[Ljava/lang/Object;" } : Jvm.MethodName) jdk_38_method_16_code (1 : Nat) (Option.some (Jvm.ClassFile.FieldType.array (Jvm.ClassFile.FieldType.object "java/lang/Object")))).before args0 about1 = true := code_word (m := ⟨11, 5⟩) (meth := k11m5) (c := k11c5) (by decide +kernel) rfl rfl rfl (by decide +kernel)
set_option maxRecDepth 65536 in
theorem w_c24 : (Jvm.Cond.code ({ cls := "java/util/Arrays", name := "copyOf", desc := "([Ljava/lang/Object;I)[Ljava/lang/Object;" } : Jvm.MethodName) jdk_65_method_119_code (2 : Nat) (Option.some (Jvm.ClassFile.FieldType.array (Jvm.ClassFile.FieldType.object "java/lang/Object")))).before args0 about1 = true := code_word (m := ⟨22, 3⟩) (meth := k22m3) (c := k22c3) (by decide +kernel) rfl rfl rfl (by decide +kernel)
set_option maxRecDepth 65536 in
theorem w_c25 : (Jvm.Cond.code ({ cls := "java/util/Arrays", name := "copyOf", desc := "([Ljava/lang/Object;ILjava/lang/Class;)[Ljava/lang/Object;" } : Jvm.MethodName) jdk_65_method_120_code (4 : Nat) (Option.some (Jvm.ClassFile.FieldType.array (Jvm.ClassFile.FieldType.object "java/lang/Object")))).before args0 about1 = true := code_word (m := ⟨22, 4⟩) (meth := k22m4) (c := k22c4) (by decide +kernel) rfl rfl rfl (by decide +kernel)
set_option maxRecDepth 65536 in
theorem w_c26 : (Jvm.Cond.code ({ cls := "java/lang/Math", name := "min", desc := "(II)I" } : Jvm.MethodName) jdk_29_method_69_code (2 : Nat) (Option.some Jvm.ClassFile.FieldType.int)).before args0 about1 = true := code_word (m := ⟨18, 3⟩) (meth := k18m3) (c := k18c3) (by decide +kernel) rfl rfl rfl (by decide +kernel)
set_option maxRecDepth 65536 in
theorem w_c27 : (Jvm.Cond.code ({ cls := "java/util/Collections", name := "unmodifiableList", desc := "(Ljava/util/List;)Ljava/util/List;" } : Jvm.MethodName) jdk_79_method_35_code (1 : Nat) (Option.some (Jvm.ClassFile.FieldType.object "java/util/List"))).before args0 about1 = true := code_word (m := ⟨24, 1⟩) (meth := k24m1) (c := k24c1) (by decide +kernel) rfl rfl rfl (by decide +kernel)
set_option maxRecDepth 65536 in
theorem w_c28 : (Jvm.Cond.code ({ cls := "java/util/Collections$UnmodifiableRandomAccessList", name := "<init>", desc := "(Ljava/util/List;)V" } : Jvm.MethodName) jdk_121_method_1_code (2 : Nat) (Option.none : Option Jvm.ClassFile.FieldType)).before args0 about1 = true := code_word (m := ⟨27, 0⟩) (meth := k27m0) (c := k27c0) (by decide +kernel) rfl rfl rfl (by decide +kernel)
set_option maxRecDepth 65536 in
theorem w_c29 : (Jvm.Cond.code ({ cls := "java/util/Collections$UnmodifiableList", name := "<init>", desc := "(Ljava/util/List;)V" } : Jvm.MethodName) jdk_120_method_1_code (2 : Nat) (Option.none : Option Jvm.ClassFile.FieldType)).before args0 about1 = true := code_word (m := ⟨26, 0⟩) (meth := k26m0) (c := k26c0) (by decide +kernel) rfl rfl rfl (by decide +kernel)
set_option maxRecDepth 65536 in
theorem w_c30 : (Jvm.Cond.code ({ cls := "java/util/Collections$UnmodifiableCollection", name := "<init>", desc := "(Ljava/util/Collection;)V" } : Jvm.MethodName) jdk_119_method_1_code (2 : Nat) (Option.none : Option Jvm.ClassFile.FieldType)).before args0 about1 = true := code_word (m := ⟨25, 0⟩) (meth := k25m0) (c := k25c0) (by decide +kernel) rfl rfl rfl (by decide +kernel)
set_option maxRecDepth 65536 in
theorem w_c31 : (Jvm.Cond.code ({ cls := "java/util/ArrayList", name := "size", desc := "()I" } : Jvm.MethodName) jdk_38_method_8_code (1 : Nat) (Option.some Jvm.ClassFile.FieldType.int)).before args0 about1 = true := code_word (m := ⟨11, 4⟩) (meth := k11m4) (c := k11c4) (by decide +kernel) rfl rfl rfl (by decide +kernel)
set_option maxRecDepth 65536 in
theorem w_c32 : (Jvm.Cond.code ({ cls := "java/util/ArrayList", name := "get", desc := "(I)Ljava/lang/Object;" } : Jvm.MethodName) jdk_38_method_20_code (2 : Nat) (Option.some (Jvm.ClassFile.FieldType.object "java/lang/Object"))).before args0 about1 = true := code_word (m := ⟨11, 7⟩) (meth := k11m7) (c := k11c7) (by decide +kernel) rfl rfl rfl (by decide +kernel)
set_option maxRecDepth 65536 in
theorem w_c33 : (Jvm.Cond.code ({ cls := "java/util/Objects", name := "checkIndex", desc := "(II)I" } : Jvm.MethodName) jdk_31_method_17_code (2 : Nat) (Option.some Jvm.ClassFile.FieldType.int)).before args0 about1 = true := code_word (m := ⟨28, 1⟩) (meth := k28m1) (c := k28c1) (by decide +kernel) rfl rfl rfl (by decide +kernel)
set_option maxRecDepth 65536 in
theorem w_c34 : (Jvm.Cond.code ({ cls := "jdk/internal/util/Preconditions", name := "checkIndex", desc := "(IILjava/util/function/BiFunction;)I" } : Jvm.MethodName) jdk_41_method_11_code (3 : Nat) (Option.some Jvm.ClassFile.FieldType.int)).before args0 about1 = true := code_word (m := ⟨29, 1⟩) (meth := k29m1) (c := k29c1) (by decide +kernel) rfl rfl rfl (by decide +kernel)
set_option maxRecDepth 65536 in
theorem w_c35 : (Jvm.Cond.code ({ cls := "java/util/ArrayList", name := "elementData", desc := "(I)Ljava/lang/Object;" } : Jvm.MethodName) jdk_38_method_18_code (2 : Nat) (Option.some (Jvm.ClassFile.FieldType.object "java/lang/Object"))).before args0 about1 = true := code_word (m := ⟨11, 6⟩) (meth := k11m6) (c := k11c6) (by decide +kernel) rfl rfl rfl (by decide +kernel)
set_option maxRecDepth 65536 in
theorem w_c36 : (Jvm.Cond.code ({ cls := "java/util/Arrays", name := "fill", desc := "([IIII)V" } : Jvm.MethodName) jdk_65_method_104_code (5 : Nat) (Option.none : Option Jvm.ClassFile.FieldType)).before args0 about1 = true := code_word (m := ⟨22, 2⟩) (meth := k22m2) (c := k22c2) (by decide +kernel) rfl rfl rfl (by decide +kernel)
set_option maxRecDepth 65536 in
theorem w_c37 : (Jvm.Cond.code ({ cls := "java/util/Arrays", name := "rangeCheck", desc := "(III)V" } : Jvm.MethodName) jdk_65_method_30_code (3 : Nat) (Option.none : Option Jvm.ClassFile.FieldType)).before args0 about1 = true := code_word (m := ⟨22, 1⟩) (meth := k22m1) (c := k22c1) (by decide +kernel) rfl rfl rfl (by decide +kernel)
set_option maxRecDepth 65536 in
theorem w_c38 : (Jvm.Cond.code ({ cls := "com/example/kinetic_city/kineticcity/engine/TransitNetwork", name := "arrivingSegment", desc := "(II)I" } : Jvm.MethodName) prog_23_method_9_code (3 : Nat) (Option.some Jvm.ClassFile.FieldType.int)).before args0 about1 = true := code_word (m := ⟨19, 1⟩) (meth := k19m1) (c := k19c1) (by decide +kernel) rfl rfl rfl (by decide +kernel)
def codes1 : List Jvm.Cond := [Jvm.Cond.code x code maxLocals ret, Jvm.Cond.code ({ cls := "java/util/ArrayList", name := "<init>", desc := "()V" } : Jvm.MethodName) jdk_38_method_2_code (1 : Nat) (Option.none : Option Jvm.ClassFile.FieldType), Jvm.Cond.code ({ cls := "java/util/AbstractList", name := "<init>", desc := "()V" } : Jvm.MethodName) jdk_39_method_1_code (1 : Nat) (Option.none : Option Jvm.ClassFile.FieldType), Jvm.Cond.code ({ cls := "java/util/AbstractCollection", name := "<init>", desc := "()V" } : Jvm.MethodName) jdk_22_method_1_code (1 : Nat) (Option.none : Option Jvm.ClassFile.FieldType), Jvm.Cond.code ({ cls := "java/lang/Object", name := "<init>", desc := "()V" } : Jvm.MethodName) object_method_1_code (1 : Nat) (Option.none : Option Jvm.ClassFile.FieldType), Jvm.Cond.code ({ cls := "com/example/kinetic_city/kineticcity/engine/TransitNetworkArrivingSegmentPinLaw", name := "makeLine", desc := "(I)Lcom/example/kinetic_city/kineticcity/engine/TransitLine;" } : Jvm.MethodName) method_2_code (1 : Nat) (Option.some (Jvm.ClassFile.FieldType.object "com/example/kinetic_city/kineticcity/engine/TransitLine")), Jvm.Cond.code ({ cls := "com/example/kinetic_city/kineticcity/engine/TransitLine", name := "<init>", desc := "([I[DD)V" } : Jvm.MethodName) prog_22_method_1_code (10 : Nat) (Option.none : Option Jvm.ClassFile.FieldType), Jvm.Cond.code ({ cls := "java/lang/Double", name := "isInfinite", desc := "(D)Z" } : Jvm.MethodName) jdk_117_method_7_code (2 : Nat) (Option.some Jvm.ClassFile.FieldType.boolean), Jvm.Cond.code ({ cls := "java/lang/Math", name := "abs", desc := "(D)D" } : Jvm.MethodName) jdk_29_method_64_code (2 : Nat) (Option.some Jvm.ClassFile.FieldType.double), Jvm.Cond.code ({ cls := "java/util/ArrayList", name := "add", desc := "(Ljava/lang/Object;)Z" } : Jvm.MethodName) jdk_38_method_25_code (2 : Nat) (Option.some Jvm.ClassFile.FieldType.boolean), Jvm.Cond.code ({ cls := "java/util/ArrayList", name := "add", desc := "(Ljava/lang/Object;[Ljava/lang/Object;I)V" } : Jvm.MethodName) jdk_38_method_24_code (4 : Nat) (Option.none : Option Jvm.ClassFile.FieldType), Jvm.Cond.code ({ cls := "java/util/ArrayList", name := "grow", desc := "()[Ljava/lang/Object;" } : Jvm.MethodName) jdk_38_method_7_code (1 : Nat) (Option.some (Jvm.ClassFile.FieldType.array (Jvm.ClassFile.FieldType.object "java/lang/Object"))), Jvm.Cond.code ({ cls := "java/util/ArrayList", name := "grow", desc := "(I)[Ljava/lang/Object;" } : Jvm.MethodName) jdk_38_method_6_code (4 : Nat) (Option.some (Jvm.ClassFile.FieldType.array (Jvm.ClassFile.FieldType.object "java/lang/Object"))), Jvm.Cond.code ({ cls := "java/lang/Math", name := "max", desc := "(II)I" } : Jvm.MethodName) jdk_29_method_65_code (2 : Nat) (Option.some Jvm.ClassFile.FieldType.int), Jvm.Cond.code ({ cls := "com/example/kinetic_city/kineticcity/engine/TransitNetwork", name := "<init>", desc := "(ILjava/util/List;)V" } : Jvm.MethodName) prog_23_method_1_code (10 : Nat) (Option.none : Option Jvm.ClassFile.FieldType), Jvm.Cond.code ({ cls := "java/util/ArrayList", name := "iterator", desc := "()Ljava/util/Iterator;" } : Jvm.MethodName) jdk_38_method_55_code (1 : Nat) (Option.some (Jvm.ClassFile.FieldType.object "java/util/Iterator")), Jvm.Cond.code ({ cls := "java/util/ArrayList$Itr", name := "<init>", desc := "(Ljava/util/ArrayList;)V" } : Jvm.MethodName) jdk_49_method_1_code (2 : Nat) (Option.none : Option Jvm.ClassFile.FieldType), Jvm.Cond.code ({ cls := "java/util/ArrayList$Itr", name := "hasNext", desc := "()Z" } : Jvm.MethodName) jdk_49_method_2_code (1 : Nat) (Option.some Jvm.ClassFile.FieldType.boolean), Jvm.Cond.code ({ cls := "java/util/ArrayList$Itr", name := "next", desc := "()Ljava/lang/Object;" } : Jvm.MethodName) jdk_49_method_3_code (3 : Nat) (Option.some (Jvm.ClassFile.FieldType.object "java/lang/Object")), Jvm.Cond.code ({ cls := "java/util/ArrayList$Itr", name := "checkForComodification", desc := "()V" } : Jvm.MethodName) jdk_49_method_6_code (1 : Nat) (Option.none : Option Jvm.ClassFile.FieldType), Jvm.Cond.code ({ cls := "com/example/kinetic_city/kineticcity/engine/TransitLine", name := "getStopCount", desc := "()I" } : Jvm.MethodName) prog_22_method_2_code (1 : Nat) (Option.some Jvm.ClassFile.FieldType.int), Jvm.Cond.code ({ cls := "com/example/kinetic_city/kineticcity/engine/TransitLine", name := "stopAt", desc := "(I)I" } : Jvm.MethodName) prog_22_method_3_code (2 : Nat) (Option.some Jvm.ClassFile.FieldType.int), Jvm.Cond.code ({ cls := "java/util/ArrayList", name := "<init>", desc := "(Ljava/util/Collection;)V" } : Jvm.MethodName) jdk_38_method_3_code (3 : Nat) (Option.none : Option Jvm.ClassFile.FieldType), Jvm.Cond.code ({ cls := "java/util/ArrayList", name := "toArray", desc := "()[Ljava/lang/Object;" } : Jvm.MethodName) jdk_38_method_16_code (1 : Nat) (Option.some (Jvm.ClassFile.FieldType.array (Jvm.ClassFile.FieldType.object "java/lang/Object"))), Jvm.Cond.code ({ cls := "java/util/Arrays", name := "copyOf", desc := "([Ljava/lang/Object;I)[Ljava/lang/Object;" } : Jvm.MethodName) jdk_65_method_119_code (2 : Nat) (Option.some (Jvm.ClassFile.FieldType.array (Jvm.ClassFile.FieldType.object "java/lang/Object"))), Jvm.Cond.code ({ cls := "java/util/Arrays", name := "copyOf", desc := "([Ljava/lang/Object;ILjava/lang/Class;)[Ljava/lang/Object;" } : Jvm.MethodName) jdk_65_method_120_code (4 : Nat) (Option.some (Jvm.ClassFile.FieldType.array (Jvm.ClassFile.FieldType.object "java/lang/Object"))), Jvm.Cond.code ({ cls := "java/lang/Math", name := "min", desc := "(II)I" } : Jvm.MethodName) jdk_29_method_69_code (2 : Nat) (Option.some Jvm.ClassFile.FieldType.int), Jvm.Cond.code ({ cls := "java/util/Collections", name := "unmodifiableList", desc := "(Ljava/util/List;)Ljava/util/List;" } : Jvm.MethodName) jdk_79_method_35_code (1 : Nat) (Option.some (Jvm.ClassFile.FieldType.object "java/util/List")), Jvm.Cond.code ({ cls := "java/util/Collections$UnmodifiableRandomAccessList", name := "<init>", desc := "(Ljava/util/List;)V" } : Jvm.MethodName) jdk_121_method_1_code (2 : Nat) (Option.none : Option Jvm.ClassFile.FieldType), Jvm.Cond.code ({ cls := "java/util/Collections$UnmodifiableList", name := "<init>", desc := "(Ljava/util/List;)V" } : Jvm.MethodName) jdk_120_method_1_code (2 : Nat) (Option.none : Option Jvm.ClassFile.FieldType), Jvm.Cond.code ({ cls := "java/util/Collections$UnmodifiableCollection", name := "<init>", desc := "(Ljava/util/Collection;)V" } : Jvm.MethodName) jdk_119_method_1_code (2 : Nat) (Option.none : Option Jvm.ClassFile.FieldType), Jvm.Cond.code ({ cls := "java/util/ArrayList", name := "size", desc := "()I" } : Jvm.MethodName) jdk_38_method_8_code (1 : Nat) (Option.some Jvm.ClassFile.FieldType.int), Jvm.Cond.code ({ cls := "java/util/ArrayList", name := "get", desc := "(I)Ljava/lang/Object;" } : Jvm.MethodName) jdk_38_method_20_code (2 : Nat) (Option.some (Jvm.ClassFile.FieldType.object "java/lang/Object")), Jvm.Cond.code ({ cls := "java/util/Objects", name := "checkIndex", desc := "(II)I" } : Jvm.MethodName) jdk_31_method_17_code (2 : Nat) (Option.some Jvm.ClassFile.FieldType.int), Jvm.Cond.code ({ cls := "jdk/internal/util/Preconditions", name := "checkIndex", desc := "(IILjava/util/function/BiFunction;)I" } : Jvm.MethodName) jdk_41_method_11_code (3 : Nat) (Option.some Jvm.ClassFile.FieldType.int), Jvm.Cond.code ({ cls := "java/util/ArrayList", name := "elementData", desc := "(I)Ljava/lang/Object;" } : Jvm.MethodName) jdk_38_method_18_code (2 : Nat) (Option.some (Jvm.ClassFile.FieldType.object "java/lang/Object")), Jvm.Cond.code ({ cls := "java/util/Arrays", name := "fill", desc := "([IIII)V" } : Jvm.MethodName) jdk_65_method_104_code (5 : Nat) (Option.none : Option Jvm.ClassFile.FieldType), Jvm.Cond.code ({ cls := "java/util/Arrays", name := "rangeCheck", desc := "(III)V" } : Jvm.MethodName) jdk_65_method_30_code (3 : Nat) (Option.none : Option Jvm.ClassFile.FieldType), Jvm.Cond.code ({ cls := "com/example/kinetic_city/kineticcity/engine/TransitNetwork", name := "arrivingSegment", desc := "(II)I" } : Jvm.MethodName) prog_23_method_9_code (3 : Nat) (Option.some Jvm.ClassFile.FieldType.int)]
set_option maxRecDepth 65536 in
theorem codes_eq : words1.filter isCode = codes1 := rfl
theorem w_codes : ∀ c ∈ words1.filter isCode, c.before args0 about1 = true := by
  rw [codes_eq]
  intro c hc
  simp only [codes1, List.mem_cons, List.not_mem_nil, or_false] at hc
  rcases hc with rfl | rfl | rfl | rfl | rfl | rfl | rfl | rfl | rfl | rfl | rfl | rfl | rfl | rfl | rfl | rfl | rfl | rfl | rfl | rfl | rfl | rfl | rfl | rfl | rfl | rfl | rfl | rfl | rfl | rfl | rfl | rfl | rfl | rfl | rfl | rfl | rfl | rfl | rfl
  · exact w_c0
  · exact w_c1
  · exact w_c2
  · exact w_c3
  · exact w_c4
  · exact w_c5
  · exact w_c6
  · exact w_c7
  · exact w_c8
  · exact w_c9
  · exact w_c10
  · exact w_c11
  · exact w_c12
  · exact w_c13
  · exact w_c14
  · exact w_c15
  · exact w_c16
  · exact w_c17
  · exact w_c18
  · exact w_c19
  · exact w_c20
  · exact w_c21
  · exact w_c22
  · exact w_c23
  · exact w_c24
  · exact w_c25
  · exact w_c26
  · exact w_c27
  · exact w_c28
  · exact w_c29
  · exact w_c30
  · exact w_c31
  · exact w_c32
  · exact w_c33
  · exact w_c34
  · exact w_c35
  · exact w_c36
  · exact w_c37
  · exact w_c38
set_option maxRecDepth 65536 in
theorem w_t1 : (words1.take 24).all (fun c => isCode c || c.before args0 about1) = true := by decide +kernel
set_option maxRecDepth 65536 in
theorem w_t2 : ((words1.drop 24).take 24).all (fun c => isCode c || c.before args0 about1) = true := by decide +kernel
set_option maxRecDepth 65536 in
theorem w_t3 : (((words1.drop 24).drop 24).take 24).all (fun c => isCode c || c.before args0 about1) = true := by decide +kernel
set_option maxRecDepth 65536 in
theorem w_t4 : ((((words1.drop 24).drop 24).drop 24).take 24).all (fun c => isCode c || c.before args0 about1) = true := by decide +kernel
set_option maxRecDepth 65536 in
theorem w_t5 : (((((words1.drop 24).drop 24).drop 24).drop 24).take 24).all (fun c => isCode c || c.before args0 about1) = true := by decide +kernel
set_option maxRecDepth 65536 in
theorem w_t6 : ((((((words1.drop 24).drop 24).drop 24).drop 24).drop 24).take 24).all (fun c => isCode c || c.before args0 about1) = true := by decide +kernel
set_option maxRecDepth 65536 in
theorem w_t7 : (((((((words1.drop 24).drop 24).drop 24).drop 24).drop 24).drop 24).take 24).all (fun c => isCode c || c.before args0 about1) = true := by decide +kernel
set_option maxRecDepth 65536 in
theorem w_t8 : ((((((((words1.drop 24).drop 24).drop 24).drop 24).drop 24).drop 24).drop 24).take 24).all (fun c => isCode c || c.before args0 about1) = true := by decide +kernel
set_option maxRecDepth 65536 in
theorem w_t9 : (((((((((words1.drop 24).drop 24).drop 24).drop 24).drop 24).drop 24).drop 24).drop 24).take 24).all (fun c => isCode c || c.before args0 about1) = true := by decide +kernel
set_option maxRecDepth 65536 in
theorem w_t10 : ((((((((((words1.drop 24).drop 24).drop 24).drop 24).drop 24).drop 24).drop 24).drop 24).drop 24).take 24).all (fun c => isCode c || c.before args0 about1) = true := by decide +kernel
set_option maxRecDepth 65536 in
theorem w_t11 : (((((((((((words1.drop 24).drop 24).drop 24).drop 24).drop 24).drop 24).drop 24).drop 24).drop 24).drop 24).take 24).all (fun c => isCode c || c.before args0 about1) = true := by decide +kernel
set_option maxRecDepth 65536 in
theorem w_t12 : ((((((((((((words1.drop 24).drop 24).drop 24).drop 24).drop 24).drop 24).drop 24).drop 24).drop 24).drop 24).drop 24).take 24).all (fun c => isCode c || c.before args0 about1) = true := by decide +kernel
set_option maxRecDepth 65536 in
theorem w_t13 : ((((((((((((words1.drop 24).drop 24).drop 24).drop 24).drop 24).drop 24).drop 24).drop 24).drop 24).drop 24).drop 24).drop 24).all (fun c => isCode c || c.before args0 about1) = true := by decide +kernel
theorem w_tables : (allAtoms (Jvm.Cond.code x code maxLocals ret :: tables_1)).before args0 about1 = true := by
  rw [allAtoms_all]
  show words1.all (fun c => c.before args0 about1) = true
  refine all_split ?_ w_codes
  rw [← List.take_append_drop 24 words1, List.all_append, w_t1, ← List.take_append_drop 24 (words1.drop 24), List.all_append, w_t2, ← List.take_append_drop 24 ((words1.drop 24).drop 24), List.all_append, w_t3, ← List.take_append_drop 24 (((words1.drop 24).drop 24).drop 24), List.all_append, w_t4, ← List.take_append_drop 24 ((((words1.drop 24).drop 24).drop 24).drop 24), List.all_append, w_t5, ← List.take_append_drop 24 (((((words1.drop 24).drop 24).drop 24).drop 24).drop 24), List.all_append, w_t6, ← List.take_append_drop 24 ((((((words1.drop 24).drop 24).drop 24).drop 24).drop 24).drop 24), List.all_append, w_t7, ← List.take_append_drop 24 (((((((words1.drop 24).drop 24).drop 24).drop 24).drop 24).drop 24).drop 24), List.all_append, w_t8, ← List.take_append_drop 24 ((((((((words1.drop 24).drop 24).drop 24).drop 24).drop 24).drop 24).drop 24).drop 24), List.all_append, w_t9, ← List.take_append_drop 24 (((((((((words1.drop 24).drop 24).drop 24).drop 24).drop 24).drop 24).drop 24).drop 24).drop 24), List.all_append, w_t10, ← List.take_append_drop 24 ((((((((((words1.drop 24).drop 24).drop 24).drop 24).drop 24).drop 24).drop 24).drop 24).drop 24).drop 24), List.all_append, w_t11, ← List.take_append_drop 24 (((((((((((words1.drop 24).drop 24).drop 24).drop 24).drop 24).drop 24).drop 24).drop 24).drop 24).drop 24).drop 24), List.all_append, w_t12, w_t13]
  rfl
set_option maxRecDepth 65536 in
theorem w_rest : rest_1_c.before args0 about1 = true := by decide +kernel
set_option maxRecDepth 65536 in
theorem w_case : (Jvm.Cond.and given_1 narrow_1).before args0 about1 = true := by decide +kernel
theorem w_applies : (headSpec (Jvm.Cond.code x code maxLocals ret :: tables_1) room_1).applies x e0.platform about1 = true :=
  (Spec.applies_iff w_frames).mpr ⟨w_running, w_runnable, w_alone, w_named, w_hears, w_ripe, w_room, w_tables⟩
theorem atStart : AtStart classFile x code maxLocals ret World_1 tables_1 room_1 Calls_1 rest_1 Pre_1 launch0 p0 e0 about1 theMethod args0 below0 :=
  ⟨lists_1, trivial, launch0.admits_env _ _ _, launch0.least_env, fairChoices_fair.cas, fairChoices_fair.clock, w_frames, w_args, w_heap, w_applies, ⟨⟨35, k35, 1, by decide +kernel, rfl, rfl, _, rfl, rfl⟩, ⟨⟨11, k11, 2, by decide +kernel, rfl, rfl, _, rfl, rfl⟩, ⟨⟨26, k26, 3, by decide +kernel, rfl, rfl, _, rfl, rfl⟩, ⟨⟨27, k27, 4, by decide +kernel, rfl, rfl, _, rfl, rfl⟩, trivial⟩⟩⟩⟩, w_rest, w_case⟩
end start1
theorem witness_1 : WitnessClaimed_1 := ⟨start1.p0, start1.e0, start1.about1, start1.theMethod, start1.args0, start1.below0, start1.atStart⟩
end Jvm.Pilot.@@N@@
