import JvmDerived
import JvmDerived.Pilot.@@N@@Statement
import JvmDerived.Pilot.@@N@@Code
set_option linter.unusedVariables false
set_option linter.unusedSimpArgs false
namespace Jvm.Pilot.@@N@@
open Jvm Jvm.ClassFile Sem Op Lib Jvm.Free Jvm.Stand Jvm.LawKit Jvm.RoadKit Bundle Jvm.Pilot.@@N@@.Jvm.D

/-- the run that stands at T with the top frame f ends, and its end is as P says -/
def Go (p : Program) (e : Env) (below : List Frame) (P : Outcome → State → Prop) (T : State) (f : JFrame) : Prop :=
  ∃ s₂ o, Steps p.tables e below (T.setTop f) s₂ ∧ s₂.status = .running ∧ Ended s₂ below o ∧ P o s₂
theorem Go.st {p : Program} {e : Env} {below : List Frame} {P : Outcome → State → Prop} {T T' : State} {f f' : JFrame}
    (h : ∀ t, Steps p.tables e below (T'.setTop f') t → Steps p.tables e below (T.setTop f) t) (k : Go p e below P T' f') : Go p e below P T f := by
  obtain ⟨s₂, o, a, b⟩ := k
  exact ⟨s₂, o, h _ a, b⟩
theorem Go.tr {p : Program} {e : Env} {below : List Frame} {P : Outcome → State → Prop} {T T' : State} {f f' : JFrame}
    (h : Steps p.tables e below (T.setTop f) (T'.setTop f')) (k : Go p e below P T' f') : Go p e below P T f := by
  obtain ⟨s₂, o, a, b⟩ := k
  exact ⟨s₂, o, h.trans a, b⟩
/-- what a contract says of the end -/
abbrev Done (s : State) (Q : Option Value → Heap → List Loc → Prop) (C S : Nat) (o : Outcome) (U' : State) : Prop :=
  ∃ v L, o = .returned v ∧ Q v U'.heap L ∧ FrameEnd s o U' L C S
theorem Go.ret {p : Program} {l : Launch} {e : Env} {R : Room} {s : State} {m : MethodId} {args : Array Value} {below : List Frame} {meth : Method} {c : Code} {T : State} {locs : List Loc} {cells slots : Nat} {h : Heap}
    {Q : Option Value → Heap → List Loc → Prop} {C S : Nat} {v : Option Value} {f : JFrame}
    (X : Stand p l e R s m args below meth c T locs cells slots) (hlk : meth.locks = false) (hv : meth.sig.returnType = none → v = none)
    (hs : ∀ fs, (∀ (f : JFrame) (acts : List Action), f.method = m → f.locked = none → f.entered = [] → (doReturn e (T.setTop f) acts v).1 = T.setFrames fs) → Steps p.tables e below (T.setTop f) (T.setFrames fs))
    (eT : T.heap = h) (hQ : Q v h locs) (hc : cells ≤ C) (hl : slots ≤ S) : Go p e below (Done s Q C S) T f := by
  obtain ⟨fs, hr, hrun, hended, hW, hsame⟩ := X.leave (v := v) hv hlk
  refine ⟨_, _, hs fs hr, hrun, hended, v, locs, rfl, ?_, ⟨_, rfl⟩, hW, hsame.mono hc hl⟩
  show Q v T.heap locs
  rw [eT]; exact hQ
theorem Go.retB {p : Program} {l : Launch} {e : Env} {R : Room} {s : State} {m : MethodId} {args : Array Value} {below : List Frame} {meth : Method} {c : Code} {T : State} {locs : List Loc} {cells slots : Nat} {h : Heap}
    {Q : Option Value → Heap → List Loc → Prop} {C S : Nat} {pc : Nat} {Ls : Array Slot} {z : Int32} {rest : List Value} {t : FieldType}
    (X : Stand p l e R s m args below meth c T locs cells slots) (hlk : meth.locks = false) (hx : p.tables.exec = Jvm.exec) (hret : meth.sig.returnType = some t) (ht : t = .boolean ∨ t = .byte ∨ t = .char ∨ t = .short)
    (hd : decode c.code pc = .ok (.ireturn, 1)) (eT : T.heap = h) (hQ : Q (some (.int (nar t z))) h locs) (hc : cells ≤ C) (hl : slots ≤ S) : Go p e below (Done s Q C S) T (mkF m pc Ls (.int z :: rest)) :=
  Go.ret X hlk (fun h => by rw [hret] at h; cases h) (fun _ hr => retN X hx hret ht hd hr) eT hQ hc hl
theorem Go.retV {p : Program} {l : Launch} {e : Env} {R : Room} {s : State} {m : MethodId} {args : Array Value} {below : List Frame} {meth : Method} {c : Code} {T : State} {locs : List Loc} {cells slots : Nat} {h : Heap}
    {Q : Option Value → Heap → List Loc → Prop} {C S : Nat} {pc : Nat} {Ls : Array Slot} {w : Value} {rest : List Value} {t : FieldType} {i : Instr}
    (X : Stand p l e R s m args below meth c T locs cells slots) (hlk : meth.locks = false) (hx : p.tables.exec = Jvm.exec) (hret : meth.sig.returnType = some t) (hn : narrow t w = w)
    (hi : (i = .ireturn ∧ (t = .int ∨ t = .boolean ∨ t = .byte ∨ t = .char ∨ t = .short) ∧ ∃ z, w = .int z) ∨ (i = .lreturn ∧ t = .long ∧ ∃ z, w = .long z) ∨ (i = .dreturn ∧ t = .double ∧ ∃ z, w = .double z) ∨ (i = .freturn ∧ t = .float ∧ ∃ z, w = .float z) ∨ (i = .areturn ∧ t.isReference = true ∧ w.isRef = true))
    (hd : decode c.code pc = .ok (i, 1)) (eT : T.heap = h) (hQ : Q (some w) h locs) (hc : cells ≤ C) (hl : slots ≤ S) : Go p e below (Done s Q C S) T (mkF m pc Ls (w :: rest)) :=
  Go.ret X hlk (fun h => by rw [hret] at h; cases h) (fun _ hr => retOut X hx hret hn hi hd hr) eT hQ hc hl
theorem Go.ret0 {p : Program} {l : Launch} {e : Env} {R : Room} {s : State} {m : MethodId} {args : Array Value} {below : List Frame} {meth : Method} {c : Code} {T : State} {locs : List Loc} {cells slots : Nat} {h : Heap}
    {Q : Option Value → Heap → List Loc → Prop} {C S : Nat} {pc : Nat} {Ls : Array Slot}
    (X : Stand p l e R s m args below meth c T locs cells slots) (hlk : meth.locks = false) (hx : p.tables.exec = Jvm.exec) (hret : meth.sig.returnType = none)
    (hd : decode c.code pc = .ok (.return_, 1)) (eT : T.heap = h) (hQ : Q none h locs) (hc : cells ≤ C) (hl : slots ≤ S) : Go p e below (Done s Q C S) T (mkF m pc Ls []) :=
  Go.ret X hlk (fun _ => rfl) (fun _ hr => X.returnOut hx hret hd hr) eT hQ hc hl
/-- an entry that stands resolved stays so, also where String constants are loaded -/
theorem own_fieldRef {Z : State} {vm1 : Vm} {a0 : Array Value} {own O n d : String} {index : Nat} (hW : Z.Warmed39 vm1) (w : (Cond.fieldRef own index O n d).before a0 Z = true) : (Cond.fieldRef own index O n d).before a0 (Z.setVm vm1) = true := by
  simp only [Cond.before, Cond.holds, Cond.value, State.vm_setVm, hW.alike.findClass, State.names_setVm hW.alike] at w ⊢
  cases q1 : Z.vm.findClass own with
  | none => rw [q1] at w; simp at w
  | some cO =>
    cases q2 : Z.fieldFound? O n d with
    | none => rw [q1, q2] at w; simp at w
    | some z =>
      obtain ⟨c1, k1, i1, f1⟩ := z
      obtain ⟨k2, q3, -⟩ := State.fieldFound?_setVm hW.alike q2
      rw [q1, q2] at w
      rw [q3]
      cases q4 : Z.resolvedAt? own index with
      | none => rw [q4] at w; simp at w
      | some r => rw [State.resolvedAt?_warmed39 hW q4]; rw [q4] at w; exact w
/-- getfield through an entry that stands resolved at the start (the word fieldRef) -/
theorem own_getR {p : Program} {l : Launch} {e : Env} {R : Room} {s : State} {m : MethodId} {args : Array Value} {below : List Frame} {meth : Method} {c : Code} {T : State} {locs : List Loc} {cells slots : Nat} {Z : State} {a0 : Array Value} {h : Heap}
    (X : Stand p l e R s m args below meth c T locs cells slots) (hx : p.tables.exec = Jvm.exec) (hZ : Z.Warmed39 s.vm) {own O n d : String} {index : Nat} (hown : s.vm.findClass own = some m.cls) (w : (Cond.fieldRef own index O n d).before a0 Z = true)
    (eT : T.heap = h) {a : Addr} {v : Value} (F : Fld Z h a O n d v) {g : JFrame} (hg : g.method = m) {rest : List Value} (hs : g.stack = .ref a :: rest) (hd : decode c.code g.pc = .ok (.getfield index, 3)) :
    ∃ T', Stand p l e R s m args below meth c T' locs cells slots ∧ T'.heap = h ∧ ∀ target, Steps p.tables e below (T'.setTop { g with pc := g.pc + 3, stack := v :: rest }) target → Steps p.tables e below (T.setTop g) target := by
  obtain ⟨cell, cf, k, i, f, h1, h2, h3, h4, -, -, h7⟩ := F
  have w1 : (Cond.fieldRef own index O n d).before args s = true := (own_fieldRef hZ w : (Cond.fieldRef own index O n d).before a0 (Z.setVm s.vm) = true)
  have w2 := Cond.fieldRef_warmed X.warmed w1
  obtain ⟨k1, r1, -⟩ := State.fieldFound?_setVm (s := Z) hZ.alike h2
  obtain ⟨k2, r2, -⟩ := State.fieldFound?_setVm (s := s) X.warmed.alike (show s.fieldFound? O n d = _ from r1)
  obtain ⟨c', k', i', f', q1, q2⟩ := Cond.fieldRef_spec (s := s.setVm T.vm) (cur := m.cls) (by rw [State.vm_setVm, X.warmed.alike.findClass]; exact hown) w2
  cases q1.symm.trans r2
  exact ⟨T, X, eT, fun target k => (X.getfieldR hx hg q2 h3 hs (by rw [eT]; exact h1) h4 h7 hd (Steps.refl _)).trans k⟩
/-- the form of every contract here -/
def Con (l : Launch) (Z : State) (y : MethodName) (bytes : ByteArray) (ml : Nat) (ret : Option FieldType) (ws : List Jvm.Cond) (room : Room) (A : Array Value) (h0 : Heap) (Q : Option Value → Heap → List Loc → Prop) : Prop :=
  MetFree l y (head1 (Jvm.Cond.code y bytes ml ret :: ws) room) (fun a U => a = A ∧ Z.Warmed39 U.vm ∧ U.heap = h0) (fun _ _ _ _ _ => True) (fun _ U o U' => ∃ v L, o = .returned v ∧ Q v U'.heap L ∧ FrameEnd U o U' L room.cells room.slots)
theorem own_body {l : Launch} {Z : State} {y : MethodName} {bytes : ByteArray} {ml : Nat} {ret : Option FieldType} {ws : List Jvm.Cond} {room : Room} {A : Array Value} {h0 : Heap} {Q : Option Value → Heap → List Loc → Prop} (hpn : plainFor y = true)
    (body : ∀ (p : Program) (e : Env) (s : State) (m : MethodId) (below : List Frame) (meth : Method) (c : Code) (s₁ : State), p.tables.exec = Jvm.exec → c.code = bytes → c.maxLocals = ml → Z.Warmed39 s.vm → s.vm.findClass y.cls = some m.cls → meth.name = y.name → meth.locks = false → meth.sig.returnType = ret →
      Stand p l e room s m A below meth c s₁ [] 0 0 → s₁.heap = h0 → Go p e below (Done s Q room.cells room.slots) s₁ (entryFrame m A ml)) : Con l Z y bytes ml ret ws room A h0 Q := by
  refine MetFree.of_bodySF hpn hisR ?_
  intro p e s m args below meth c s₁ Bd hml0 hP hK
  obtain ⟨rfl, hZ, hh⟩ := hP
  exact body p e s m below meth c s₁ Bd.exec Bd.bytes hml0 hZ (findClass_of_methodNamed Bd.named) (name_of_methodNamed Bd.named Bd.method).1 Bd.notSynchronized Bd.returns (Stand.of_body Bd) (by rw [← hh, Bd.state]; rfl)
theorem own_back {l : Launch} {R : Room} {p : Program} {e : Env} {below : List Frame} {s Z : State} {args a0 : Array Value} {h : Heap} {y : MethodName} {bytes : ByteArray} {maxL : Nat} {ret : Option FieldType} {rm : Room} {len W : Nat} {as' : Array Value} {Q : Option Value → Heap → List Loc → Prop}
    (hM : Con l Z y bytes maxL ret [] rm as' h Q) (hZ : Z.Warmed39 s.vm) (wc : (Cond.code y bytes maxL ret).before a0 Z = true) (wz : (Cond.initialized y.cls).before a0 Z = true) (hf : rm.frames + 1 ≤ R.frames) (hl : W + (maxL + 11) + rm.locals ≤ R.locals) :
    Back l R p e below s args y len W (fun A a => a = as' ∧ A.U.heap = h ∧ A.cells + rm.cells ≤ R.cells ∧ A.slots + rm.slots ≤ R.slots)
      (fun A _ v B => ∃ L, Q v B.U.heap L ∧ B.locs = A.locs ++ L ∧ B.cells = A.cells + rm.cells ∧ B.slots = A.slots + rm.slots) := backOf (Q := Q) hM hZ wc wz hf hl
theorem Con.weaken {l : Launch} {Z : State} {y : MethodName} {bytes : ByteArray} {ml : Nat} {ret : Option FieldType} {ws : List Jvm.Cond} {room : Room} {A : Array Value} {h0 : Heap} {Q Q' : Option Value → Heap → List Loc → Prop} (h : Con l Z y bytes ml ret ws room A h0 Q) (hq : ∀ v h L, Q v h L → Q' v h L) : Con l Z y bytes ml ret ws room A h0 Q' := fun p e h1 h2 h3 s m args below hf happ hP hK => by
  obtain ⟨n, o, a, b, c, v, L, d, e, f⟩ := h p e h1 h2 h3 s m args below hf happ hP hK
  exact ⟨n, o, a, b, c, v, L, d, hq _ _ _ e, f⟩
theorem own_cat {v : Value} (h : v.isRef = true) : v.category = 1 := by cases v <;> first | rfl | (simp [Value.isRef] at h)
theorem acYes {c : ClassFile.ACond} {x y : Value} (h : x = y) : acV c (decide (x = y)) = acV c true := by rw [decide_eq_true h]

theorem own_weaken {l : Launch} {x : MethodName} {S : Spec} {P : Array Value → State → Prop} {K : Program → Env → List Frame → State → Array Value → Prop} {Q Q' : Array Value → State → Outcome → State → Prop} (h : MetFree l x S P K Q) (hq : ∀ a s o t, Q a s o t → Q' a s o t) : MetFree l x S P K Q' := fun p e h1 h2 h3 s m args below hf happ hP hK => by
  obtain ⟨n, o, a, b, c, d⟩ := h p e h1 h2 h3 s m args below hf happ hP hK
  exact ⟨n, o, a, b, c, hq _ _ _ _ d⟩
section Start
variable {args : Array Value} {first s : State} {o : Option Outcome} {idx : List Nat} {t u : Term}
theorem own_eq_int {k : Int32} (h : (Jvm.Cond.eq t (.int k)).value args first o s idx = some true) : t.eval args first o idx s = some (.int k) := by
  simp only [Cond.value, Term.eval] at h
  cases ht : t.eval args first o idx s with
  | none => simp [ht] at h
  | some x => cases x <;> simp [ht] at h ⊢ <;> exact h
theorem own_eq_ref {a : Addr} (h : (Jvm.Cond.eq t u).value args first o s idx = some true) (hu : u.eval args first o idx s = some (.ref a)) : t.eval args first o idx s = some (.ref a) := by
  simp only [Cond.value] at h
  rw [hu] at h
  cases ht : t.eval args first o idx s with
  | none => simp [ht] at h
  | some x => cases x <;> simp [ht] at h ⊢ <;> exact h
theorem own_len {a : Addr} {cl : Cell} {z : Int32} (h : (Term.length t).eval args first o idx s = some (.int z)) (ht : t.eval args first o idx s = some (.ref a)) (hc : s.heap[a]? = some cl) : cl.slots.size < 2 ^ 31 ∧ cl.slots.size.toInt32 = z := by
  obtain ⟨a', cell, e1, e2, e3⟩ := Term.length_spec h
  cases ht.symm.trans e1
  have e4 := (State.arrayAt?_spec e2).1
  cases hc.symm.trans e4
  refine ⟨?_, (Value.int.inj e3).symm⟩
  by_cases hn : cl.slots.size < 2147483648
  · exact hn
  · simp only [Term.eval, Option.bind_eq_bind, ht, Option.bind_some, e2] at h
    rw [if_neg hn] at h; cases h
theorem own_ne_int {z : Int32} (h : (Jvm.Cond.not (Jvm.Cond.eq t (.int 0))).value args first o s idx = some true) (ht : t.eval args first o idx s = some (.int z)) : ¬ z = 0 := by
  have h1 := not_v h
  intro e
  subst e
  simp [Cond.value, Term.eval, ht] at h1
theorem own_fld {a : Addr} {C n d : String} {k : Int32} (h : (Jvm.Cond.eq (Term.field t C n d) (.int k)).value args s none s [] = some true) (ht : t.eval args s none [] s = some (.ref a)) : Fld s s.heap a C n d (.int k) :=
  Fld.start (by rw [← fld_at ht]; exact own_eq_int h)
theorem own_elem {a : Addr} {cl : Cell} {w : Addr} {j : Int32} {i : Nat} (h : (Jvm.Cond.eq (Term.elem t (.int j)) u).value args s none s [] = some true) (hu : u.eval args s none [] s = some (.ref w)) (ht : t.eval args s none [] s = some (.ref a)) (hc : s.heap[a]? = some cl) (hj : j.toNatClampNeg = i) : cl.slots[i]? = some (.ref w) := by
  subst hj
  exact (elem_in (own_eq_ref h hu) ht rfl hc).2
end Start

/-- what a contract says of the end, where String constants may have been loaded -/
abbrev DoneW (s Z : State) (EL : List (String × Nat)) (Q : Option Value → Heap → List Loc → Prop) (C S : Nat) (o : Outcome) (U' : State) : Prop :=
  ∃ v L, o = .returned v ∧ Q v U'.heap L ∧ CHr Z EL s.vm s.heap U'.vm U'.heap ∧ ReturnedEndW s o U' L C S
theorem GoW.ret {p : Program} {l : Launch} {e : Env} {R : Room} {s Z : State} {a0 : Array Value} {EL : List (String × Nat)} {vm1 : Vm} {m : MethodId} {args : Array Value} {below : List Frame} {meth : Method} {c : Code} {T : State} {locs : List Loc} {cells slots : Nat} {h h0 : Heap} {k0 : Nat}
    {Q : Option Value → Heap → List Loc → Prop} {C S : Nat} {v : Option Value} {f : JFrame}
    (X : Stand p l e R (s.setVm vm1) m args below meth c T locs cells slots) (hlk : meth.locks = false) (hv : meth.sig.returnType = none → v = none)
    (hs : ∀ fs, (∀ (f : JFrame) (acts : List Action), f.method = m → f.locked = none → f.entered = [] → (doReturn e (T.setTop f) acts v).1 = T.setFrames fs) → Steps p.tables e below (T.setTop f) (T.setFrames fs))
    (eT : T.heap = h) (hS : s.Since vm1 k0) (hk : k0 ≤ h.size) (hZ : Z.Warmed39 vm1) (hEL : EW Z a0 EL) (cr : CHr Z EL s.vm h0 vm1 h) (hh : s.heap = h0) (hQ : Q v h locs) (hc : cells ≤ C) (hl : slots ≤ S) : Go p e below (DoneW s Z EL Q C S) T f := by
  obtain ⟨fs, hr, hrun, hended, hW⟩ := X.leaveW hS (by rw [eT]; exact hk) (v := v) hv hlk
  have cr2 := cr.trans (CHv.at X hZ hEL cr.1)
  subst eT hh
  exact ⟨_, _, hs fs hr, hrun, hended, v, locs, rfl, hQ, cr2, hW.1, hW.2.1, hW.2.2.1, hW.2.2.2.mono hc hl⟩
theorem GoW.retB {p : Program} {l : Launch} {e : Env} {R : Room} {s Z : State} {a0 : Array Value} {EL : List (String × Nat)} {vm1 : Vm} {m : MethodId} {args : Array Value} {below : List Frame} {meth : Method} {c : Code} {T : State} {locs : List Loc} {cells slots : Nat} {h h0 : Heap} {k0 : Nat}
    {Q : Option Value → Heap → List Loc → Prop} {C S : Nat} {pc : Nat} {Ls : Array Slot} {z : Int32} {rest : List Value} {t : FieldType}
    (X : Stand p l e R (s.setVm vm1) m args below meth c T locs cells slots) (hlk : meth.locks = false) (hx : p.tables.exec = Jvm.exec) (hret : meth.sig.returnType = some t) (ht : t = .boolean ∨ t = .byte ∨ t = .char ∨ t = .short)
    (hd : decode c.code pc = .ok (.ireturn, 1)) (eT : T.heap = h) (hS : s.Since vm1 k0) (hk : k0 ≤ h.size) (hZ : Z.Warmed39 vm1) (hEL : EW Z a0 EL) (cr : CHr Z EL s.vm h0 vm1 h) (hh : s.heap = h0) (hQ : Q (some (.int (nar t z))) h locs) (hc : cells ≤ C) (hl : slots ≤ S) : Go p e below (DoneW s Z EL Q C S) T (mkF m pc Ls (.int z :: rest)) :=
  GoW.ret X hlk (fun h => by rw [hret] at h; cases h) (fun _ hr => retN X hx hret ht hd hr) eT hS hk hZ hEL cr hh hQ hc hl
theorem GoW.retV {p : Program} {l : Launch} {e : Env} {R : Room} {s Z : State} {a0 : Array Value} {EL : List (String × Nat)} {vm1 : Vm} {m : MethodId} {args : Array Value} {below : List Frame} {meth : Method} {c : Code} {T : State} {locs : List Loc} {cells slots : Nat} {h h0 : Heap} {k0 : Nat}
    {Q : Option Value → Heap → List Loc → Prop} {C S : Nat} {pc : Nat} {Ls : Array Slot} {w : Value} {rest : List Value} {t : FieldType} {i : Instr}
    (X : Stand p l e R (s.setVm vm1) m args below meth c T locs cells slots) (hlk : meth.locks = false) (hx : p.tables.exec = Jvm.exec) (hret : meth.sig.returnType = some t) (hn : narrow t w = w)
    (hi : (i = .ireturn ∧ (t = .int ∨ t = .boolean ∨ t = .byte ∨ t = .char ∨ t = .short) ∧ ∃ z, w = .int z) ∨ (i = .lreturn ∧ t = .long ∧ ∃ z, w = .long z) ∨ (i = .dreturn ∧ t = .double ∧ ∃ z, w = .double z) ∨ (i = .freturn ∧ t = .float ∧ ∃ z, w = .float z) ∨ (i = .areturn ∧ t.isReference = true ∧ w.isRef = true))
    (hd : decode c.code pc = .ok (i, 1)) (eT : T.heap = h) (hS : s.Since vm1 k0) (hk : k0 ≤ h.size) (hZ : Z.Warmed39 vm1) (hEL : EW Z a0 EL) (cr : CHr Z EL s.vm h0 vm1 h) (hh : s.heap = h0) (hQ : Q (some w) h locs) (hc : cells ≤ C) (hl : slots ≤ S) : Go p e below (DoneW s Z EL Q C S) T (mkF m pc Ls (w :: rest)) :=
  GoW.ret X hlk (fun h => by rw [hret] at h; cases h) (fun _ hr => retOut X hx hret hn hi hd hr) eT hS hk hZ hEL cr hh hQ hc hl
theorem GoW.ret0 {p : Program} {l : Launch} {e : Env} {R : Room} {s Z : State} {a0 : Array Value} {EL : List (String × Nat)} {vm1 : Vm} {m : MethodId} {args : Array Value} {below : List Frame} {meth : Method} {c : Code} {T : State} {locs : List Loc} {cells slots : Nat} {h h0 : Heap} {k0 : Nat}
    {Q : Option Value → Heap → List Loc → Prop} {C S : Nat} {pc : Nat} {Ls : Array Slot}
    (X : Stand p l e R (s.setVm vm1) m args below meth c T locs cells slots) (hlk : meth.locks = false) (hx : p.tables.exec = Jvm.exec) (hret : meth.sig.returnType = none)
    (hd : decode c.code pc = .ok (.return_, 1)) (eT : T.heap = h) (hS : s.Since vm1 k0) (hk : k0 ≤ h.size) (hZ : Z.Warmed39 vm1) (hEL : EW Z a0 EL) (cr : CHr Z EL s.vm h0 vm1 h) (hh : s.heap = h0) (hQ : Q none h locs) (hc : cells ≤ C) (hl : slots ≤ S) : Go p e below (DoneW s Z EL Q C S) T (mkF m pc Ls []) :=
  GoW.ret X hlk (fun _ => rfl) (fun _ hr => X.returnOut hx hret hd hr) eT hS hk hZ hEL cr hh hQ hc hl
/-- the form of a contract of a body that may load String constants -/
def ConW (l : Launch) (Z : State) (EL : List (String × Nat)) (y : MethodName) (bytes : ByteArray) (ml : Nat) (ret : Option FieldType) (ws : List Jvm.Cond) (room : Room) (A : Array Value) (h0 : Heap) (Q : Option Value → Heap → List Loc → Prop) : Prop :=
  MetFree l y (head1 (Jvm.Cond.code y bytes ml ret :: ws) room) (fun a U => a = A ∧ Z.Warmed39 U.vm ∧ U.heap = h0 ∧ CHv Z EL U.vm h0) (fun _ _ _ _ _ => True) (fun _ U o U' => ∃ v L, o = .returned v ∧ Q v U'.heap L ∧ CHr Z EL U.vm U.heap U'.vm U'.heap ∧ ReturnedEndW U o U' L room.cells room.slots)
theorem own_bodyW {l : Launch} {Z : State} {EL : List (String × Nat)} {y : MethodName} {bytes : ByteArray} {ml : Nat} {ret : Option FieldType} {ws : List Jvm.Cond} {room : Room} {A : Array Value} {h0 : Heap} {Q : Option Value → Heap → List Loc → Prop} (hpn : plainFor y = true)
    (body : ∀ (p : Program) (e : Env) (s : State) (m : MethodId) (below : List Frame) (meth : Method) (c : Code) (s₁ : State), p.tables.exec = Jvm.exec → c.code = bytes → c.maxLocals = ml → Z.Warmed39 s.vm → s.vm.findClass y.cls = some m.cls → meth.name = y.name → meth.locks = false → meth.sig.returnType = ret →
      Stand p l e room (s.setVm s.vm) m A below meth c s₁ [] 0 0 → s₁.heap = h0 → s.heap = h0 → s.Since s.vm 0 → CHr Z EL s.vm h0 s.vm h0 → Go p e below (DoneW s Z EL Q room.cells room.slots) s₁ (entryFrame m A ml)) : ConW l Z EL y bytes ml ret ws room A h0 Q := by
  refine MetFree.of_bodySF hpn hisR ?_
  intro p e s m args below meth c s₁ Bd hml0 hP hK
  obtain ⟨rfl, hZ, hh, hC⟩ := hP
  exact body p e s m below meth c s₁ Bd.exec Bd.bytes hml0 hZ (findClass_of_methodNamed Bd.named) (name_of_methodNamed Bd.named Bd.method).1 Bd.notSynchronized Bd.returns (Stand.of_body Bd) (by rw [← hh, Bd.state]; rfl) hh ((State.WarmedH.refl s).since 0) (CHr.refl hC)
theorem own_backW {l : Launch} {R : Room} {p : Program} {e : Env} {below : List Frame} {s Z : State} {args a0 : Array Value} {EL : List (String × Nat)} {vm0 : Vm} {h : Heap} {y : MethodName} {bytes : ByteArray} {maxL : Nat} {ret : Option FieldType} {rm : Room} {len W : Nat} {as' : Array Value} {Q : Option Value → Heap → List Loc → Prop}
    (hM : ConW l Z EL y bytes maxL ret [] rm as' h Q) (hZ : Z.Warmed39 vm0) (wc : (Cond.code y bytes maxL ret).before a0 Z = true) (wz : (Cond.initialized y.cls).before a0 Z = true) (hf : rm.frames + 1 ≤ R.frames) (hl : W + (maxL + 11) + rm.locals ≤ R.locals) (hEL : EW Z a0 EL) (H : CHv Z EL vm0 h) :
    BackS l R p e below (s.setVm vm0) args y len W (fun A a => a = as' ∧ A.U.heap = h ∧ A.cells + rm.cells ≤ R.cells ∧ A.slots + rm.slots ≤ R.slots)
      (fun A _ v B => ∃ L, Q v B.U.heap L ∧ B.locs = A.locs ++ L ∧ B.cells = A.cells + rm.cells ∧ B.slots = A.slots + rm.slots ∧ CHr Z EL vm0 h B.U.vm B.U.heap) := backOfSH (Q := Q) hM hZ wc wz hf hl hEL H
/-- a String whose value is not yet written is no literal's -/
theorem own_safe0 {Z : State} {EL : List (String × Nat)} {vm : Vm} {h : Heap} {x : Addr} (hal : Z.vm.Alike vm) (E : Exa Z h x "java/lang/String") (F : Fld Z h x "java/lang/String" "value" "[B" .null) : Safe Z EL vm h x := fun B => by
  obtain ⟨cell, k, e1, e2, e3, -, -⟩ := E
  obtain ⟨cell', cf, kf, i, f, f1, f2, f3, -, -, -, f7⟩ := F
  cases e1.symm.trans f1
  obtain ⟨p, -, u, a, -, q, -, G, rfl | rfl⟩ := B
  · cases (show h[q.sa]? = some q.sC from G.ha).symm.trans e1
    obtain ⟨cS, ⟨⟨s1, s2, s3, ⟨cv, kv, iv, s4, s4'⟩, r5, s6, s7, s8, -⟩, -, -⟩, -⟩ := G
    obtain ⟨kv', z4⟩ := ff_back (Z := Z) (U := Wst Z vm h) hal s4
    cases f2.symm.trans z4
    have := s8.symm.trans f7
    cases this
  · cases (show h[q.sd]? = some q.SA from G.hd).symm.trans e1
    obtain ⟨cS, -, -, fB, -⟩ := G
    have fB' : Z.vm.findClass "[B" = some q.SA.cls := by rw [← hal.findClass]; exact fB
    exact ids_ne e2 fB' (by decide) rfl

theorem ww {a0 : Array Value} {Z : State} (hw : ∀ d ∈ tables_1, d.before a0 Z = true) (i : Nat) {d : Jvm.Cond} (h : tables_1[i]? = some d) : d.before a0 Z = true := hw d (List.mem_of_getElem? h)
def World1 (Z : State) (i_COMPACT_STRINGS : Int32) (v_SIOOBE_FORMATTER : Value) : Prop :=
  Sta Z Z.heap "java/lang/String" "COMPACT_STRINGS" "Z" (.int i_COMPACT_STRINGS) ∧
  ¬ i_COMPACT_STRINGS = (0 : Int32) ∧
  Sta Z Z.heap "jdk/internal/util/Preconditions" "SIOOBE_FORMATTER" "Ljava/util/function/BiFunction;" v_SIOOBE_FORMATTER ∧
  v_SIOOBE_FORMATTER.isRef = true ∧
  Sta Z Z.heap "java/lang/StringUTF16" "$assertionsDisabled" "Z" (.int (1 : Int32)) ∧
  Sta Z Z.heap "java/lang/StringUTF16" "HI_BYTE_SHIFT" "I" (.int (0 : Int32)) ∧
  Sta Z Z.heap "java/lang/StringUTF16" "LO_BYTE_SHIFT" "I" (.int (8 : Int32))
abbrev EL : List (String × Nat) := consts_1
theorem own_EL {Z : State} {a0 : Array Value} (hw : ∀ d ∈ tables_1, d.before a0 Z = true) : EW Z a0 EL := (EW.cons (hw _ (List.mem_of_getElem? (i := 2) rfl)) (by decide) (EW.cons (hw _ (List.mem_of_getElem? (i := 10) rfl)) (by decide) (EW.cons (hw _ (List.mem_of_getElem? (i := 23) rfl)) (by decide) EW.nil)))
theorem own_wS {Z : State} {a0 : Array Value} (hw : ∀ d ∈ tables_1, d.before a0 Z = true) : ∀ a ∈ Bundle.stringAtoms, a.before a0 Z = true := by
  intro a ha
  simp only [Bundle.stringAtoms, Bundle.sN, List.mem_cons, List.not_mem_nil, or_false] at ha
  rcases ha with rfl | rfl | rfl | rfl | rfl | rfl | rfl
  · exact (ww hw 3 rfl)
  · exact (ww hw 4 rfl)
  · exact (ww hw 5 rfl)
  · exact (ww hw 6 rfl)
  · exact (ww hw 7 rfl)
  · exact (ww hw 8 rfl)
  · exact (ww hw 9 rfl)
theorem own_gc {c : Int32} (h0 : 0 ≤ c.toInt ∧ c.toInt < 65536) : (nar .char ((((((nar .byte ((c >>> ((0 : Int32) &&& 31)).toInt8.toInt32)) &&& (255 : Int32)) <<< ((0 : Int32) &&& 31)) ||| (((nar .byte ((c >>> ((8 : Int32) &&& 31)).toInt8.toInt32)) &&& (255 : Int32)) <<< ((8 : Int32) &&& 31))).toUInt32.toUInt16.toUInt32.toInt32))) = c := by
  have e1 : (c >>> ((0 : Int32) &&& 31)).toInt = c.toInt / (2 ^ 0 : Nat) := c_ishr c 0 0 (by decide)
  have e2 : (c >>> ((8 : Int32) &&& 31)).toInt = c.toInt / (2 ^ 8 : Nat) := c_ishr c 8 8 (by decide)
  generalize (c >>> ((0 : Int32) &&& 31)) = u at *
  generalize (c >>> ((8 : Int32) &&& 31)) = v at *
  have f1 := c_i2b u
  have f2 := c_i2b v
  show ((((u.toInt8.toInt32.toInt8.toInt32 &&& (255 : Int32)) <<< ((0 : Int32) &&& 31)) ||| ((v.toInt8.toInt32.toInt8.toInt32 &&& (255 : Int32)) <<< ((8 : Int32) &&& 31))).toUInt32.toUInt16.toUInt32.toInt32).toUInt32.toUInt16.toUInt32.toInt32 = c
  have f3 := c_i2b u.toInt8.toInt32
  have f4 := c_i2b v.toInt8.toInt32
  generalize u.toInt8.toInt32.toInt8.toInt32 = u2 at *
  generalize v.toInt8.toInt32.toInt8.toInt32 = v2 at *
  have m1 : (u2 &&& (255 : Int32)).toInt = u2.toInt % (2 ^ 8 : Nat) := c_mask u2 255 8 (by decide) (by decide)
  have m2 : (v2 &&& (255 : Int32)).toInt = v2.toInt % (2 ^ 8 : Nat) := c_mask v2 255 8 (by decide) (by decide)
  generalize (u2 &&& (255 : Int32)) = u3 at *
  generalize (v2 &&& (255 : Int32)) = v3 at *
  have s1 := c_ishl u3 0 0 (by decide)
  have s2 := c_ishl v3 8 8 (by decide)
  have r1 := rng32 (u3 <<< ((0 : Int32) &&& 31))
  have r2 := rng32 (v3 <<< ((8 : Int32) &&& 31))
  generalize (u3 <<< ((0 : Int32) &&& 31)) = u4 at *
  generalize (v3 <<< ((8 : Int32) &&& 31)) = v4 at *
  have ho := c_or' u4 v4 8 (by decide) 256 (by decide) (by omega) (by omega) (by omega)
  have ro := rng32 (u4 ||| v4)
  generalize (u4 ||| v4) = o at *
  have i1 := c_i2c o
  generalize o.toUInt32.toUInt16.toUInt32.toInt32 = o2 at *
  have i2 := c_i2c o2
  rw [← Int32.toInt_inj]
  omega
theorem own_gt {c : Int32} (h0 : 0 ≤ c.toInt ∧ c.toInt < 65536) (h : (255 : Int32) < c) : (255 : Int32) < (nar .char ((((((nar .byte ((c >>> ((0 : Int32) &&& 31)).toInt8.toInt32)) &&& (255 : Int32)) <<< ((0 : Int32) &&& 31)) ||| (((nar .byte ((c >>> ((8 : Int32) &&& 31)).toInt8.toInt32)) &&& (255 : Int32)) <<< ((8 : Int32) &&& 31))).toUInt32.toUInt16.toUInt32.toInt32))) := by rw [own_gc h0]; exact h

theorem pn_java_lang_StringUTF16 : plainName "java/lang/StringUTF16" = true := by first | (simp [plainName, overriddenIn]; done) | decide +kernel
theorem d19_0 : decode jdk_52_method_3_code 0 = .ok (.iload_n 0, 1) := by decide +kernel
theorem d19_1 : decode jdk_52_method_3_code 1 = .ok (.ifCond .ge 11, 3) := by decide +kernel
theorem d19_12 : decode jdk_52_method_3_code 12 = .ok (.iload_n 0, 1) := by decide +kernel
theorem d19_13 : decode jdk_52_method_3_code 13 = .ok (.ldc 20, 2) := by decide +kernel
theorem d19_15 : decode jdk_52_method_3_code 15 = .ok (.if_icmp .lt 40, 3) := by decide +kernel
theorem d19_55 : decode jdk_52_method_3_code 55 = .ok (.iload_n 0, 1) := by decide +kernel
theorem d19_56 : decode jdk_52_method_3_code 56 = .ok (.iconst 1, 1) := by decide +kernel
theorem d19_57 : decode jdk_52_method_3_code 57 = .ok (.ishl, 1) := by decide +kernel
theorem d19_58 : decode jdk_52_method_3_code 58 = .ok (.ireturn, 1) := by decide +kernel
set_option maxRecDepth 65536 in
set_option maxHeartbeats 40000000 in
theorem ul_1 (l : Launch) (Z : State) (a0 : Array Value) (hw : ∀ d ∈ tables_1, d.before a0 Z = true) (ws : List Jvm.Cond)  (h0 : Heap) (n0 : Nat) (O0 : Old Z n0 h0)  :
    Con l Z (⟨"java/lang/StringUTF16", "newBytesLength", "(I)I"⟩ : MethodName) jdk_52_method_3_code 1 (some .int) ws ({ frames := 0, cells := 0, slots := 0, locals := 0 } : Room) #[(.int 1)] h0 (fun v h L => v = some (.int 2) ∧ Fr n0 L ∧ h = h0) := by
  refine own_body (plainFor_of_name pn_java_lang_StringUTF16) ?_
  intro p e s m below meth c s₁ hx hby hml hZ hown hnm hlk hret X0 e0
  have N0 := Fr.nil n0
  refine Go.st (T' := s₁) (f' := (mkF m 0 #[iv 1] [])) (fun _ k => castTop (by first | (simp [entryFrame, mkF, argsToLocals, Value.category]; done) | rfl) k) ?_
  refine Go.st (f' := (mkF m 1 #[iv 1] [(.int 1)])) (fun _ k => XS.iloadN X0.here hx rfl (hb hby d19_0) rfl k) ?_
  refine Go.st (f' := (mkF m 12 #[iv 1] [])) (fun _ k => XS.ifYes X0.here hx rfl (pc0 := 1) (pc' := 12) rfl (hb hby d19_1) rfl (by decide) (by decide) (by decide) k) ?_
  refine Go.st (f' := (mkF m 13 #[iv 1] [(.int 1)])) (fun _ k => XS.iloadN X0.here hx rfl (hb hby d19_12) rfl k) ?_
  refine Go.st (f' := (mkF m 15 #[iv 1] [(.int 1073741823), (.int 1)])) (fun _ k => X0.ldcInt hx hown (mvT hZ (ww hw 90 rfl)) (g := (mkF m 13 #[iv 1] [(.int 1)])) rfl (hb hby d19_13) _ k) ?_
  refine Go.st (f' := (mkF m 55 #[iv 1] [])) (fun _ k => XS.icmpYes X0.here hx rfl (pc0 := 15) (pc' := 55) rfl (hb hby d19_15) rfl (by decide) (by decide) (by decide) k) ?_
  refine Go.st (f' := (mkF m 56 #[iv 1] [(.int 1)])) (fun _ k => XS.iloadN X0.here hx rfl (hb hby d19_55) rfl k) ?_
  refine Go.st (f' := (mkF m 57 #[iv 1] [(.int 1), (.int 1)])) (fun _ k => XS.iconst X0.here hx rfl (hb hby d19_56) k) ?_
  refine Go.st (f' := (mkF m 58 #[iv 1] [(.int 2)])) (fun _ k => XS.ishl X0.here hx rfl (hb hby d19_57) rfl k) ?_
  refine Go.retV X0 hlk hx (t := .int) hret rfl (Or.inl ⟨rfl, Or.inl rfl, _, rfl⟩) (hb hby d19_58) e0 ?_ (by decide) (by decide)
  exact ⟨rfl, N0, rfl⟩
theorem d18_0 : decode jdk_52_method_2_code 0 = .ok (.iload_n 0, 1) := by decide +kernel
theorem d18_1 : decode jdk_52_method_2_code 1 = .ok (.invokestatic 11, 3) := by decide +kernel
theorem pd__I_I : parseMethodDescriptor "(I)I" = some ⟨[.int], some .int⟩ := by decide +kernel
theorem d18_4 : decode jdk_52_method_2_code 4 = .ok (.newarray .byte, 2) := by decide +kernel
theorem d18_6 : decode jdk_52_method_2_code 6 = .ok (.areturn, 1) := by decide +kernel
set_option maxRecDepth 65536 in
set_option maxHeartbeats 40000000 in
theorem uf_1 (l : Launch) (Z : State) (a0 : Array Value) (hw : ∀ d ∈ tables_1, d.before a0 Z = true) (ws : List Jvm.Cond)  (h0 : Heap) (n0 : Nat) (O0 : Old Z n0 h0)  :
    Con l Z (⟨"java/lang/StringUTF16", "newBytesFor", "(I)[B"⟩ : MethodName) jdk_52_method_2_code 1 (some (.array .byte)) ws ({ frames := 1, cells := 1, slots := 2, locals := 12 } : Room) #[(.int 1)] h0 (fun v h L => ∃ (b : Addr) (kb : ClassId), v = some (.ref b) ∧ Fr n0 L ∧ h0.size ≤ b ∧ Keep h0 h [] ∧ Arv Z h b kb .byte (2 : Int32) [(.int 0), (.int 0)] (.int 0)) := by
  refine own_body (plainFor_of_name pn_java_lang_StringUTF16) ?_
  intro p e s m below meth c s₁ hx hby hml hZ hown hnm hlk hret X0 e0
  have N0 := Fr.nil n0
  have K0 : Keep h0 h0 [] := Keep.refl _ _
  refine Go.st (T' := s₁) (f' := (mkF m 0 #[iv 1] [])) (fun _ k => castTop (by first | (simp [entryFrame, mkF, argsToLocals, Value.category]; done) | rfl) k) ?_
  refine Go.st (f' := (mkF m 1 #[iv 1] [(.int 1)])) (fun _ k => XS.iloadN X0.here hx rfl (hb hby d18_0) rfl k) ?_
  obtain ⟨_, _, ⟨T1, L1, kk1, nn1⟩, -, X1, ⟨Lc1, hQ1, lq1, yq1, zz1⟩, st1⟩ := Jvm.LawKit.callS X0 hx (y := (⟨"java/lang/StringUTF16", "newBytesLength", "(I)I"⟩ : MethodName)) hown (mvT hZ (ww hw 87 rfl)) (mvT hZ (ww hw 88 rfl)) (mvT hZ (ww hw 43 rfl)) (mvT hZ (ww hw 89 rfl)) (by decide) (own_back (W := 0) (ul_1 l Z a0 hw [] h0 n0 O0) hZ (ww hw 89 rfl) (ww hw 43 rfl) (by decide) (by decide)) (g := (mkF m 1 #[iv 1] [(.int 1)])) rfl (by rw [hml]; rfl) (argsL := [(.int (1 : Int32))]) (rest := []) (lenOf pd__I_I rfl) rfl (by show 2 * 0 + _ ≤ _; exact Nat.le_of_eq rfl) (hb hby d18_1) (fun _ _ => ⟨rfl, e0, (by decide : 0 + 0 ≤ _), (by decide : 0 + 0 ≤ _)⟩)
  dsimp only [Pt.U, Pt.locs, Pt.cells, Pt.slots] at X1 lq1 yq1 zz1 st1 hQ1
  subst lq1 yq1 zz1
  obtain ⟨rfl, Nq1, kq1⟩ := hQ1
  have N1 := Fr.app N0 Nq1
  refine Go.st (f' := (mkF m 4 #[iv 1] [(.int 2)])) (fun _ k => st1 _ k) ?_
  obtain ⟨T2, h2, kc2, X2, e2, E2, A2, st2⟩ := newP X1 hx hZ (ww hw 5 rfl) kq1 (g := (mkF m 4 #[iv 1] [(.int 2)])) rfl (hb hby d18_4) rfl (by decide) (cap := 2) (by decide) (by decide) (by decide) (by decide)
  obtain ⟨b2, g2⟩ : ∃ z, z = h0.size := ⟨_, rfl⟩
  rw [← g2] at A2 st2
  have g_b2 : n0 ≤ b2 := Nat.le_trans (O0.1 ▸ O0.2.1) (Nat.le_of_eq g2.symm)
  have O2 : Old Z n0 h2 := O0.ext E2
  have sz_b2 : h0.size ≤ b2 := Nat.le_trans K0.1 (Nat.le_of_eq g2.symm)
  have K2 : Keep h0 h2 [] := K0.ext E2
  have V_b2 : Arv Z h2 b2 kc2 .byte (2 : Int32) [(.int (0 : Int32)), (.int (0 : Int32))] (.int (0 : Int32)) := (Arv.new A2 (by decide)).pad (pad_rep [] (.int (0 : Int32)) 2)
  have lt_b2 := V_b2.lt
  refine Go.st (f' := (mkF m 6 #[iv 1] [(.ref b2)])) (fun _ k => st2 _ k) ?_
  refine Go.retV X2 hlk hx (t := (.array .byte)) hret rfl (Or.inr (Or.inr (Or.inr (Or.inr ⟨rfl, rfl, rfl⟩)))) (hb hby d18_6) e2 ?_ (by decide) (by decide)
  exact ⟨b2, kc2, rfl, N1, sz_b2, K2, V_b2⟩
theorem d20_0 : decode jdk_52_method_4_code 0 = .ok (.getstatic 44, 3) := by decide +kernel
theorem d20_3 : decode jdk_52_method_4_code 3 = .ok (.ifCond .ne 25, 3) := by decide +kernel
theorem d20_28 : decode jdk_52_method_4_code 28 = .ok (.iload_n 1, 1) := by decide +kernel
theorem d20_29 : decode jdk_52_method_4_code 29 = .ok (.iconst 1, 1) := by decide +kernel
theorem d20_30 : decode jdk_52_method_4_code 30 = .ok (.ishl, 1) := by decide +kernel
theorem d20_31 : decode jdk_52_method_4_code 31 = .ok (.istore_n 1, 1) := by decide +kernel
theorem d20_32 : decode jdk_52_method_4_code 32 = .ok (.aload_n 0, 1) := by decide +kernel
theorem d20_33 : decode jdk_52_method_4_code 33 = .ok (.iload_n 1, 1) := by decide +kernel
theorem d20_34 : decode jdk_52_method_4_code 34 = .ok (.iinc 1 1, 3) := by decide +kernel
theorem d20_37 : decode jdk_52_method_4_code 37 = .ok (.iload_n 2, 1) := by decide +kernel
theorem d20_38 : decode jdk_52_method_4_code 38 = .ok (.getstatic 59, 3) := by decide +kernel
theorem d20_41 : decode jdk_52_method_4_code 41 = .ok (.ishr, 1) := by decide +kernel
theorem d20_42 : decode jdk_52_method_4_code 42 = .ok (.i2b, 1) := by decide +kernel
theorem d20_43 : decode jdk_52_method_4_code 43 = .ok (.bastore, 1) := by decide +kernel
theorem d20_44 : decode jdk_52_method_4_code 44 = .ok (.aload_n 0, 1) := by decide +kernel
theorem d20_45 : decode jdk_52_method_4_code 45 = .ok (.iload_n 1, 1) := by decide +kernel
theorem d20_46 : decode jdk_52_method_4_code 46 = .ok (.iload_n 2, 1) := by decide +kernel
theorem d20_47 : decode jdk_52_method_4_code 47 = .ok (.getstatic 63, 3) := by decide +kernel
theorem d20_50 : decode jdk_52_method_4_code 50 = .ok (.ishr, 1) := by decide +kernel
theorem d20_51 : decode jdk_52_method_4_code 51 = .ok (.i2b, 1) := by decide +kernel
theorem d20_52 : decode jdk_52_method_4_code 52 = .ok (.bastore, 1) := by decide +kernel
theorem d20_53 : decode jdk_52_method_4_code 53 = .ok (.return_, 1) := by decide +kernel
set_option maxRecDepth 65536 in
set_option maxHeartbeats 40000000 in
theorem up_1_0 (l : Launch) (Z : State) (a0 : Array Value) (hw : ∀ d ∈ tables_1, d.before a0 Z = true) (ws : List Jvm.Cond) (a1 : Addr) (k1 : ClassId) (c0 : Int32) (x0 : Int32) (x1 : Int32) (i_COMPACT_STRINGS : Int32) (v_SIOOBE_FORMATTER : Value) (h0 : Heap) (n0 : Nat) (O0 : Old Z n0 h0) (g_a1 : n0 ≤ a1) (V_a1 : Arv Z h0 a1 k1 .byte (2 : Int32) [(.int x0), (.int x1)] (.int 0)) (WW : World1 Z i_COMPACT_STRINGS v_SIOOBE_FORMATTER) :
    Con l Z (⟨"java/lang/StringUTF16", "putChar", "([BII)V"⟩ : MethodName) jdk_52_method_4_code 3 none ws ({ frames := 0, cells := 0, slots := 0, locals := 0 } : Room) #[(.ref a1), (.int 0), (.int c0)] h0 (fun v h L => v = none ∧ Fr n0 L ∧ Keep h0 h [a1] ∧ Arv Z h a1 k1 .byte (2 : Int32) [(.int (nar .byte ((c0 >>> ((0 : Int32) &&& 31)).toInt8.toInt32))), (.int (nar .byte ((c0 >>> ((8 : Int32) &&& 31)).toInt8.toInt32)))] (.int 0)) := by
  refine own_body (plainFor_of_name pn_java_lang_StringUTF16) ?_
  intro p e s m below meth c s₁ hx hby hml hZ hown hnm hlk hret X0 e0
  have N0 := Fr.nil n0
  have K0 : Keep h0 h0 [a1] := Keep.refl _ _
  refine Go.st (T' := s₁) (f' := (mkF m 0 #[rv a1, iv 0, iv c0] [])) (fun _ k => castTop (by first | (simp [entryFrame, mkF, argsToLocals, Value.category]; done) | rfl) k) ?_
  have ⟨S_i_COMPACT_STRINGS, nz_i_COMPACT_STRINGS, S_v_SIOOBE_FORMATTER, r_v_SIOOBE_FORMATTER, S_i__assertionsDisabled, S_i_HI_BYTE_SHIFT, S_i_LO_BYTE_SHIFT⟩ := WW
  have lt_a1 := V_a1.lt
  obtain ⟨T1, X1, e1, st1⟩ := getS2 X0 hx hZ hown (host := "") (Or.inl (ww hw 94 rfl)) Via.refl e0 (S_i__assertionsDisabled.ext O0.2) (g := (mkF m 0 #[rv a1, iv 0, iv c0] [])) rfl (hb hby d20_0)
  refine Go.st (f' := (mkF m 3 #[rv a1, iv 0, iv c0] [(.int 1)])) (fun _ k => st1 _ k) ?_
  refine Go.st (f' := (mkF m 28 #[rv a1, iv 0, iv c0] [])) (fun _ k => XS.ifYes X1.here hx rfl (pc0 := 3) (pc' := 28) rfl (hb hby d20_3) rfl (by decide) (by decide) (by decide) k) ?_
  refine Go.st (f' := (mkF m 29 #[rv a1, iv 0, iv c0] [(.int 0)])) (fun _ k => XS.iloadN X1.here hx rfl (hb hby d20_28) rfl k) ?_
  refine Go.st (f' := (mkF m 30 #[rv a1, iv 0, iv c0] [(.int 1), (.int 0)])) (fun _ k => XS.iconst X1.here hx rfl (hb hby d20_29) k) ?_
  refine Go.st (f' := (mkF m 31 #[rv a1, iv 0, iv c0] [(.int 0)])) (fun _ k => XS.ishl X1.here hx rfl (hb hby d20_30) rfl k) ?_
  refine Go.st (f' := (mkF m 32 #[rv a1, iv 0, iv c0] [])) (fun _ k => XS.istoreN X1.here hx rfl (hb hby d20_31) rfl (l' := #[rv a1, iv 0, iv c0]) rfl k) ?_
  refine Go.st (f' := (mkF m 33 #[rv a1, iv 0, iv c0] [(.ref a1)])) (fun _ k => XS.aloadN X1.here hx rfl (hb hby d20_32) rfl rfl k) ?_
  refine Go.st (f' := (mkF m 34 #[rv a1, iv 0, iv c0] [(.int 0), (.ref a1)])) (fun _ k => XS.iloadN X1.here hx rfl (hb hby d20_33) rfl k) ?_
  refine Go.st (f' := (mkF m 37 #[rv a1, iv 1, iv c0] [(.int 0), (.ref a1)])) (fun _ k => XS.iinc X1.here hx rfl (hb hby d20_34) rfl (l' := #[rv a1, iv 1, iv c0]) rfl k) ?_
  refine Go.st (f' := (mkF m 38 #[rv a1, iv 1, iv c0] [(.int c0), (.int 0), (.ref a1)])) (fun _ k => XS.iloadN X1.here hx rfl (hb hby d20_37) rfl k) ?_
  obtain ⟨T2, X2, e2, st2⟩ := getS2 X1 hx hZ hown (host := "") (Or.inl (ww hw 95 rfl)) Via.refl e1 (S_i_HI_BYTE_SHIFT.ext O0.2) (g := (mkF m 38 #[rv a1, iv 1, iv c0] [(.int c0), (.int 0), (.ref a1)])) rfl (hb hby d20_38)
  refine Go.st (f' := (mkF m 41 #[rv a1, iv 1, iv c0] [(.int 0), (.int c0), (.int 0), (.ref a1)])) (fun _ k => st2 _ k) ?_
  refine Go.st (f' := (mkF m 42 #[rv a1, iv 1, iv c0] [(.int (c0 >>> ((0 : Int32) &&& 31))), (.int 0), (.ref a1)])) (fun _ k => XS.ishr X2.here hx rfl (hb hby d20_41) rfl k) ?_
  refine Go.st (f' := (mkF m 43 #[rv a1, iv 1, iv c0] [(.int ((c0 >>> ((0 : Int32) &&& 31)).toInt8.toInt32)), (.int 0), (.ref a1)])) (fun _ k => XS.i2b X2.here hx rfl (hb hby d20_42) rfl k) ?_
  obtain ⟨cl3, Ar3, q3, S3, Nx3, H3, G3⟩ := id V_a1
  have hin3 : ¬ ((0 : Int32) < 0 ∨ cl3.slots.size ≤ ((0 : Int32)).toNatClampNeg) := inb_of S3 ⟨by decide, by decide⟩
  obtain ⟨T4, h4, X4, e4, W4, st4⟩ := stB X2 hx hZ e2 Ar3 (j := (0 : Int32)) hin3 (g := (mkF m 43 #[rv a1, iv 1, iv c0] [(.int ((c0 >>> ((0 : Int32) &&& 31)).toInt8.toInt32)), (.int 0), (.ref a1)])) rfl rfl (hb hby d20_43)
  have V_a1_4 : Arv Z h4 a1 k1 .byte (2 : Int32) [(.int (nar .byte ((c0 >>> ((0 : Int32) &&& 31)).toInt8.toInt32))), (.int x1)] (.int (0 : Int32)) := Arv.set Ar3 q3 S3 Nx3 H3 G3 (fits_nar_byte _) W4 0 rfl (Nat.le_of_ble_eq_true rfl)
  have N4 := Fr.snoc X4 N0 g_a1
  have O4 : Old Z n0 h4 := O0.wr W4 g_a1
  have K4 : Keep h0 h4 [a1] := K0.wr W4 (Or.inl (List.mem_of_getElem? (i := 0) rfl))
  refine Go.st (f' := (mkF m 44 #[rv a1, iv 1, iv c0] [])) (fun _ k => st4 _ k) ?_
  refine Go.st (f' := (mkF m 45 #[rv a1, iv 1, iv c0] [(.ref a1)])) (fun _ k => XS.aloadN X4.here hx rfl (hb hby d20_44) rfl rfl k) ?_
  refine Go.st (f' := (mkF m 46 #[rv a1, iv 1, iv c0] [(.int 1), (.ref a1)])) (fun _ k => XS.iloadN X4.here hx rfl (hb hby d20_45) rfl k) ?_
  refine Go.st (f' := (mkF m 47 #[rv a1, iv 1, iv c0] [(.int c0), (.int 1), (.ref a1)])) (fun _ k => XS.iloadN X4.here hx rfl (hb hby d20_46) rfl k) ?_
  obtain ⟨T5, X5, e5, st5⟩ := getS2 X4 hx hZ hown (host := "") (Or.inl (ww hw 96 rfl)) Via.refl e4 (S_i_LO_BYTE_SHIFT.ext O4.2) (g := (mkF m 47 #[rv a1, iv 1, iv c0] [(.int c0), (.int 1), (.ref a1)])) rfl (hb hby d20_47)
  refine Go.st (f' := (mkF m 50 #[rv a1, iv 1, iv c0] [(.int 8), (.int c0), (.int 1), (.ref a1)])) (fun _ k => st5 _ k) ?_
  refine Go.st (f' := (mkF m 51 #[rv a1, iv 1, iv c0] [(.int (c0 >>> ((8 : Int32) &&& 31))), (.int 1), (.ref a1)])) (fun _ k => XS.ishr X5.here hx rfl (hb hby d20_50) rfl k) ?_
  refine Go.st (f' := (mkF m 52 #[rv a1, iv 1, iv c0] [(.int ((c0 >>> ((8 : Int32) &&& 31)).toInt8.toInt32)), (.int 1), (.ref a1)])) (fun _ k => XS.i2b X5.here hx rfl (hb hby d20_51) rfl k) ?_
  obtain ⟨cl6, Ar6, q6, S6, Nx6, H6, G6⟩ := id V_a1_4
  have hin6 : ¬ ((1 : Int32) < 0 ∨ cl6.slots.size ≤ ((1 : Int32)).toNatClampNeg) := inb_of S6 ⟨by decide, by decide⟩
  obtain ⟨T7, h7, X7, e7, W7, st7⟩ := stB X5 hx hZ e5 Ar6 (j := (1 : Int32)) hin6 (g := (mkF m 52 #[rv a1, iv 1, iv c0] [(.int ((c0 >>> ((8 : Int32) &&& 31)).toInt8.toInt32)), (.int 1), (.ref a1)])) rfl rfl (hb hby d20_52)
  have V_a1_7 : Arv Z h7 a1 k1 .byte (2 : Int32) [(.int (nar .byte ((c0 >>> ((0 : Int32) &&& 31)).toInt8.toInt32))), (.int (nar .byte ((c0 >>> ((8 : Int32) &&& 31)).toInt8.toInt32)))] (.int (0 : Int32)) := Arv.set Ar6 q6 S6 Nx6 H6 G6 (fits_nar_byte _) W7 1 rfl (Nat.le_of_ble_eq_true rfl)
  have N7 := Fr.snoc X7 N4 g_a1
  have O7 : Old Z n0 h7 := O4.wr W7 g_a1
  have K7 : Keep h0 h7 [a1] := K4.wr W7 (Or.inl (List.mem_of_getElem? (i := 0) rfl))
  refine Go.st (f' := (mkF m 53 #[rv a1, iv 1, iv c0] [])) (fun _ k => st7 _ k) ?_
  refine Go.ret0 X7 hlk hx hret (hb hby d20_53) e7 ?_ (by decide) (by decide)
  exact ⟨rfl, N7, K7, V_a1_7⟩
theorem d21_0 : decode jdk_52_method_5_code 0 = .ok (.getstatic 44, 3) := by decide +kernel
theorem d21_3 : decode jdk_52_method_5_code 3 = .ok (.ifCond .ne 25, 3) := by decide +kernel
theorem d21_28 : decode jdk_52_method_5_code 28 = .ok (.iload_n 1, 1) := by decide +kernel
theorem d21_29 : decode jdk_52_method_5_code 29 = .ok (.iconst 1, 1) := by decide +kernel
theorem d21_30 : decode jdk_52_method_5_code 30 = .ok (.ishl, 1) := by decide +kernel
theorem d21_31 : decode jdk_52_method_5_code 31 = .ok (.istore_n 1, 1) := by decide +kernel
theorem d21_32 : decode jdk_52_method_5_code 32 = .ok (.aload_n 0, 1) := by decide +kernel
theorem d21_33 : decode jdk_52_method_5_code 33 = .ok (.iload_n 1, 1) := by decide +kernel
theorem d21_34 : decode jdk_52_method_5_code 34 = .ok (.iinc 1 1, 3) := by decide +kernel
theorem d21_37 : decode jdk_52_method_5_code 37 = .ok (.baload, 1) := by decide +kernel
theorem d21_38 : decode jdk_52_method_5_code 38 = .ok (.sipush 255, 3) := by decide +kernel
theorem d21_41 : decode jdk_52_method_5_code 41 = .ok (.iand, 1) := by decide +kernel
theorem d21_42 : decode jdk_52_method_5_code 42 = .ok (.getstatic 59, 3) := by decide +kernel
theorem d21_45 : decode jdk_52_method_5_code 45 = .ok (.ishl, 1) := by decide +kernel
theorem d21_46 : decode jdk_52_method_5_code 46 = .ok (.aload_n 0, 1) := by decide +kernel
theorem d21_47 : decode jdk_52_method_5_code 47 = .ok (.iload_n 1, 1) := by decide +kernel
theorem d21_48 : decode jdk_52_method_5_code 48 = .ok (.baload, 1) := by decide +kernel
theorem d21_49 : decode jdk_52_method_5_code 49 = .ok (.sipush 255, 3) := by decide +kernel
theorem d21_52 : decode jdk_52_method_5_code 52 = .ok (.iand, 1) := by decide +kernel
theorem d21_53 : decode jdk_52_method_5_code 53 = .ok (.getstatic 63, 3) := by decide +kernel
theorem d21_56 : decode jdk_52_method_5_code 56 = .ok (.ishl, 1) := by decide +kernel
theorem d21_57 : decode jdk_52_method_5_code 57 = .ok (.ior, 1) := by decide +kernel
theorem d21_58 : decode jdk_52_method_5_code 58 = .ok (.i2c, 1) := by decide +kernel
theorem d21_59 : decode jdk_52_method_5_code 59 = .ok (.ireturn, 1) := by decide +kernel
set_option maxRecDepth 65536 in
set_option maxHeartbeats 40000000 in
theorem ug_1_0 (l : Launch) (Z : State) (a0 : Array Value) (hw : ∀ d ∈ tables_1, d.before a0 Z = true) (ws : List Jvm.Cond) (a1 : Addr) (k1 : ClassId) (x0 : Int32) (x1 : Int32) (i_COMPACT_STRINGS : Int32) (v_SIOOBE_FORMATTER : Value) (h0 : Heap) (n0 : Nat) (O0 : Old Z n0 h0) (V_a1 : Arv Z h0 a1 k1 .byte (2 : Int32) [(.int x0), (.int x1)] (.int 0)) (WW : World1 Z i_COMPACT_STRINGS v_SIOOBE_FORMATTER) :
    Con l Z (⟨"java/lang/StringUTF16", "getChar", "([BI)C"⟩ : MethodName) jdk_52_method_5_code 2 (some .char) ws ({ frames := 0, cells := 0, slots := 0, locals := 0 } : Room) #[(.ref a1), (.int 0)] h0 (fun v h L => v = some (.int (nar .char (((((x0 &&& (255 : Int32)) <<< ((0 : Int32) &&& 31)) ||| ((x1 &&& (255 : Int32)) <<< ((8 : Int32) &&& 31))).toUInt32.toUInt16.toUInt32.toInt32)))) ∧ Fr n0 L ∧ h = h0) := by
  refine own_body (plainFor_of_name pn_java_lang_StringUTF16) ?_
  intro p e s m below meth c s₁ hx hby hml hZ hown hnm hlk hret X0 e0
  have N0 := Fr.nil n0
  refine Go.st (T' := s₁) (f' := (mkF m 0 #[rv a1, iv 0] [])) (fun _ k => castTop (by first | (simp [entryFrame, mkF, argsToLocals, Value.category]; done) | rfl) k) ?_
  have ⟨S_i_COMPACT_STRINGS, nz_i_COMPACT_STRINGS, S_v_SIOOBE_FORMATTER, r_v_SIOOBE_FORMATTER, S_i__assertionsDisabled, S_i_HI_BYTE_SHIFT, S_i_LO_BYTE_SHIFT⟩ := WW
  have lt_a1 := V_a1.lt
  obtain ⟨T1, X1, e1, st1⟩ := getS2 X0 hx hZ hown (host := "") (Or.inl (ww hw 94 rfl)) Via.refl e0 (S_i__assertionsDisabled.ext O0.2) (g := (mkF m 0 #[rv a1, iv 0] [])) rfl (hb hby d21_0)
  refine Go.st (f' := (mkF m 3 #[rv a1, iv 0] [(.int 1)])) (fun _ k => st1 _ k) ?_
  refine Go.st (f' := (mkF m 28 #[rv a1, iv 0] [])) (fun _ k => XS.ifYes X1.here hx rfl (pc0 := 3) (pc' := 28) rfl (hb hby d21_3) rfl (by decide) (by decide) (by decide) k) ?_
  refine Go.st (f' := (mkF m 29 #[rv a1, iv 0] [(.int 0)])) (fun _ k => XS.iloadN X1.here hx rfl (hb hby d21_28) rfl k) ?_
  refine Go.st (f' := (mkF m 30 #[rv a1, iv 0] [(.int 1), (.int 0)])) (fun _ k => XS.iconst X1.here hx rfl (hb hby d21_29) k) ?_
  refine Go.st (f' := (mkF m 31 #[rv a1, iv 0] [(.int 0)])) (fun _ k => XS.ishl X1.here hx rfl (hb hby d21_30) rfl k) ?_
  refine Go.st (f' := (mkF m 32 #[rv a1, iv 0] [])) (fun _ k => XS.istoreN X1.here hx rfl (hb hby d21_31) rfl (l' := #[rv a1, iv 0]) rfl k) ?_
  refine Go.st (f' := (mkF m 33 #[rv a1, iv 0] [(.ref a1)])) (fun _ k => XS.aloadN X1.here hx rfl (hb hby d21_32) rfl rfl k) ?_
  refine Go.st (f' := (mkF m 34 #[rv a1, iv 0] [(.int 0), (.ref a1)])) (fun _ k => XS.iloadN X1.here hx rfl (hb hby d21_33) rfl k) ?_
  refine Go.st (f' := (mkF m 37 #[rv a1, iv 1] [(.int 0), (.ref a1)])) (fun _ k => XS.iinc X1.here hx rfl (hb hby d21_34) rfl (l' := #[rv a1, iv 1]) rfl k) ?_
  obtain ⟨cl2, Ar2, -, S2, -, H2, -⟩ := id V_a1
  have hin2 : ¬ ((0 : Int32) < 0 ∨ cl2.slots.size ≤ ((0 : Int32)).toNatClampNeg) := inb_of S2 ⟨by decide, by decide⟩
  have hat2 : cl2.slots[((0 : Int32)).toNatClampNeg]? = some (.int x0) := H2.at hin2 rfl
  refine Go.st (f' := (mkF m 38 #[rv a1, iv 1] [(.int x0)])) (fun _ k => X1.baloadBytes hx (j := (0 : Int32)) (v := (.int x0)) (by rw [e1]; exact Ar2.1) (State.isArrayOf_alike hZ.alike Ar2.2.1) Ar2.2.2 hin2 hat2 (g := (mkF m 37 #[rv a1, iv 1] [(.int 0), (.ref a1)])) rfl rfl (hb hby d21_37) _ k) ?_
  refine Go.st (f' := (mkF m 41 #[rv a1, iv 1] [(.int 255), (.int x0)])) (fun _ k => XS.sipush X1.here hx rfl (hb hby d21_38) k) ?_
  refine Go.st (f' := (mkF m 42 #[rv a1, iv 1] [(.int (x0 &&& (255 : Int32)))])) (fun _ k => XS.iand X1.here hx rfl (hb hby d21_41) rfl k) ?_
  obtain ⟨T3, X3, e3, st3⟩ := getS2 X1 hx hZ hown (host := "") (Or.inl (ww hw 95 rfl)) Via.refl e1 (S_i_HI_BYTE_SHIFT.ext O0.2) (g := (mkF m 42 #[rv a1, iv 1] [(.int (x0 &&& (255 : Int32)))])) rfl (hb hby d21_42)
  refine Go.st (f' := (mkF m 45 #[rv a1, iv 1] [(.int 0), (.int (x0 &&& (255 : Int32)))])) (fun _ k => st3 _ k) ?_
  refine Go.st (f' := (mkF m 46 #[rv a1, iv 1] [(.int ((x0 &&& (255 : Int32)) <<< ((0 : Int32) &&& 31)))])) (fun _ k => XS.ishl X3.here hx rfl (hb hby d21_45) rfl k) ?_
  refine Go.st (f' := (mkF m 47 #[rv a1, iv 1] [(.ref a1), (.int ((x0 &&& (255 : Int32)) <<< ((0 : Int32) &&& 31)))])) (fun _ k => XS.aloadN X3.here hx rfl (hb hby d21_46) rfl rfl k) ?_
  refine Go.st (f' := (mkF m 48 #[rv a1, iv 1] [(.int 1), (.ref a1), (.int ((x0 &&& (255 : Int32)) <<< ((0 : Int32) &&& 31)))])) (fun _ k => XS.iloadN X3.here hx rfl (hb hby d21_47) rfl k) ?_
  obtain ⟨cl4, Ar4, -, S4, -, H4, -⟩ := id V_a1
  have hin4 : ¬ ((1 : Int32) < 0 ∨ cl4.slots.size ≤ ((1 : Int32)).toNatClampNeg) := inb_of S4 ⟨by decide, by decide⟩
  have hat4 : cl4.slots[((1 : Int32)).toNatClampNeg]? = some (.int x1) := H4.at hin4 rfl
  refine Go.st (f' := (mkF m 49 #[rv a1, iv 1] [(.int x1), (.int ((x0 &&& (255 : Int32)) <<< ((0 : Int32) &&& 31)))])) (fun _ k => X3.baloadBytes hx (j := (1 : Int32)) (v := (.int x1)) (by rw [e3]; exact Ar4.1) (State.isArrayOf_alike hZ.alike Ar4.2.1) Ar4.2.2 hin4 hat4 (g := (mkF m 48 #[rv a1, iv 1] [(.int 1), (.ref a1), (.int ((x0 &&& (255 : Int32)) <<< ((0 : Int32) &&& 31)))])) rfl rfl (hb hby d21_48) _ k) ?_
  refine Go.st (f' := (mkF m 52 #[rv a1, iv 1] [(.int 255), (.int x1), (.int ((x0 &&& (255 : Int32)) <<< ((0 : Int32) &&& 31)))])) (fun _ k => XS.sipush X3.here hx rfl (hb hby d21_49) k) ?_
  refine Go.st (f' := (mkF m 53 #[rv a1, iv 1] [(.int (x1 &&& (255 : Int32))), (.int ((x0 &&& (255 : Int32)) <<< ((0 : Int32) &&& 31)))])) (fun _ k => XS.iand X3.here hx rfl (hb hby d21_52) rfl k) ?_
  obtain ⟨T5, X5, e5, st5⟩ := getS2 X3 hx hZ hown (host := "") (Or.inl (ww hw 96 rfl)) Via.refl e3 (S_i_LO_BYTE_SHIFT.ext O0.2) (g := (mkF m 53 #[rv a1, iv 1] [(.int (x1 &&& (255 : Int32))), (.int ((x0 &&& (255 : Int32)) <<< ((0 : Int32) &&& 31)))])) rfl (hb hby d21_53)
  refine Go.st (f' := (mkF m 56 #[rv a1, iv 1] [(.int 8), (.int (x1 &&& (255 : Int32))), (.int ((x0 &&& (255 : Int32)) <<< ((0 : Int32) &&& 31)))])) (fun _ k => st5 _ k) ?_
  refine Go.st (f' := (mkF m 57 #[rv a1, iv 1] [(.int ((x1 &&& (255 : Int32)) <<< ((8 : Int32) &&& 31))), (.int ((x0 &&& (255 : Int32)) <<< ((0 : Int32) &&& 31)))])) (fun _ k => XS.ishl X5.here hx rfl (hb hby d21_56) rfl k) ?_
  refine Go.st (f' := (mkF m 58 #[rv a1, iv 1] [(.int (((x0 &&& (255 : Int32)) <<< ((0 : Int32) &&& 31)) ||| ((x1 &&& (255 : Int32)) <<< ((8 : Int32) &&& 31))))])) (fun _ k => XS.ior X5.here hx rfl (hb hby d21_57) rfl k) ?_
  refine Go.st (f' := (mkF m 59 #[rv a1, iv 1] [(.int ((((x0 &&& (255 : Int32)) <<< ((0 : Int32) &&& 31)) ||| ((x1 &&& (255 : Int32)) <<< ((8 : Int32) &&& 31))).toUInt32.toUInt16.toUInt32.toInt32))])) (fun _ k => XS.i2c X5.here hx rfl (hb hby d21_58) rfl k) ?_
  refine Go.retB X5 hlk hx (t := .char) hret (by simp) (hb hby d21_59) e5 ?_ (by decide) (by decide)
  exact ⟨rfl, N0, rfl⟩
theorem d17_0 : decode jdk_52_method_14_code 0 = .ok (.iload_n 2, 1) := by decide +kernel
theorem d17_1 : decode jdk_52_method_14_code 1 = .ok (.invokestatic 107, 3) := by decide +kernel
theorem pd__I__B : parseMethodDescriptor "(I)[B" = some ⟨[.int], some (.array .byte)⟩ := by decide +kernel
theorem d17_4 : decode jdk_52_method_14_code 4 = .ok (.astore_n 3, 1) := by decide +kernel
theorem d17_5 : decode jdk_52_method_14_code 5 = .ok (.iconst 0, 1) := by decide +kernel
theorem d17_6 : decode jdk_52_method_14_code 6 = .ok (.istore 4, 2) := by decide +kernel
theorem d17_8 : decode jdk_52_method_14_code 8 = .ok (.iload 4, 2) := by decide +kernel
theorem d17_10 : decode jdk_52_method_14_code 10 = .ok (.iload_n 2, 1) := by decide +kernel
theorem d17_11 : decode jdk_52_method_14_code 11 = .ok (.if_icmp .ge 21, 3) := by decide +kernel
theorem d17_14 : decode jdk_52_method_14_code 14 = .ok (.aload_n 3, 1) := by decide +kernel
theorem d17_15 : decode jdk_52_method_14_code 15 = .ok (.iload 4, 2) := by decide +kernel
theorem d17_17 : decode jdk_52_method_14_code 17 = .ok (.aload_n 0, 1) := by decide +kernel
theorem d17_18 : decode jdk_52_method_14_code 18 = .ok (.iload_n 1, 1) := by decide +kernel
theorem d17_19 : decode jdk_52_method_14_code 19 = .ok (.caload, 1) := by decide +kernel
theorem d17_20 : decode jdk_52_method_14_code 20 = .ok (.invokestatic 111, 3) := by decide +kernel
theorem pd___BII_V : parseMethodDescriptor "([BII)V" = some ⟨[(.array .byte), .int, .int], none⟩ := by decide +kernel
theorem d17_23 : decode jdk_52_method_14_code 23 = .ok (.iinc 1 1, 3) := by decide +kernel
theorem d17_26 : decode jdk_52_method_14_code 26 = .ok (.iinc 4 1, 3) := by decide +kernel
theorem d17_29 : decode jdk_52_method_14_code 29 = .ok (.goto (-21), 3) := by decide +kernel
theorem d17_32 : decode jdk_52_method_14_code 32 = .ok (.aload_n 3, 1) := by decide +kernel
theorem d17_33 : decode jdk_52_method_14_code 33 = .ok (.areturn, 1) := by decide +kernel
set_option maxRecDepth 65536 in
set_option maxHeartbeats 40000000 in
theorem ut_1 (l : Launch) (Z : State) (a0 : Array Value) (hw : ∀ d ∈ tables_1, d.before a0 Z = true) (ws : List Jvm.Cond) (a1 : Addr) (k1 : ClassId) (c0 : Int32) (i_COMPACT_STRINGS : Int32) (v_SIOOBE_FORMATTER : Value) (h0 : Heap) (n0 : Nat) (O0 : Old Z n0 h0) (V_a1 : Arv Z h0 a1 k1 .char (1 : Int32) [(.int c0)] (.int 0)) (WW : World1 Z i_COMPACT_STRINGS v_SIOOBE_FORMATTER) :
    Con l Z (⟨"java/lang/StringUTF16", "toBytes", "([CII)[B"⟩ : MethodName) jdk_52_method_14_code 5 (some (.array .byte)) ws ({ frames := 2, cells := 1, slots := 2, locals := 24 } : Room) #[(.ref a1), (.int 0), (.int 1)] h0 (fun v h L => ∃ (b : Addr) (kb : ClassId), v = some (.ref b) ∧ Fr n0 L ∧ h0.size ≤ b ∧ Keep h0 h [] ∧ Arv Z h b kb .byte (2 : Int32) [(.int (nar .byte ((c0 >>> ((0 : Int32) &&& 31)).toInt8.toInt32))), (.int (nar .byte ((c0 >>> ((8 : Int32) &&& 31)).toInt8.toInt32)))] (.int 0)) := by
  refine own_body (plainFor_of_name pn_java_lang_StringUTF16) ?_
  intro p e s m below meth c s₁ hx hby hml hZ hown hnm hlk hret X0 e0
  have N0 := Fr.nil n0
  have K0 : Keep h0 h0 [] := Keep.refl _ _
  refine Go.st (T' := s₁) (f' := (mkF m 0 #[rv a1, iv 0, iv 1, .unset, .unset] [])) (fun _ k => castTop (by first | (simp [entryFrame, mkF, argsToLocals, Value.category]; done) | rfl) k) ?_
  have ⟨S_i_COMPACT_STRINGS, nz_i_COMPACT_STRINGS, S_v_SIOOBE_FORMATTER, r_v_SIOOBE_FORMATTER, S_i__assertionsDisabled, S_i_HI_BYTE_SHIFT, S_i_LO_BYTE_SHIFT⟩ := WW
  have lt_a1 := V_a1.lt
  refine Go.st (f' := (mkF m 1 #[rv a1, iv 0, iv 1, .unset, .unset] [(.int 1)])) (fun _ k => XS.iloadN X0.here hx rfl (hb hby d17_0) rfl k) ?_
  obtain ⟨_, _, ⟨T1, L1, kk1, nn1⟩, -, X1, ⟨Lc1, hQ1, lq1, yq1, zz1⟩, st1⟩ := Jvm.LawKit.callS X0 hx (y := (⟨"java/lang/StringUTF16", "newBytesFor", "(I)[B"⟩ : MethodName)) hown (mvT hZ (ww hw 84 rfl)) (mvT hZ (ww hw 85 rfl)) (mvT hZ (ww hw 43 rfl)) (mvT hZ (ww hw 86 rfl)) (by decide) (own_back (W := 0) (uf_1 l Z a0 hw [] h0 n0 O0) hZ (ww hw 86 rfl) (ww hw 43 rfl) (by decide) (by decide)) (g := (mkF m 1 #[rv a1, iv 0, iv 1, .unset, .unset] [(.int 1)])) rfl (by rw [hml]; rfl) (argsL := [(.int (1 : Int32))]) (rest := []) (lenOf pd__I__B rfl) rfl (by show 2 * 0 + _ ≤ _; exact Nat.le_of_eq rfl) (hb hby d17_1) (fun _ _ => ⟨rfl, e0, (by decide : 0 + 1 ≤ _), (by decide : 0 + 2 ≤ _)⟩)
  dsimp only [Pt.U, Pt.locs, Pt.cells, Pt.slots] at X1 lq1 yq1 zz1 st1 hQ1
  subst lq1 yq1 zz1
  obtain ⟨b1, kb1, rfl, Nq1, zq1, kq1, vq1⟩ := hQ1
  have N1 := Fr.app N0 Nq1
  have ne_a1_b1 : a1 ≠ b1 := Nat.ne_of_lt (Nat.lt_of_lt_of_le lt_a1 zq1)
  have g_b1 : n0 ≤ b1 := Nat.le_trans (O0.1 ▸ O0.2.1) zq1
  have sz_b1 : h0.size ≤ b1 := Nat.le_trans K0.1 zq1
  have O1 : Old Z n0 T1.heap := O0.keep kq1 all0
  have K1 : Keep h0 T1.heap [] := K0.trans kq1 all0
  have lt_b1 := vq1.lt
  refine Go.st (f' := (mkF m 4 #[rv a1, iv 0, iv 1, .unset, .unset] [(.ref b1)])) (fun _ k => st1 _ k) ?_
  refine Go.st (f' := (mkF m 5 #[rv a1, iv 0, iv 1, rv b1, .unset] [])) (fun _ k => XS.astoreN X1.here hx rfl (hb hby d17_4) rfl rfl (l' := #[rv a1, iv 0, iv 1, rv b1, .unset]) rfl k) ?_
  refine Go.st (f' := (mkF m 6 #[rv a1, iv 0, iv 1, rv b1, .unset] [(.int 0)])) (fun _ k => XS.iconst X1.here hx rfl (hb hby d17_5) k) ?_
  refine Go.st (f' := (mkF m 8 #[rv a1, iv 0, iv 1, rv b1, iv 0] [])) (fun _ k => XS.istore X1.here hx rfl (hb hby d17_6) rfl (l' := #[rv a1, iv 0, iv 1, rv b1, iv 0]) rfl k) ?_
  refine Go.st (f' := (mkF m 10 #[rv a1, iv 0, iv 1, rv b1, iv 0] [(.int 0)])) (fun _ k => XS.iload X1.here hx rfl (hb hby d17_8) rfl k) ?_
  refine Go.st (f' := (mkF m 11 #[rv a1, iv 0, iv 1, rv b1, iv 0] [(.int 1), (.int 0)])) (fun _ k => XS.iloadN X1.here hx rfl (hb hby d17_10) rfl k) ?_
  refine Go.st (f' := (mkF m 14 #[rv a1, iv 0, iv 1, rv b1, iv 0] [])) (fun _ k => XS.icmpNo X1.here hx rfl (hb hby d17_11) rfl (by decide) k) ?_
  refine Go.st (f' := (mkF m 15 #[rv a1, iv 0, iv 1, rv b1, iv 0] [(.ref b1)])) (fun _ k => XS.aloadN X1.here hx rfl (hb hby d17_14) rfl rfl k) ?_
  refine Go.st (f' := (mkF m 17 #[rv a1, iv 0, iv 1, rv b1, iv 0] [(.int 0), (.ref b1)])) (fun _ k => XS.iload X1.here hx rfl (hb hby d17_15) rfl k) ?_
  refine Go.st (f' := (mkF m 18 #[rv a1, iv 0, iv 1, rv b1, iv 0] [(.ref a1), (.int 0), (.ref b1)])) (fun _ k => XS.aloadN X1.here hx rfl (hb hby d17_17) rfl rfl k) ?_
  refine Go.st (f' := (mkF m 19 #[rv a1, iv 0, iv 1, rv b1, iv 0] [(.int 0), (.ref a1), (.int 0), (.ref b1)])) (fun _ k => XS.iloadN X1.here hx rfl (hb hby d17_18) rfl k) ?_
  have ft3 := (V_a1.keep kq1 nin0)
  obtain ⟨cl2, Ar2, -, S2, -, H2, -⟩ := id ft3
  have hin2 : ¬ ((0 : Int32) < 0 ∨ cl2.slots.size ≤ ((0 : Int32)).toNatClampNeg) := inb_of S2 ⟨by decide, by decide⟩
  have hat2 : cl2.slots[((0 : Int32)).toNatClampNeg]? = some (.int c0) := H2.at hin2 rfl
  refine Go.st (f' := (mkF m 20 #[rv a1, iv 0, iv 1, rv b1, iv 0] [(.int c0), (.int 0), (.ref b1)])) (fun _ k => X1.caload hx (j := (0 : Int32)) (v := (.int c0)) Ar2.1 (State.isArrayOf_alike hZ.alike Ar2.2.1) Ar2.2.2 hin2 hat2 (g := (mkF m 19 #[rv a1, iv 0, iv 1, rv b1, iv 0] [(.int 0), (.ref a1), (.int 0), (.ref b1)])) rfl rfl (hb hby d17_19) _ k) ?_
  obtain ⟨_, _, ⟨T4, L4, kk4, nn4⟩, -, X4, ⟨Lc4, hQ4, lq4, yq4, zz4⟩, st4⟩ := Jvm.LawKit.callS X1 hx (y := (⟨"java/lang/StringUTF16", "putChar", "([BII)V"⟩ : MethodName)) hown (mvT hZ (ww hw 91 rfl)) (mvT hZ (ww hw 92 rfl)) (mvT hZ (ww hw 43 rfl)) (mvT hZ (ww hw 93 rfl)) (by decide) (own_back (W := 0) (up_1_0 l Z a0 hw [] b1 kb1 c0 (0 : Int32) (0 : Int32) i_COMPACT_STRINGS v_SIOOBE_FORMATTER T1.heap n0 O1 g_b1 vq1 WW) hZ (ww hw 93 rfl) (ww hw 43 rfl) (by decide) (by decide)) (g := (mkF m 20 #[rv a1, iv 0, iv 1, rv b1, iv 0] [(.int c0), (.int 0), (.ref b1)])) rfl (by rw [hml]; rfl) (argsL := [(.ref b1), (.int (0 : Int32)), (.int c0)]) (rest := []) (lenOf pd___BII_V rfl) rfl (by show 2 * 0 + _ ≤ _; exact Nat.le_of_eq rfl) (hb hby d17_20) (fun _ _ => ⟨rfl, rfl, (by decide : 1 + 0 ≤ _), (by decide : 2 + 0 ≤ _)⟩)
  dsimp only [Pt.U, Pt.locs, Pt.cells, Pt.slots] at X4 lq4 yq4 zz4 st4 hQ4
  subst lq4 yq4 zz4
  obtain ⟨rfl, Nq4, kq4, vq4⟩ := hQ4
  have N4 := Fr.app N1 Nq4
  have O4 : Old Z n0 T4.heap := O1.keep kq4 (allS g_b1 all0)
  have K4 : Keep h0 T4.heap [] := K1.trans kq4 (allS (Or.inr sz_b1) all0)
  refine Go.st (f' := (mkF m 23 #[rv a1, iv 0, iv 1, rv b1, iv 0] [])) (fun _ k => st4 _ k) ?_
  refine Go.st (f' := (mkF m 26 #[rv a1, iv 1, iv 1, rv b1, iv 0] [])) (fun _ k => XS.iinc X4.here hx rfl (hb hby d17_23) rfl (l' := #[rv a1, iv 1, iv 1, rv b1, iv 0]) rfl k) ?_
  refine Go.st (f' := (mkF m 29 #[rv a1, iv 1, iv 1, rv b1, iv 1] [])) (fun _ k => XS.iinc X4.here hx rfl (hb hby d17_26) rfl (l' := #[rv a1, iv 1, iv 1, rv b1, iv 1]) rfl k) ?_
  refine Go.st (f' := (mkF m 8 #[rv a1, iv 1, iv 1, rv b1, iv 1] [])) (fun _ k => XS.goto X4.here hx rfl (pc0 := 29) (pc' := 8) rfl (hb hby d17_29) (by decide) (by decide) k) ?_
  refine Go.st (f' := (mkF m 10 #[rv a1, iv 1, iv 1, rv b1, iv 1] [(.int 1)])) (fun _ k => XS.iload X4.here hx rfl (hb hby d17_8) rfl k) ?_
  refine Go.st (f' := (mkF m 11 #[rv a1, iv 1, iv 1, rv b1, iv 1] [(.int 1), (.int 1)])) (fun _ k => XS.iloadN X4.here hx rfl (hb hby d17_10) rfl k) ?_
  refine Go.st (f' := (mkF m 32 #[rv a1, iv 1, iv 1, rv b1, iv 1] [])) (fun _ k => XS.icmpYes X4.here hx rfl (pc0 := 11) (pc' := 32) rfl (hb hby d17_11) rfl (by decide) (by decide) (by decide) k) ?_
  refine Go.st (f' := (mkF m 33 #[rv a1, iv 1, iv 1, rv b1, iv 1] [(.ref b1)])) (fun _ k => XS.aloadN X4.here hx rfl (hb hby d17_32) rfl rfl k) ?_
  refine Go.retV X4 hlk hx (t := (.array .byte)) hret rfl (Or.inr (Or.inr (Or.inr (Or.inr ⟨rfl, rfl, rfl⟩)))) (hb hby d17_33) rfl ?_ (by decide) (by decide)
  exact ⟨b1, kb1, rfl, N4, sz_b1, K4, vq4⟩
set_option maxRecDepth 65536 in
set_option maxHeartbeats 40000000 in
theorem ul_2 (l : Launch) (Z : State) (a0 : Array Value) (hw : ∀ d ∈ tables_1, d.before a0 Z = true) (ws : List Jvm.Cond)  (h0 : Heap) (n0 : Nat) (O0 : Old Z n0 h0)  :
    Con l Z (⟨"java/lang/StringUTF16", "newBytesLength", "(I)I"⟩ : MethodName) jdk_52_method_3_code 1 (some .int) ws ({ frames := 0, cells := 0, slots := 0, locals := 0 } : Room) #[(.int 2)] h0 (fun v h L => v = some (.int 4) ∧ Fr n0 L ∧ h = h0) := by
  refine own_body (plainFor_of_name pn_java_lang_StringUTF16) ?_
  intro p e s m below meth c s₁ hx hby hml hZ hown hnm hlk hret X0 e0
  have N0 := Fr.nil n0
  refine Go.st (T' := s₁) (f' := (mkF m 0 #[iv 2] [])) (fun _ k => castTop (by first | (simp [entryFrame, mkF, argsToLocals, Value.category]; done) | rfl) k) ?_
  refine Go.st (f' := (mkF m 1 #[iv 2] [(.int 2)])) (fun _ k => XS.iloadN X0.here hx rfl (hb hby d19_0) rfl k) ?_
  refine Go.st (f' := (mkF m 12 #[iv 2] [])) (fun _ k => XS.ifYes X0.here hx rfl (pc0 := 1) (pc' := 12) rfl (hb hby d19_1) rfl (by decide) (by decide) (by decide) k) ?_
  refine Go.st (f' := (mkF m 13 #[iv 2] [(.int 2)])) (fun _ k => XS.iloadN X0.here hx rfl (hb hby d19_12) rfl k) ?_
  refine Go.st (f' := (mkF m 15 #[iv 2] [(.int 1073741823), (.int 2)])) (fun _ k => X0.ldcInt hx hown (mvT hZ (ww hw 90 rfl)) (g := (mkF m 13 #[iv 2] [(.int 2)])) rfl (hb hby d19_13) _ k) ?_
  refine Go.st (f' := (mkF m 55 #[iv 2] [])) (fun _ k => XS.icmpYes X0.here hx rfl (pc0 := 15) (pc' := 55) rfl (hb hby d19_15) rfl (by decide) (by decide) (by decide) k) ?_
  refine Go.st (f' := (mkF m 56 #[iv 2] [(.int 2)])) (fun _ k => XS.iloadN X0.here hx rfl (hb hby d19_55) rfl k) ?_
  refine Go.st (f' := (mkF m 57 #[iv 2] [(.int 1), (.int 2)])) (fun _ k => XS.iconst X0.here hx rfl (hb hby d19_56) k) ?_
  refine Go.st (f' := (mkF m 58 #[iv 2] [(.int 4)])) (fun _ k => XS.ishl X0.here hx rfl (hb hby d19_57) rfl k) ?_
  refine Go.retV X0 hlk hx (t := .int) hret rfl (Or.inl ⟨rfl, Or.inl rfl, _, rfl⟩) (hb hby d19_58) e0 ?_ (by decide) (by decide)
  exact ⟨rfl, N0, rfl⟩
set_option maxRecDepth 65536 in
set_option maxHeartbeats 40000000 in
theorem uf_2 (l : Launch) (Z : State) (a0 : Array Value) (hw : ∀ d ∈ tables_1, d.before a0 Z = true) (ws : List Jvm.Cond)  (h0 : Heap) (n0 : Nat) (O0 : Old Z n0 h0)  :
    Con l Z (⟨"java/lang/StringUTF16", "newBytesFor", "(I)[B"⟩ : MethodName) jdk_52_method_2_code 1 (some (.array .byte)) ws ({ frames := 1, cells := 1, slots := 4, locals := 12 } : Room) #[(.int 2)] h0 (fun v h L => ∃ (b : Addr) (kb : ClassId), v = some (.ref b) ∧ Fr n0 L ∧ h0.size ≤ b ∧ Keep h0 h [] ∧ Arv Z h b kb .byte (4 : Int32) [(.int 0), (.int 0), (.int 0), (.int 0)] (.int 0)) := by
  refine own_body (plainFor_of_name pn_java_lang_StringUTF16) ?_
  intro p e s m below meth c s₁ hx hby hml hZ hown hnm hlk hret X0 e0
  have N0 := Fr.nil n0
  have K0 : Keep h0 h0 [] := Keep.refl _ _
  refine Go.st (T' := s₁) (f' := (mkF m 0 #[iv 2] [])) (fun _ k => castTop (by first | (simp [entryFrame, mkF, argsToLocals, Value.category]; done) | rfl) k) ?_
  refine Go.st (f' := (mkF m 1 #[iv 2] [(.int 2)])) (fun _ k => XS.iloadN X0.here hx rfl (hb hby d18_0) rfl k) ?_
  obtain ⟨_, _, ⟨T1, L1, kk1, nn1⟩, -, X1, ⟨Lc1, hQ1, lq1, yq1, zz1⟩, st1⟩ := Jvm.LawKit.callS X0 hx (y := (⟨"java/lang/StringUTF16", "newBytesLength", "(I)I"⟩ : MethodName)) hown (mvT hZ (ww hw 87 rfl)) (mvT hZ (ww hw 88 rfl)) (mvT hZ (ww hw 43 rfl)) (mvT hZ (ww hw 89 rfl)) (by decide) (own_back (W := 0) (ul_2 l Z a0 hw [] h0 n0 O0) hZ (ww hw 89 rfl) (ww hw 43 rfl) (by decide) (by decide)) (g := (mkF m 1 #[iv 2] [(.int 2)])) rfl (by rw [hml]; rfl) (argsL := [(.int (2 : Int32))]) (rest := []) (lenOf pd__I_I rfl) rfl (by show 2 * 0 + _ ≤ _; exact Nat.le_of_eq rfl) (hb hby d18_1) (fun _ _ => ⟨rfl, e0, (by decide : 0 + 0 ≤ _), (by decide : 0 + 0 ≤ _)⟩)
  dsimp only [Pt.U, Pt.locs, Pt.cells, Pt.slots] at X1 lq1 yq1 zz1 st1 hQ1
  subst lq1 yq1 zz1
  obtain ⟨rfl, Nq1, kq1⟩ := hQ1
  have N1 := Fr.app N0 Nq1
  refine Go.st (f' := (mkF m 4 #[iv 2] [(.int 4)])) (fun _ k => st1 _ k) ?_
  obtain ⟨T2, h2, kc2, X2, e2, E2, A2, st2⟩ := newP X1 hx hZ (ww hw 5 rfl) kq1 (g := (mkF m 4 #[iv 2] [(.int 4)])) rfl (hb hby d18_4) rfl (by decide) (cap := 4) (by decide) (by decide) (by decide) (by decide)
  obtain ⟨b2, g2⟩ : ∃ z, z = h0.size := ⟨_, rfl⟩
  rw [← g2] at A2 st2
  have g_b2 : n0 ≤ b2 := Nat.le_trans (O0.1 ▸ O0.2.1) (Nat.le_of_eq g2.symm)
  have O2 : Old Z n0 h2 := O0.ext E2
  have sz_b2 : h0.size ≤ b2 := Nat.le_trans K0.1 (Nat.le_of_eq g2.symm)
  have K2 : Keep h0 h2 [] := K0.ext E2
  have V_b2 : Arv Z h2 b2 kc2 .byte (4 : Int32) [(.int (0 : Int32)), (.int (0 : Int32)), (.int (0 : Int32)), (.int (0 : Int32))] (.int (0 : Int32)) := (Arv.new A2 (by decide)).pad (pad_rep [] (.int (0 : Int32)) 4)
  have lt_b2 := V_b2.lt
  refine Go.st (f' := (mkF m 6 #[iv 2] [(.ref b2)])) (fun _ k => st2 _ k) ?_
  refine Go.retV X2 hlk hx (t := (.array .byte)) hret rfl (Or.inr (Or.inr (Or.inr (Or.inr ⟨rfl, rfl, rfl⟩)))) (hb hby d18_6) e2 ?_ (by decide) (by decide)
  exact ⟨b2, kc2, rfl, N1, sz_b2, K2, V_b2⟩
set_option maxRecDepth 65536 in
set_option maxHeartbeats 40000000 in
theorem up_2_0 (l : Launch) (Z : State) (a0 : Array Value) (hw : ∀ d ∈ tables_1, d.before a0 Z = true) (ws : List Jvm.Cond) (a1 : Addr) (k1 : ClassId) (c0 : Int32) (x0 : Int32) (x1 : Int32) (x2 : Int32) (x3 : Int32) (i_COMPACT_STRINGS : Int32) (v_SIOOBE_FORMATTER : Value) (h0 : Heap) (n0 : Nat) (O0 : Old Z n0 h0) (g_a1 : n0 ≤ a1) (V_a1 : Arv Z h0 a1 k1 .byte (4 : Int32) [(.int x0), (.int x1), (.int x2), (.int x3)] (.int 0)) (WW : World1 Z i_COMPACT_STRINGS v_SIOOBE_FORMATTER) :
    Con l Z (⟨"java/lang/StringUTF16", "putChar", "([BII)V"⟩ : MethodName) jdk_52_method_4_code 3 none ws ({ frames := 0, cells := 0, slots := 0, locals := 0 } : Room) #[(.ref a1), (.int 0), (.int c0)] h0 (fun v h L => v = none ∧ Fr n0 L ∧ Keep h0 h [a1] ∧ Arv Z h a1 k1 .byte (4 : Int32) [(.int (nar .byte ((c0 >>> ((0 : Int32) &&& 31)).toInt8.toInt32))), (.int (nar .byte ((c0 >>> ((8 : Int32) &&& 31)).toInt8.toInt32))), (.int x2), (.int x3)] (.int 0)) := by
  refine own_body (plainFor_of_name pn_java_lang_StringUTF16) ?_
  intro p e s m below meth c s₁ hx hby hml hZ hown hnm hlk hret X0 e0
  have N0 := Fr.nil n0
  have K0 : Keep h0 h0 [a1] := Keep.refl _ _
  refine Go.st (T' := s₁) (f' := (mkF m 0 #[rv a1, iv 0, iv c0] [])) (fun _ k => castTop (by first | (simp [entryFrame, mkF, argsToLocals, Value.category]; done) | rfl) k) ?_
  have ⟨S_i_COMPACT_STRINGS, nz_i_COMPACT_STRINGS, S_v_SIOOBE_FORMATTER, r_v_SIOOBE_FORMATTER, S_i__assertionsDisabled, S_i_HI_BYTE_SHIFT, S_i_LO_BYTE_SHIFT⟩ := WW
  have lt_a1 := V_a1.lt
  obtain ⟨T1, X1, e1, st1⟩ := getS2 X0 hx hZ hown (host := "") (Or.inl (ww hw 94 rfl)) Via.refl e0 (S_i__assertionsDisabled.ext O0.2) (g := (mkF m 0 #[rv a1, iv 0, iv c0] [])) rfl (hb hby d20_0)
  refine Go.st (f' := (mkF m 3 #[rv a1, iv 0, iv c0] [(.int 1)])) (fun _ k => st1 _ k) ?_
  refine Go.st (f' := (mkF m 28 #[rv a1, iv 0, iv c0] [])) (fun _ k => XS.ifYes X1.here hx rfl (pc0 := 3) (pc' := 28) rfl (hb hby d20_3) rfl (by decide) (by decide) (by decide) k) ?_
  refine Go.st (f' := (mkF m 29 #[rv a1, iv 0, iv c0] [(.int 0)])) (fun _ k => XS.iloadN X1.here hx rfl (hb hby d20_28) rfl k) ?_
  refine Go.st (f' := (mkF m 30 #[rv a1, iv 0, iv c0] [(.int 1), (.int 0)])) (fun _ k => XS.iconst X1.here hx rfl (hb hby d20_29) k) ?_
  refine Go.st (f' := (mkF m 31 #[rv a1, iv 0, iv c0] [(.int 0)])) (fun _ k => XS.ishl X1.here hx rfl (hb hby d20_30) rfl k) ?_
  refine Go.st (f' := (mkF m 32 #[rv a1, iv 0, iv c0] [])) (fun _ k => XS.istoreN X1.here hx rfl (hb hby d20_31) rfl (l' := #[rv a1, iv 0, iv c0]) rfl k) ?_
  refine Go.st (f' := (mkF m 33 #[rv a1, iv 0, iv c0] [(.ref a1)])) (fun _ k => XS.aloadN X1.here hx rfl (hb hby d20_32) rfl rfl k) ?_
  refine Go.st (f' := (mkF m 34 #[rv a1, iv 0, iv c0] [(.int 0), (.ref a1)])) (fun _ k => XS.iloadN X1.here hx rfl (hb hby d20_33) rfl k) ?_
  refine Go.st (f' := (mkF m 37 #[rv a1, iv 1, iv c0] [(.int 0), (.ref a1)])) (fun _ k => XS.iinc X1.here hx rfl (hb hby d20_34) rfl (l' := #[rv a1, iv 1, iv c0]) rfl k) ?_
  refine Go.st (f' := (mkF m 38 #[rv a1, iv 1, iv c0] [(.int c0), (.int 0), (.ref a1)])) (fun _ k => XS.iloadN X1.here hx rfl (hb hby d20_37) rfl k) ?_
  obtain ⟨T2, X2, e2, st2⟩ := getS2 X1 hx hZ hown (host := "") (Or.inl (ww hw 95 rfl)) Via.refl e1 (S_i_HI_BYTE_SHIFT.ext O0.2) (g := (mkF m 38 #[rv a1, iv 1, iv c0] [(.int c0), (.int 0), (.ref a1)])) rfl (hb hby d20_38)
  refine Go.st (f' := (mkF m 41 #[rv a1, iv 1, iv c0] [(.int 0), (.int c0), (.int 0), (.ref a1)])) (fun _ k => st2 _ k) ?_
  refine Go.st (f' := (mkF m 42 #[rv a1, iv 1, iv c0] [(.int (c0 >>> ((0 : Int32) &&& 31))), (.int 0), (.ref a1)])) (fun _ k => XS.ishr X2.here hx rfl (hb hby d20_41) rfl k) ?_
  refine Go.st (f' := (mkF m 43 #[rv a1, iv 1, iv c0] [(.int ((c0 >>> ((0 : Int32) &&& 31)).toInt8.toInt32)), (.int 0), (.ref a1)])) (fun _ k => XS.i2b X2.here hx rfl (hb hby d20_42) rfl k) ?_
  obtain ⟨cl3, Ar3, q3, S3, Nx3, H3, G3⟩ := id V_a1
  have hin3 : ¬ ((0 : Int32) < 0 ∨ cl3.slots.size ≤ ((0 : Int32)).toNatClampNeg) := inb_of S3 ⟨by decide, by decide⟩
  obtain ⟨T4, h4, X4, e4, W4, st4⟩ := stB X2 hx hZ e2 Ar3 (j := (0 : Int32)) hin3 (g := (mkF m 43 #[rv a1, iv 1, iv c0] [(.int ((c0 >>> ((0 : Int32) &&& 31)).toInt8.toInt32)), (.int 0), (.ref a1)])) rfl rfl (hb hby d20_43)
  have V_a1_4 : Arv Z h4 a1 k1 .byte (4 : Int32) [(.int (nar .byte ((c0 >>> ((0 : Int32) &&& 31)).toInt8.toInt32))), (.int x1), (.int x2), (.int x3)] (.int (0 : Int32)) := Arv.set Ar3 q3 S3 Nx3 H3 G3 (fits_nar_byte _) W4 0 rfl (Nat.le_of_ble_eq_true rfl)
  have N4 := Fr.snoc X4 N0 g_a1
  have O4 : Old Z n0 h4 := O0.wr W4 g_a1
  have K4 : Keep h0 h4 [a1] := K0.wr W4 (Or.inl (List.mem_of_getElem? (i := 0) rfl))
  refine Go.st (f' := (mkF m 44 #[rv a1, iv 1, iv c0] [])) (fun _ k => st4 _ k) ?_
  refine Go.st (f' := (mkF m 45 #[rv a1, iv 1, iv c0] [(.ref a1)])) (fun _ k => XS.aloadN X4.here hx rfl (hb hby d20_44) rfl rfl k) ?_
  refine Go.st (f' := (mkF m 46 #[rv a1, iv 1, iv c0] [(.int 1), (.ref a1)])) (fun _ k => XS.iloadN X4.here hx rfl (hb hby d20_45) rfl k) ?_
  refine Go.st (f' := (mkF m 47 #[rv a1, iv 1, iv c0] [(.int c0), (.int 1), (.ref a1)])) (fun _ k => XS.iloadN X4.here hx rfl (hb hby d20_46) rfl k) ?_
  obtain ⟨T5, X5, e5, st5⟩ := getS2 X4 hx hZ hown (host := "") (Or.inl (ww hw 96 rfl)) Via.refl e4 (S_i_LO_BYTE_SHIFT.ext O4.2) (g := (mkF m 47 #[rv a1, iv 1, iv c0] [(.int c0), (.int 1), (.ref a1)])) rfl (hb hby d20_47)
  refine Go.st (f' := (mkF m 50 #[rv a1, iv 1, iv c0] [(.int 8), (.int c0), (.int 1), (.ref a1)])) (fun _ k => st5 _ k) ?_
  refine Go.st (f' := (mkF m 51 #[rv a1, iv 1, iv c0] [(.int (c0 >>> ((8 : Int32) &&& 31))), (.int 1), (.ref a1)])) (fun _ k => XS.ishr X5.here hx rfl (hb hby d20_50) rfl k) ?_
  refine Go.st (f' := (mkF m 52 #[rv a1, iv 1, iv c0] [(.int ((c0 >>> ((8 : Int32) &&& 31)).toInt8.toInt32)), (.int 1), (.ref a1)])) (fun _ k => XS.i2b X5.here hx rfl (hb hby d20_51) rfl k) ?_
  obtain ⟨cl6, Ar6, q6, S6, Nx6, H6, G6⟩ := id V_a1_4
  have hin6 : ¬ ((1 : Int32) < 0 ∨ cl6.slots.size ≤ ((1 : Int32)).toNatClampNeg) := inb_of S6 ⟨by decide, by decide⟩
  obtain ⟨T7, h7, X7, e7, W7, st7⟩ := stB X5 hx hZ e5 Ar6 (j := (1 : Int32)) hin6 (g := (mkF m 52 #[rv a1, iv 1, iv c0] [(.int ((c0 >>> ((8 : Int32) &&& 31)).toInt8.toInt32)), (.int 1), (.ref a1)])) rfl rfl (hb hby d20_52)
  have V_a1_7 : Arv Z h7 a1 k1 .byte (4 : Int32) [(.int (nar .byte ((c0 >>> ((0 : Int32) &&& 31)).toInt8.toInt32))), (.int (nar .byte ((c0 >>> ((8 : Int32) &&& 31)).toInt8.toInt32))), (.int x2), (.int x3)] (.int (0 : Int32)) := Arv.set Ar6 q6 S6 Nx6 H6 G6 (fits_nar_byte _) W7 1 rfl (Nat.le_of_ble_eq_true rfl)
  have N7 := Fr.snoc X7 N4 g_a1
  have O7 : Old Z n0 h7 := O4.wr W7 g_a1
  have K7 : Keep h0 h7 [a1] := K4.wr W7 (Or.inl (List.mem_of_getElem? (i := 0) rfl))
  refine Go.st (f' := (mkF m 53 #[rv a1, iv 1, iv c0] [])) (fun _ k => st7 _ k) ?_
  refine Go.ret0 X7 hlk hx hret (hb hby d20_53) e7 ?_ (by decide) (by decide)
  exact ⟨rfl, N7, K7, V_a1_7⟩
set_option maxRecDepth 65536 in
set_option maxHeartbeats 40000000 in
theorem ug_2_0 (l : Launch) (Z : State) (a0 : Array Value) (hw : ∀ d ∈ tables_1, d.before a0 Z = true) (ws : List Jvm.Cond) (a1 : Addr) (k1 : ClassId) (x0 : Int32) (x1 : Int32) (x2 : Int32) (x3 : Int32) (i_COMPACT_STRINGS : Int32) (v_SIOOBE_FORMATTER : Value) (h0 : Heap) (n0 : Nat) (O0 : Old Z n0 h0) (V_a1 : Arv Z h0 a1 k1 .byte (4 : Int32) [(.int x0), (.int x1), (.int x2), (.int x3)] (.int 0)) (WW : World1 Z i_COMPACT_STRINGS v_SIOOBE_FORMATTER) :
    Con l Z (⟨"java/lang/StringUTF16", "getChar", "([BI)C"⟩ : MethodName) jdk_52_method_5_code 2 (some .char) ws ({ frames := 0, cells := 0, slots := 0, locals := 0 } : Room) #[(.ref a1), (.int 0)] h0 (fun v h L => v = some (.int (nar .char (((((x0 &&& (255 : Int32)) <<< ((0 : Int32) &&& 31)) ||| ((x1 &&& (255 : Int32)) <<< ((8 : Int32) &&& 31))).toUInt32.toUInt16.toUInt32.toInt32)))) ∧ Fr n0 L ∧ h = h0) := by
  refine own_body (plainFor_of_name pn_java_lang_StringUTF16) ?_
  intro p e s m below meth c s₁ hx hby hml hZ hown hnm hlk hret X0 e0
  have N0 := Fr.nil n0
  refine Go.st (T' := s₁) (f' := (mkF m 0 #[rv a1, iv 0] [])) (fun _ k => castTop (by first | (simp [entryFrame, mkF, argsToLocals, Value.category]; done) | rfl) k) ?_
  have ⟨S_i_COMPACT_STRINGS, nz_i_COMPACT_STRINGS, S_v_SIOOBE_FORMATTER, r_v_SIOOBE_FORMATTER, S_i__assertionsDisabled, S_i_HI_BYTE_SHIFT, S_i_LO_BYTE_SHIFT⟩ := WW
  have lt_a1 := V_a1.lt
  obtain ⟨T1, X1, e1, st1⟩ := getS2 X0 hx hZ hown (host := "") (Or.inl (ww hw 94 rfl)) Via.refl e0 (S_i__assertionsDisabled.ext O0.2) (g := (mkF m 0 #[rv a1, iv 0] [])) rfl (hb hby d21_0)
  refine Go.st (f' := (mkF m 3 #[rv a1, iv 0] [(.int 1)])) (fun _ k => st1 _ k) ?_
  refine Go.st (f' := (mkF m 28 #[rv a1, iv 0] [])) (fun _ k => XS.ifYes X1.here hx rfl (pc0 := 3) (pc' := 28) rfl (hb hby d21_3) rfl (by decide) (by decide) (by decide) k) ?_
  refine Go.st (f' := (mkF m 29 #[rv a1, iv 0] [(.int 0)])) (fun _ k => XS.iloadN X1.here hx rfl (hb hby d21_28) rfl k) ?_
  refine Go.st (f' := (mkF m 30 #[rv a1, iv 0] [(.int 1), (.int 0)])) (fun _ k => XS.iconst X1.here hx rfl (hb hby d21_29) k) ?_
  refine Go.st (f' := (mkF m 31 #[rv a1, iv 0] [(.int 0)])) (fun _ k => XS.ishl X1.here hx rfl (hb hby d21_30) rfl k) ?_
  refine Go.st (f' := (mkF m 32 #[rv a1, iv 0] [])) (fun _ k => XS.istoreN X1.here hx rfl (hb hby d21_31) rfl (l' := #[rv a1, iv 0]) rfl k) ?_
  refine Go.st (f' := (mkF m 33 #[rv a1, iv 0] [(.ref a1)])) (fun _ k => XS.aloadN X1.here hx rfl (hb hby d21_32) rfl rfl k) ?_
  refine Go.st (f' := (mkF m 34 #[rv a1, iv 0] [(.int 0), (.ref a1)])) (fun _ k => XS.iloadN X1.here hx rfl (hb hby d21_33) rfl k) ?_
  refine Go.st (f' := (mkF m 37 #[rv a1, iv 1] [(.int 0), (.ref a1)])) (fun _ k => XS.iinc X1.here hx rfl (hb hby d21_34) rfl (l' := #[rv a1, iv 1]) rfl k) ?_
  obtain ⟨cl2, Ar2, -, S2, -, H2, -⟩ := id V_a1
  have hin2 : ¬ ((0 : Int32) < 0 ∨ cl2.slots.size ≤ ((0 : Int32)).toNatClampNeg) := inb_of S2 ⟨by decide, by decide⟩
  have hat2 : cl2.slots[((0 : Int32)).toNatClampNeg]? = some (.int x0) := H2.at hin2 rfl
  refine Go.st (f' := (mkF m 38 #[rv a1, iv 1] [(.int x0)])) (fun _ k => X1.baloadBytes hx (j := (0 : Int32)) (v := (.int x0)) (by rw [e1]; exact Ar2.1) (State.isArrayOf_alike hZ.alike Ar2.2.1) Ar2.2.2 hin2 hat2 (g := (mkF m 37 #[rv a1, iv 1] [(.int 0), (.ref a1)])) rfl rfl (hb hby d21_37) _ k) ?_
  refine Go.st (f' := (mkF m 41 #[rv a1, iv 1] [(.int 255), (.int x0)])) (fun _ k => XS.sipush X1.here hx rfl (hb hby d21_38) k) ?_
  refine Go.st (f' := (mkF m 42 #[rv a1, iv 1] [(.int (x0 &&& (255 : Int32)))])) (fun _ k => XS.iand X1.here hx rfl (hb hby d21_41) rfl k) ?_
  obtain ⟨T3, X3, e3, st3⟩ := getS2 X1 hx hZ hown (host := "") (Or.inl (ww hw 95 rfl)) Via.refl e1 (S_i_HI_BYTE_SHIFT.ext O0.2) (g := (mkF m 42 #[rv a1, iv 1] [(.int (x0 &&& (255 : Int32)))])) rfl (hb hby d21_42)
  refine Go.st (f' := (mkF m 45 #[rv a1, iv 1] [(.int 0), (.int (x0 &&& (255 : Int32)))])) (fun _ k => st3 _ k) ?_
  refine Go.st (f' := (mkF m 46 #[rv a1, iv 1] [(.int ((x0 &&& (255 : Int32)) <<< ((0 : Int32) &&& 31)))])) (fun _ k => XS.ishl X3.here hx rfl (hb hby d21_45) rfl k) ?_
  refine Go.st (f' := (mkF m 47 #[rv a1, iv 1] [(.ref a1), (.int ((x0 &&& (255 : Int32)) <<< ((0 : Int32) &&& 31)))])) (fun _ k => XS.aloadN X3.here hx rfl (hb hby d21_46) rfl rfl k) ?_
  refine Go.st (f' := (mkF m 48 #[rv a1, iv 1] [(.int 1), (.ref a1), (.int ((x0 &&& (255 : Int32)) <<< ((0 : Int32) &&& 31)))])) (fun _ k => XS.iloadN X3.here hx rfl (hb hby d21_47) rfl k) ?_
  obtain ⟨cl4, Ar4, -, S4, -, H4, -⟩ := id V_a1
  have hin4 : ¬ ((1 : Int32) < 0 ∨ cl4.slots.size ≤ ((1 : Int32)).toNatClampNeg) := inb_of S4 ⟨by decide, by decide⟩
  have hat4 : cl4.slots[((1 : Int32)).toNatClampNeg]? = some (.int x1) := H4.at hin4 rfl
  refine Go.st (f' := (mkF m 49 #[rv a1, iv 1] [(.int x1), (.int ((x0 &&& (255 : Int32)) <<< ((0 : Int32) &&& 31)))])) (fun _ k => X3.baloadBytes hx (j := (1 : Int32)) (v := (.int x1)) (by rw [e3]; exact Ar4.1) (State.isArrayOf_alike hZ.alike Ar4.2.1) Ar4.2.2 hin4 hat4 (g := (mkF m 48 #[rv a1, iv 1] [(.int 1), (.ref a1), (.int ((x0 &&& (255 : Int32)) <<< ((0 : Int32) &&& 31)))])) rfl rfl (hb hby d21_48) _ k) ?_
  refine Go.st (f' := (mkF m 52 #[rv a1, iv 1] [(.int 255), (.int x1), (.int ((x0 &&& (255 : Int32)) <<< ((0 : Int32) &&& 31)))])) (fun _ k => XS.sipush X3.here hx rfl (hb hby d21_49) k) ?_
  refine Go.st (f' := (mkF m 53 #[rv a1, iv 1] [(.int (x1 &&& (255 : Int32))), (.int ((x0 &&& (255 : Int32)) <<< ((0 : Int32) &&& 31)))])) (fun _ k => XS.iand X3.here hx rfl (hb hby d21_52) rfl k) ?_
  obtain ⟨T5, X5, e5, st5⟩ := getS2 X3 hx hZ hown (host := "") (Or.inl (ww hw 96 rfl)) Via.refl e3 (S_i_LO_BYTE_SHIFT.ext O0.2) (g := (mkF m 53 #[rv a1, iv 1] [(.int (x1 &&& (255 : Int32))), (.int ((x0 &&& (255 : Int32)) <<< ((0 : Int32) &&& 31)))])) rfl (hb hby d21_53)
  refine Go.st (f' := (mkF m 56 #[rv a1, iv 1] [(.int 8), (.int (x1 &&& (255 : Int32))), (.int ((x0 &&& (255 : Int32)) <<< ((0 : Int32) &&& 31)))])) (fun _ k => st5 _ k) ?_
  refine Go.st (f' := (mkF m 57 #[rv a1, iv 1] [(.int ((x1 &&& (255 : Int32)) <<< ((8 : Int32) &&& 31))), (.int ((x0 &&& (255 : Int32)) <<< ((0 : Int32) &&& 31)))])) (fun _ k => XS.ishl X5.here hx rfl (hb hby d21_56) rfl k) ?_
  refine Go.st (f' := (mkF m 58 #[rv a1, iv 1] [(.int (((x0 &&& (255 : Int32)) <<< ((0 : Int32) &&& 31)) ||| ((x1 &&& (255 : Int32)) <<< ((8 : Int32) &&& 31))))])) (fun _ k => XS.ior X5.here hx rfl (hb hby d21_57) rfl k) ?_
  refine Go.st (f' := (mkF m 59 #[rv a1, iv 1] [(.int ((((x0 &&& (255 : Int32)) <<< ((0 : Int32) &&& 31)) ||| ((x1 &&& (255 : Int32)) <<< ((8 : Int32) &&& 31))).toUInt32.toUInt16.toUInt32.toInt32))])) (fun _ k => XS.i2c X5.here hx rfl (hb hby d21_58) rfl k) ?_
  refine Go.retB X5 hlk hx (t := .char) hret (by simp) (hb hby d21_59) e5 ?_ (by decide) (by decide)
  exact ⟨rfl, N0, rfl⟩
set_option maxRecDepth 65536 in
set_option maxHeartbeats 40000000 in
theorem up_2_1 (l : Launch) (Z : State) (a0 : Array Value) (hw : ∀ d ∈ tables_1, d.before a0 Z = true) (ws : List Jvm.Cond) (a1 : Addr) (k1 : ClassId) (c0 : Int32) (x0 : Int32) (x1 : Int32) (x2 : Int32) (x3 : Int32) (i_COMPACT_STRINGS : Int32) (v_SIOOBE_FORMATTER : Value) (h0 : Heap) (n0 : Nat) (O0 : Old Z n0 h0) (g_a1 : n0 ≤ a1) (V_a1 : Arv Z h0 a1 k1 .byte (4 : Int32) [(.int x0), (.int x1), (.int x2), (.int x3)] (.int 0)) (WW : World1 Z i_COMPACT_STRINGS v_SIOOBE_FORMATTER) :
    Con l Z (⟨"java/lang/StringUTF16", "putChar", "([BII)V"⟩ : MethodName) jdk_52_method_4_code 3 none ws ({ frames := 0, cells := 0, slots := 0, locals := 0 } : Room) #[(.ref a1), (.int 1), (.int c0)] h0 (fun v h L => v = none ∧ Fr n0 L ∧ Keep h0 h [a1] ∧ Arv Z h a1 k1 .byte (4 : Int32) [(.int x0), (.int x1), (.int (nar .byte ((c0 >>> ((0 : Int32) &&& 31)).toInt8.toInt32))), (.int (nar .byte ((c0 >>> ((8 : Int32) &&& 31)).toInt8.toInt32)))] (.int 0)) := by
  refine own_body (plainFor_of_name pn_java_lang_StringUTF16) ?_
  intro p e s m below meth c s₁ hx hby hml hZ hown hnm hlk hret X0 e0
  have N0 := Fr.nil n0
  have K0 : Keep h0 h0 [a1] := Keep.refl _ _
  refine Go.st (T' := s₁) (f' := (mkF m 0 #[rv a1, iv 1, iv c0] [])) (fun _ k => castTop (by first | (simp [entryFrame, mkF, argsToLocals, Value.category]; done) | rfl) k) ?_
  have ⟨S_i_COMPACT_STRINGS, nz_i_COMPACT_STRINGS, S_v_SIOOBE_FORMATTER, r_v_SIOOBE_FORMATTER, S_i__assertionsDisabled, S_i_HI_BYTE_SHIFT, S_i_LO_BYTE_SHIFT⟩ := WW
  have lt_a1 := V_a1.lt
  obtain ⟨T1, X1, e1, st1⟩ := getS2 X0 hx hZ hown (host := "") (Or.inl (ww hw 94 rfl)) Via.refl e0 (S_i__assertionsDisabled.ext O0.2) (g := (mkF m 0 #[rv a1, iv 1, iv c0] [])) rfl (hb hby d20_0)
  refine Go.st (f' := (mkF m 3 #[rv a1, iv 1, iv c0] [(.int 1)])) (fun _ k => st1 _ k) ?_
  refine Go.st (f' := (mkF m 28 #[rv a1, iv 1, iv c0] [])) (fun _ k => XS.ifYes X1.here hx rfl (pc0 := 3) (pc' := 28) rfl (hb hby d20_3) rfl (by decide) (by decide) (by decide) k) ?_
  refine Go.st (f' := (mkF m 29 #[rv a1, iv 1, iv c0] [(.int 1)])) (fun _ k => XS.iloadN X1.here hx rfl (hb hby d20_28) rfl k) ?_
  refine Go.st (f' := (mkF m 30 #[rv a1, iv 1, iv c0] [(.int 1), (.int 1)])) (fun _ k => XS.iconst X1.here hx rfl (hb hby d20_29) k) ?_
  refine Go.st (f' := (mkF m 31 #[rv a1, iv 1, iv c0] [(.int 2)])) (fun _ k => XS.ishl X1.here hx rfl (hb hby d20_30) rfl k) ?_
  refine Go.st (f' := (mkF m 32 #[rv a1, iv 2, iv c0] [])) (fun _ k => XS.istoreN X1.here hx rfl (hb hby d20_31) rfl (l' := #[rv a1, iv 2, iv c0]) rfl k) ?_
  refine Go.st (f' := (mkF m 33 #[rv a1, iv 2, iv c0] [(.ref a1)])) (fun _ k => XS.aloadN X1.here hx rfl (hb hby d20_32) rfl rfl k) ?_
  refine Go.st (f' := (mkF m 34 #[rv a1, iv 2, iv c0] [(.int 2), (.ref a1)])) (fun _ k => XS.iloadN X1.here hx rfl (hb hby d20_33) rfl k) ?_
  refine Go.st (f' := (mkF m 37 #[rv a1, iv 3, iv c0] [(.int 2), (.ref a1)])) (fun _ k => XS.iinc X1.here hx rfl (hb hby d20_34) rfl (l' := #[rv a1, iv 3, iv c0]) rfl k) ?_
  refine Go.st (f' := (mkF m 38 #[rv a1, iv 3, iv c0] [(.int c0), (.int 2), (.ref a1)])) (fun _ k => XS.iloadN X1.here hx rfl (hb hby d20_37) rfl k) ?_
  obtain ⟨T2, X2, e2, st2⟩ := getS2 X1 hx hZ hown (host := "") (Or.inl (ww hw 95 rfl)) Via.refl e1 (S_i_HI_BYTE_SHIFT.ext O0.2) (g := (mkF m 38 #[rv a1, iv 3, iv c0] [(.int c0), (.int 2), (.ref a1)])) rfl (hb hby d20_38)
  refine Go.st (f' := (mkF m 41 #[rv a1, iv 3, iv c0] [(.int 0), (.int c0), (.int 2), (.ref a1)])) (fun _ k => st2 _ k) ?_
  refine Go.st (f' := (mkF m 42 #[rv a1, iv 3, iv c0] [(.int (c0 >>> ((0 : Int32) &&& 31))), (.int 2), (.ref a1)])) (fun _ k => XS.ishr X2.here hx rfl (hb hby d20_41) rfl k) ?_
  refine Go.st (f' := (mkF m 43 #[rv a1, iv 3, iv c0] [(.int ((c0 >>> ((0 : Int32) &&& 31)).toInt8.toInt32)), (.int 2), (.ref a1)])) (fun _ k => XS.i2b X2.here hx rfl (hb hby d20_42) rfl k) ?_
  obtain ⟨cl3, Ar3, q3, S3, Nx3, H3, G3⟩ := id V_a1
  have hin3 : ¬ ((2 : Int32) < 0 ∨ cl3.slots.size ≤ ((2 : Int32)).toNatClampNeg) := inb_of S3 ⟨by decide, by decide⟩
  obtain ⟨T4, h4, X4, e4, W4, st4⟩ := stB X2 hx hZ e2 Ar3 (j := (2 : Int32)) hin3 (g := (mkF m 43 #[rv a1, iv 3, iv c0] [(.int ((c0 >>> ((0 : Int32) &&& 31)).toInt8.toInt32)), (.int 2), (.ref a1)])) rfl rfl (hb hby d20_43)
  have V_a1_4 : Arv Z h4 a1 k1 .byte (4 : Int32) [(.int x0), (.int x1), (.int (nar .byte ((c0 >>> ((0 : Int32) &&& 31)).toInt8.toInt32))), (.int x3)] (.int (0 : Int32)) := Arv.set Ar3 q3 S3 Nx3 H3 G3 (fits_nar_byte _) W4 2 rfl (Nat.le_of_ble_eq_true rfl)
  have N4 := Fr.snoc X4 N0 g_a1
  have O4 : Old Z n0 h4 := O0.wr W4 g_a1
  have K4 : Keep h0 h4 [a1] := K0.wr W4 (Or.inl (List.mem_of_getElem? (i := 0) rfl))
  refine Go.st (f' := (mkF m 44 #[rv a1, iv 3, iv c0] [])) (fun _ k => st4 _ k) ?_
  refine Go.st (f' := (mkF m 45 #[rv a1, iv 3, iv c0] [(.ref a1)])) (fun _ k => XS.aloadN X4.here hx rfl (hb hby d20_44) rfl rfl k) ?_
  refine Go.st (f' := (mkF m 46 #[rv a1, iv 3, iv c0] [(.int 3), (.ref a1)])) (fun _ k => XS.iloadN X4.here hx rfl (hb hby d20_45) rfl k) ?_
  refine Go.st (f' := (mkF m 47 #[rv a1, iv 3, iv c0] [(.int c0), (.int 3), (.ref a1)])) (fun _ k => XS.iloadN X4.here hx rfl (hb hby d20_46) rfl k) ?_
  obtain ⟨T5, X5, e5, st5⟩ := getS2 X4 hx hZ hown (host := "") (Or.inl (ww hw 96 rfl)) Via.refl e4 (S_i_LO_BYTE_SHIFT.ext O4.2) (g := (mkF m 47 #[rv a1, iv 3, iv c0] [(.int c0), (.int 3), (.ref a1)])) rfl (hb hby d20_47)
  refine Go.st (f' := (mkF m 50 #[rv a1, iv 3, iv c0] [(.int 8), (.int c0), (.int 3), (.ref a1)])) (fun _ k => st5 _ k) ?_
  refine Go.st (f' := (mkF m 51 #[rv a1, iv 3, iv c0] [(.int (c0 >>> ((8 : Int32) &&& 31))), (.int 3), (.ref a1)])) (fun _ k => XS.ishr X5.here hx rfl (hb hby d20_50) rfl k) ?_
  refine Go.st (f' := (mkF m 52 #[rv a1, iv 3, iv c0] [(.int ((c0 >>> ((8 : Int32) &&& 31)).toInt8.toInt32)), (.int 3), (.ref a1)])) (fun _ k => XS.i2b X5.here hx rfl (hb hby d20_51) rfl k) ?_
  obtain ⟨cl6, Ar6, q6, S6, Nx6, H6, G6⟩ := id V_a1_4
  have hin6 : ¬ ((3 : Int32) < 0 ∨ cl6.slots.size ≤ ((3 : Int32)).toNatClampNeg) := inb_of S6 ⟨by decide, by decide⟩
  obtain ⟨T7, h7, X7, e7, W7, st7⟩ := stB X5 hx hZ e5 Ar6 (j := (3 : Int32)) hin6 (g := (mkF m 52 #[rv a1, iv 3, iv c0] [(.int ((c0 >>> ((8 : Int32) &&& 31)).toInt8.toInt32)), (.int 3), (.ref a1)])) rfl rfl (hb hby d20_52)
  have V_a1_7 : Arv Z h7 a1 k1 .byte (4 : Int32) [(.int x0), (.int x1), (.int (nar .byte ((c0 >>> ((0 : Int32) &&& 31)).toInt8.toInt32))), (.int (nar .byte ((c0 >>> ((8 : Int32) &&& 31)).toInt8.toInt32)))] (.int (0 : Int32)) := Arv.set Ar6 q6 S6 Nx6 H6 G6 (fits_nar_byte _) W7 3 rfl (Nat.le_of_ble_eq_true rfl)
  have N7 := Fr.snoc X7 N4 g_a1
  have O7 : Old Z n0 h7 := O4.wr W7 g_a1
  have K7 : Keep h0 h7 [a1] := K4.wr W7 (Or.inl (List.mem_of_getElem? (i := 0) rfl))
  refine Go.st (f' := (mkF m 53 #[rv a1, iv 3, iv c0] [])) (fun _ k => st7 _ k) ?_
  refine Go.ret0 X7 hlk hx hret (hb hby d20_53) e7 ?_ (by decide) (by decide)
  exact ⟨rfl, N7, K7, V_a1_7⟩
set_option maxRecDepth 65536 in
set_option maxHeartbeats 40000000 in
theorem ug_2_1 (l : Launch) (Z : State) (a0 : Array Value) (hw : ∀ d ∈ tables_1, d.before a0 Z = true) (ws : List Jvm.Cond) (a1 : Addr) (k1 : ClassId) (x0 : Int32) (x1 : Int32) (x2 : Int32) (x3 : Int32) (i_COMPACT_STRINGS : Int32) (v_SIOOBE_FORMATTER : Value) (h0 : Heap) (n0 : Nat) (O0 : Old Z n0 h0) (V_a1 : Arv Z h0 a1 k1 .byte (4 : Int32) [(.int x0), (.int x1), (.int x2), (.int x3)] (.int 0)) (WW : World1 Z i_COMPACT_STRINGS v_SIOOBE_FORMATTER) :
    Con l Z (⟨"java/lang/StringUTF16", "getChar", "([BI)C"⟩ : MethodName) jdk_52_method_5_code 2 (some .char) ws ({ frames := 0, cells := 0, slots := 0, locals := 0 } : Room) #[(.ref a1), (.int 1)] h0 (fun v h L => v = some (.int (nar .char (((((x2 &&& (255 : Int32)) <<< ((0 : Int32) &&& 31)) ||| ((x3 &&& (255 : Int32)) <<< ((8 : Int32) &&& 31))).toUInt32.toUInt16.toUInt32.toInt32)))) ∧ Fr n0 L ∧ h = h0) := by
  refine own_body (plainFor_of_name pn_java_lang_StringUTF16) ?_
  intro p e s m below meth c s₁ hx hby hml hZ hown hnm hlk hret X0 e0
  have N0 := Fr.nil n0
  refine Go.st (T' := s₁) (f' := (mkF m 0 #[rv a1, iv 1] [])) (fun _ k => castTop (by first | (simp [entryFrame, mkF, argsToLocals, Value.category]; done) | rfl) k) ?_
  have ⟨S_i_COMPACT_STRINGS, nz_i_COMPACT_STRINGS, S_v_SIOOBE_FORMATTER, r_v_SIOOBE_FORMATTER, S_i__assertionsDisabled, S_i_HI_BYTE_SHIFT, S_i_LO_BYTE_SHIFT⟩ := WW
  have lt_a1 := V_a1.lt
  obtain ⟨T1, X1, e1, st1⟩ := getS2 X0 hx hZ hown (host := "") (Or.inl (ww hw 94 rfl)) Via.refl e0 (S_i__assertionsDisabled.ext O0.2) (g := (mkF m 0 #[rv a1, iv 1] [])) rfl (hb hby d21_0)
  refine Go.st (f' := (mkF m 3 #[rv a1, iv 1] [(.int 1)])) (fun _ k => st1 _ k) ?_
  refine Go.st (f' := (mkF m 28 #[rv a1, iv 1] [])) (fun _ k => XS.ifYes X1.here hx rfl (pc0 := 3) (pc' := 28) rfl (hb hby d21_3) rfl (by decide) (by decide) (by decide) k) ?_
  refine Go.st (f' := (mkF m 29 #[rv a1, iv 1] [(.int 1)])) (fun _ k => XS.iloadN X1.here hx rfl (hb hby d21_28) rfl k) ?_
  refine Go.st (f' := (mkF m 30 #[rv a1, iv 1] [(.int 1), (.int 1)])) (fun _ k => XS.iconst X1.here hx rfl (hb hby d21_29) k) ?_
  refine Go.st (f' := (mkF m 31 #[rv a1, iv 1] [(.int 2)])) (fun _ k => XS.ishl X1.here hx rfl (hb hby d21_30) rfl k) ?_
  refine Go.st (f' := (mkF m 32 #[rv a1, iv 2] [])) (fun _ k => XS.istoreN X1.here hx rfl (hb hby d21_31) rfl (l' := #[rv a1, iv 2]) rfl k) ?_
  refine Go.st (f' := (mkF m 33 #[rv a1, iv 2] [(.ref a1)])) (fun _ k => XS.aloadN X1.here hx rfl (hb hby d21_32) rfl rfl k) ?_
  refine Go.st (f' := (mkF m 34 #[rv a1, iv 2] [(.int 2), (.ref a1)])) (fun _ k => XS.iloadN X1.here hx rfl (hb hby d21_33) rfl k) ?_
  refine Go.st (f' := (mkF m 37 #[rv a1, iv 3] [(.int 2), (.ref a1)])) (fun _ k => XS.iinc X1.here hx rfl (hb hby d21_34) rfl (l' := #[rv a1, iv 3]) rfl k) ?_
  obtain ⟨cl2, Ar2, -, S2, -, H2, -⟩ := id V_a1
  have hin2 : ¬ ((2 : Int32) < 0 ∨ cl2.slots.size ≤ ((2 : Int32)).toNatClampNeg) := inb_of S2 ⟨by decide, by decide⟩
  have hat2 : cl2.slots[((2 : Int32)).toNatClampNeg]? = some (.int x2) := H2.at hin2 rfl
  refine Go.st (f' := (mkF m 38 #[rv a1, iv 3] [(.int x2)])) (fun _ k => X1.baloadBytes hx (j := (2 : Int32)) (v := (.int x2)) (by rw [e1]; exact Ar2.1) (State.isArrayOf_alike hZ.alike Ar2.2.1) Ar2.2.2 hin2 hat2 (g := (mkF m 37 #[rv a1, iv 3] [(.int 2), (.ref a1)])) rfl rfl (hb hby d21_37) _ k) ?_
  refine Go.st (f' := (mkF m 41 #[rv a1, iv 3] [(.int 255), (.int x2)])) (fun _ k => XS.sipush X1.here hx rfl (hb hby d21_38) k) ?_
  refine Go.st (f' := (mkF m 42 #[rv a1, iv 3] [(.int (x2 &&& (255 : Int32)))])) (fun _ k => XS.iand X1.here hx rfl (hb hby d21_41) rfl k) ?_
  obtain ⟨T3, X3, e3, st3⟩ := getS2 X1 hx hZ hown (host := "") (Or.inl (ww hw 95 rfl)) Via.refl e1 (S_i_HI_BYTE_SHIFT.ext O0.2) (g := (mkF m 42 #[rv a1, iv 3] [(.int (x2 &&& (255 : Int32)))])) rfl (hb hby d21_42)
  refine Go.st (f' := (mkF m 45 #[rv a1, iv 3] [(.int 0), (.int (x2 &&& (255 : Int32)))])) (fun _ k => st3 _ k) ?_
  refine Go.st (f' := (mkF m 46 #[rv a1, iv 3] [(.int ((x2 &&& (255 : Int32)) <<< ((0 : Int32) &&& 31)))])) (fun _ k => XS.ishl X3.here hx rfl (hb hby d21_45) rfl k) ?_
  refine Go.st (f' := (mkF m 47 #[rv a1, iv 3] [(.ref a1), (.int ((x2 &&& (255 : Int32)) <<< ((0 : Int32) &&& 31)))])) (fun _ k => XS.aloadN X3.here hx rfl (hb hby d21_46) rfl rfl k) ?_
  refine Go.st (f' := (mkF m 48 #[rv a1, iv 3] [(.int 3), (.ref a1), (.int ((x2 &&& (255 : Int32)) <<< ((0 : Int32) &&& 31)))])) (fun _ k => XS.iloadN X3.here hx rfl (hb hby d21_47) rfl k) ?_
  obtain ⟨cl4, Ar4, -, S4, -, H4, -⟩ := id V_a1
  have hin4 : ¬ ((3 : Int32) < 0 ∨ cl4.slots.size ≤ ((3 : Int32)).toNatClampNeg) := inb_of S4 ⟨by decide, by decide⟩
  have hat4 : cl4.slots[((3 : Int32)).toNatClampNeg]? = some (.int x3) := H4.at hin4 rfl
  refine Go.st (f' := (mkF m 49 #[rv a1, iv 3] [(.int x3), (.int ((x2 &&& (255 : Int32)) <<< ((0 : Int32) &&& 31)))])) (fun _ k => X3.baloadBytes hx (j := (3 : Int32)) (v := (.int x3)) (by rw [e3]; exact Ar4.1) (State.isArrayOf_alike hZ.alike Ar4.2.1) Ar4.2.2 hin4 hat4 (g := (mkF m 48 #[rv a1, iv 3] [(.int 3), (.ref a1), (.int ((x2 &&& (255 : Int32)) <<< ((0 : Int32) &&& 31)))])) rfl rfl (hb hby d21_48) _ k) ?_
  refine Go.st (f' := (mkF m 52 #[rv a1, iv 3] [(.int 255), (.int x3), (.int ((x2 &&& (255 : Int32)) <<< ((0 : Int32) &&& 31)))])) (fun _ k => XS.sipush X3.here hx rfl (hb hby d21_49) k) ?_
  refine Go.st (f' := (mkF m 53 #[rv a1, iv 3] [(.int (x3 &&& (255 : Int32))), (.int ((x2 &&& (255 : Int32)) <<< ((0 : Int32) &&& 31)))])) (fun _ k => XS.iand X3.here hx rfl (hb hby d21_52) rfl k) ?_
  obtain ⟨T5, X5, e5, st5⟩ := getS2 X3 hx hZ hown (host := "") (Or.inl (ww hw 96 rfl)) Via.refl e3 (S_i_LO_BYTE_SHIFT.ext O0.2) (g := (mkF m 53 #[rv a1, iv 3] [(.int (x3 &&& (255 : Int32))), (.int ((x2 &&& (255 : Int32)) <<< ((0 : Int32) &&& 31)))])) rfl (hb hby d21_53)
  refine Go.st (f' := (mkF m 56 #[rv a1, iv 3] [(.int 8), (.int (x3 &&& (255 : Int32))), (.int ((x2 &&& (255 : Int32)) <<< ((0 : Int32) &&& 31)))])) (fun _ k => st5 _ k) ?_
  refine Go.st (f' := (mkF m 57 #[rv a1, iv 3] [(.int ((x3 &&& (255 : Int32)) <<< ((8 : Int32) &&& 31))), (.int ((x2 &&& (255 : Int32)) <<< ((0 : Int32) &&& 31)))])) (fun _ k => XS.ishl X5.here hx rfl (hb hby d21_56) rfl k) ?_
  refine Go.st (f' := (mkF m 58 #[rv a1, iv 3] [(.int (((x2 &&& (255 : Int32)) <<< ((0 : Int32) &&& 31)) ||| ((x3 &&& (255 : Int32)) <<< ((8 : Int32) &&& 31))))])) (fun _ k => XS.ior X5.here hx rfl (hb hby d21_57) rfl k) ?_
  refine Go.st (f' := (mkF m 59 #[rv a1, iv 3] [(.int ((((x2 &&& (255 : Int32)) <<< ((0 : Int32) &&& 31)) ||| ((x3 &&& (255 : Int32)) <<< ((8 : Int32) &&& 31))).toUInt32.toUInt16.toUInt32.toInt32))])) (fun _ k => XS.i2c X5.here hx rfl (hb hby d21_58) rfl k) ?_
  refine Go.retB X5 hlk hx (t := .char) hret (by simp) (hb hby d21_59) e5 ?_ (by decide) (by decide)
  exact ⟨rfl, N0, rfl⟩
set_option maxRecDepth 65536 in
set_option maxHeartbeats 40000000 in
theorem ut_2 (l : Launch) (Z : State) (a0 : Array Value) (hw : ∀ d ∈ tables_1, d.before a0 Z = true) (ws : List Jvm.Cond) (a1 : Addr) (k1 : ClassId) (c0 : Int32) (c1 : Int32) (i_COMPACT_STRINGS : Int32) (v_SIOOBE_FORMATTER : Value) (h0 : Heap) (n0 : Nat) (O0 : Old Z n0 h0) (V_a1 : Arv Z h0 a1 k1 .char (2 : Int32) [(.int c0), (.int c1)] (.int 0)) (WW : World1 Z i_COMPACT_STRINGS v_SIOOBE_FORMATTER) :
    Con l Z (⟨"java/lang/StringUTF16", "toBytes", "([CII)[B"⟩ : MethodName) jdk_52_method_14_code 5 (some (.array .byte)) ws ({ frames := 2, cells := 1, slots := 4, locals := 24 } : Room) #[(.ref a1), (.int 0), (.int 2)] h0 (fun v h L => ∃ (b : Addr) (kb : ClassId), v = some (.ref b) ∧ Fr n0 L ∧ h0.size ≤ b ∧ Keep h0 h [] ∧ Arv Z h b kb .byte (4 : Int32) [(.int (nar .byte ((c0 >>> ((0 : Int32) &&& 31)).toInt8.toInt32))), (.int (nar .byte ((c0 >>> ((8 : Int32) &&& 31)).toInt8.toInt32))), (.int (nar .byte ((c1 >>> ((0 : Int32) &&& 31)).toInt8.toInt32))), (.int (nar .byte ((c1 >>> ((8 : Int32) &&& 31)).toInt8.toInt32)))] (.int 0)) := by
  refine own_body (plainFor_of_name pn_java_lang_StringUTF16) ?_
  intro p e s m below meth c s₁ hx hby hml hZ hown hnm hlk hret X0 e0
  have N0 := Fr.nil n0
  have K0 : Keep h0 h0 [] := Keep.refl _ _
  refine Go.st (T' := s₁) (f' := (mkF m 0 #[rv a1, iv 0, iv 2, .unset, .unset] [])) (fun _ k => castTop (by first | (simp [entryFrame, mkF, argsToLocals, Value.category]; done) | rfl) k) ?_
  have ⟨S_i_COMPACT_STRINGS, nz_i_COMPACT_STRINGS, S_v_SIOOBE_FORMATTER, r_v_SIOOBE_FORMATTER, S_i__assertionsDisabled, S_i_HI_BYTE_SHIFT, S_i_LO_BYTE_SHIFT⟩ := WW
  have lt_a1 := V_a1.lt
  refine Go.st (f' := (mkF m 1 #[rv a1, iv 0, iv 2, .unset, .unset] [(.int 2)])) (fun _ k => XS.iloadN X0.here hx rfl (hb hby d17_0) rfl k) ?_
  obtain ⟨_, _, ⟨T1, L1, kk1, nn1⟩, -, X1, ⟨Lc1, hQ1, lq1, yq1, zz1⟩, st1⟩ := Jvm.LawKit.callS X0 hx (y := (⟨"java/lang/StringUTF16", "newBytesFor", "(I)[B"⟩ : MethodName)) hown (mvT hZ (ww hw 84 rfl)) (mvT hZ (ww hw 85 rfl)) (mvT hZ (ww hw 43 rfl)) (mvT hZ (ww hw 86 rfl)) (by decide) (own_back (W := 0) (uf_2 l Z a0 hw [] h0 n0 O0) hZ (ww hw 86 rfl) (ww hw 43 rfl) (by decide) (by decide)) (g := (mkF m 1 #[rv a1, iv 0, iv 2, .unset, .unset] [(.int 2)])) rfl (by rw [hml]; rfl) (argsL := [(.int (2 : Int32))]) (rest := []) (lenOf pd__I__B rfl) rfl (by show 2 * 0 + _ ≤ _; exact Nat.le_of_eq rfl) (hb hby d17_1) (fun _ _ => ⟨rfl, e0, (by decide : 0 + 1 ≤ _), (by decide : 0 + 4 ≤ _)⟩)
  dsimp only [Pt.U, Pt.locs, Pt.cells, Pt.slots] at X1 lq1 yq1 zz1 st1 hQ1
  subst lq1 yq1 zz1
  obtain ⟨b1, kb1, rfl, Nq1, zq1, kq1, vq1⟩ := hQ1
  have N1 := Fr.app N0 Nq1
  have ne_a1_b1 : a1 ≠ b1 := Nat.ne_of_lt (Nat.lt_of_lt_of_le lt_a1 zq1)
  have g_b1 : n0 ≤ b1 := Nat.le_trans (O0.1 ▸ O0.2.1) zq1
  have sz_b1 : h0.size ≤ b1 := Nat.le_trans K0.1 zq1
  have O1 : Old Z n0 T1.heap := O0.keep kq1 all0
  have K1 : Keep h0 T1.heap [] := K0.trans kq1 all0
  have lt_b1 := vq1.lt
  refine Go.st (f' := (mkF m 4 #[rv a1, iv 0, iv 2, .unset, .unset] [(.ref b1)])) (fun _ k => st1 _ k) ?_
  refine Go.st (f' := (mkF m 5 #[rv a1, iv 0, iv 2, rv b1, .unset] [])) (fun _ k => XS.astoreN X1.here hx rfl (hb hby d17_4) rfl rfl (l' := #[rv a1, iv 0, iv 2, rv b1, .unset]) rfl k) ?_
  refine Go.st (f' := (mkF m 6 #[rv a1, iv 0, iv 2, rv b1, .unset] [(.int 0)])) (fun _ k => XS.iconst X1.here hx rfl (hb hby d17_5) k) ?_
  refine Go.st (f' := (mkF m 8 #[rv a1, iv 0, iv 2, rv b1, iv 0] [])) (fun _ k => XS.istore X1.here hx rfl (hb hby d17_6) rfl (l' := #[rv a1, iv 0, iv 2, rv b1, iv 0]) rfl k) ?_
  refine Go.st (f' := (mkF m 10 #[rv a1, iv 0, iv 2, rv b1, iv 0] [(.int 0)])) (fun _ k => XS.iload X1.here hx rfl (hb hby d17_8) rfl k) ?_
  refine Go.st (f' := (mkF m 11 #[rv a1, iv 0, iv 2, rv b1, iv 0] [(.int 2), (.int 0)])) (fun _ k => XS.iloadN X1.here hx rfl (hb hby d17_10) rfl k) ?_
  refine Go.st (f' := (mkF m 14 #[rv a1, iv 0, iv 2, rv b1, iv 0] [])) (fun _ k => XS.icmpNo X1.here hx rfl (hb hby d17_11) rfl (by decide) k) ?_
  refine Go.st (f' := (mkF m 15 #[rv a1, iv 0, iv 2, rv b1, iv 0] [(.ref b1)])) (fun _ k => XS.aloadN X1.here hx rfl (hb hby d17_14) rfl rfl k) ?_
  refine Go.st (f' := (mkF m 17 #[rv a1, iv 0, iv 2, rv b1, iv 0] [(.int 0), (.ref b1)])) (fun _ k => XS.iload X1.here hx rfl (hb hby d17_15) rfl k) ?_
  refine Go.st (f' := (mkF m 18 #[rv a1, iv 0, iv 2, rv b1, iv 0] [(.ref a1), (.int 0), (.ref b1)])) (fun _ k => XS.aloadN X1.here hx rfl (hb hby d17_17) rfl rfl k) ?_
  refine Go.st (f' := (mkF m 19 #[rv a1, iv 0, iv 2, rv b1, iv 0] [(.int 0), (.ref a1), (.int 0), (.ref b1)])) (fun _ k => XS.iloadN X1.here hx rfl (hb hby d17_18) rfl k) ?_
  have ft3 := (V_a1.keep kq1 nin0)
  obtain ⟨cl2, Ar2, -, S2, -, H2, -⟩ := id ft3
  have hin2 : ¬ ((0 : Int32) < 0 ∨ cl2.slots.size ≤ ((0 : Int32)).toNatClampNeg) := inb_of S2 ⟨by decide, by decide⟩
  have hat2 : cl2.slots[((0 : Int32)).toNatClampNeg]? = some (.int c0) := H2.at hin2 rfl
  refine Go.st (f' := (mkF m 20 #[rv a1, iv 0, iv 2, rv b1, iv 0] [(.int c0), (.int 0), (.ref b1)])) (fun _ k => X1.caload hx (j := (0 : Int32)) (v := (.int c0)) Ar2.1 (State.isArrayOf_alike hZ.alike Ar2.2.1) Ar2.2.2 hin2 hat2 (g := (mkF m 19 #[rv a1, iv 0, iv 2, rv b1, iv 0] [(.int 0), (.ref a1), (.int 0), (.ref b1)])) rfl rfl (hb hby d17_19) _ k) ?_
  obtain ⟨_, _, ⟨T4, L4, kk4, nn4⟩, -, X4, ⟨Lc4, hQ4, lq4, yq4, zz4⟩, st4⟩ := Jvm.LawKit.callS X1 hx (y := (⟨"java/lang/StringUTF16", "putChar", "([BII)V"⟩ : MethodName)) hown (mvT hZ (ww hw 91 rfl)) (mvT hZ (ww hw 92 rfl)) (mvT hZ (ww hw 43 rfl)) (mvT hZ (ww hw 93 rfl)) (by decide) (own_back (W := 0) (up_2_0 l Z a0 hw [] b1 kb1 c0 (0 : Int32) (0 : Int32) (0 : Int32) (0 : Int32) i_COMPACT_STRINGS v_SIOOBE_FORMATTER T1.heap n0 O1 g_b1 vq1 WW) hZ (ww hw 93 rfl) (ww hw 43 rfl) (by decide) (by decide)) (g := (mkF m 20 #[rv a1, iv 0, iv 2, rv b1, iv 0] [(.int c0), (.int 0), (.ref b1)])) rfl (by rw [hml]; rfl) (argsL := [(.ref b1), (.int (0 : Int32)), (.int c0)]) (rest := []) (lenOf pd___BII_V rfl) rfl (by show 2 * 0 + _ ≤ _; exact Nat.le_of_eq rfl) (hb hby d17_20) (fun _ _ => ⟨rfl, rfl, (by decide : 1 + 0 ≤ _), (by decide : 4 + 0 ≤ _)⟩)
  dsimp only [Pt.U, Pt.locs, Pt.cells, Pt.slots] at X4 lq4 yq4 zz4 st4 hQ4
  subst lq4 yq4 zz4
  obtain ⟨rfl, Nq4, kq4, vq4⟩ := hQ4
  have N4 := Fr.app N1 Nq4
  have O4 : Old Z n0 T4.heap := O1.keep kq4 (allS g_b1 all0)
  have K4 : Keep h0 T4.heap [] := K1.trans kq4 (allS (Or.inr sz_b1) all0)
  refine Go.st (f' := (mkF m 23 #[rv a1, iv 0, iv 2, rv b1, iv 0] [])) (fun _ k => st4 _ k) ?_
  refine Go.st (f' := (mkF m 26 #[rv a1, iv 1, iv 2, rv b1, iv 0] [])) (fun _ k => XS.iinc X4.here hx rfl (hb hby d17_23) rfl (l' := #[rv a1, iv 1, iv 2, rv b1, iv 0]) rfl k) ?_
  refine Go.st (f' := (mkF m 29 #[rv a1, iv 1, iv 2, rv b1, iv 1] [])) (fun _ k => XS.iinc X4.here hx rfl (hb hby d17_26) rfl (l' := #[rv a1, iv 1, iv 2, rv b1, iv 1]) rfl k) ?_
  refine Go.st (f' := (mkF m 8 #[rv a1, iv 1, iv 2, rv b1, iv 1] [])) (fun _ k => XS.goto X4.here hx rfl (pc0 := 29) (pc' := 8) rfl (hb hby d17_29) (by decide) (by decide) k) ?_
  refine Go.st (f' := (mkF m 10 #[rv a1, iv 1, iv 2, rv b1, iv 1] [(.int 1)])) (fun _ k => XS.iload X4.here hx rfl (hb hby d17_8) rfl k) ?_
  refine Go.st (f' := (mkF m 11 #[rv a1, iv 1, iv 2, rv b1, iv 1] [(.int 2), (.int 1)])) (fun _ k => XS.iloadN X4.here hx rfl (hb hby d17_10) rfl k) ?_
  refine Go.st (f' := (mkF m 14 #[rv a1, iv 1, iv 2, rv b1, iv 1] [])) (fun _ k => XS.icmpNo X4.here hx rfl (hb hby d17_11) rfl (by decide) k) ?_
  refine Go.st (f' := (mkF m 15 #[rv a1, iv 1, iv 2, rv b1, iv 1] [(.ref b1)])) (fun _ k => XS.aloadN X4.here hx rfl (hb hby d17_14) rfl rfl k) ?_
  refine Go.st (f' := (mkF m 17 #[rv a1, iv 1, iv 2, rv b1, iv 1] [(.int 1), (.ref b1)])) (fun _ k => XS.iload X4.here hx rfl (hb hby d17_15) rfl k) ?_
  refine Go.st (f' := (mkF m 18 #[rv a1, iv 1, iv 2, rv b1, iv 1] [(.ref a1), (.int 1), (.ref b1)])) (fun _ k => XS.aloadN X4.here hx rfl (hb hby d17_17) rfl rfl k) ?_
  refine Go.st (f' := (mkF m 19 #[rv a1, iv 1, iv 2, rv b1, iv 1] [(.int 1), (.ref a1), (.int 1), (.ref b1)])) (fun _ k => XS.iloadN X4.here hx rfl (hb hby d17_18) rfl k) ?_
  have ft6 := (ft3.keep kq4 (ninS ne_a1_b1 nin0))
  obtain ⟨cl5, Ar5, -, S5, -, H5, -⟩ := id ft6
  have hin5 : ¬ ((1 : Int32) < 0 ∨ cl5.slots.size ≤ ((1 : Int32)).toNatClampNeg) := inb_of S5 ⟨by decide, by decide⟩
  have hat5 : cl5.slots[((1 : Int32)).toNatClampNeg]? = some (.int c1) := H5.at hin5 rfl
  refine Go.st (f' := (mkF m 20 #[rv a1, iv 1, iv 2, rv b1, iv 1] [(.int c1), (.int 1), (.ref b1)])) (fun _ k => X4.caload hx (j := (1 : Int32)) (v := (.int c1)) Ar5.1 (State.isArrayOf_alike hZ.alike Ar5.2.1) Ar5.2.2 hin5 hat5 (g := (mkF m 19 #[rv a1, iv 1, iv 2, rv b1, iv 1] [(.int 1), (.ref a1), (.int 1), (.ref b1)])) rfl rfl (hb hby d17_19) _ k) ?_
  obtain ⟨_, _, ⟨T7, L7, kk7, nn7⟩, -, X7, ⟨Lc7, hQ7, lq7, yq7, zz7⟩, st7⟩ := Jvm.LawKit.callS X4 hx (y := (⟨"java/lang/StringUTF16", "putChar", "([BII)V"⟩ : MethodName)) hown (mvT hZ (ww hw 91 rfl)) (mvT hZ (ww hw 92 rfl)) (mvT hZ (ww hw 43 rfl)) (mvT hZ (ww hw 93 rfl)) (by decide) (own_back (W := 0) (up_2_1 l Z a0 hw [] b1 kb1 c1 (nar .byte ((c0 >>> ((0 : Int32) &&& 31)).toInt8.toInt32)) (nar .byte ((c0 >>> ((8 : Int32) &&& 31)).toInt8.toInt32)) (0 : Int32) (0 : Int32) i_COMPACT_STRINGS v_SIOOBE_FORMATTER T4.heap n0 O4 g_b1 vq4 WW) hZ (ww hw 93 rfl) (ww hw 43 rfl) (by decide) (by decide)) (g := (mkF m 20 #[rv a1, iv 1, iv 2, rv b1, iv 1] [(.int c1), (.int 1), (.ref b1)])) rfl (by rw [hml]; rfl) (argsL := [(.ref b1), (.int (1 : Int32)), (.int c1)]) (rest := []) (lenOf pd___BII_V rfl) rfl (by show 2 * 0 + _ ≤ _; exact Nat.le_of_eq rfl) (hb hby d17_20) (fun _ _ => ⟨rfl, rfl, (by decide : 1 + 0 ≤ _), (by decide : 4 + 0 ≤ _)⟩)
  dsimp only [Pt.U, Pt.locs, Pt.cells, Pt.slots] at X7 lq7 yq7 zz7 st7 hQ7
  subst lq7 yq7 zz7
  obtain ⟨rfl, Nq7, kq7, vq7⟩ := hQ7
  have N7 := Fr.app N4 Nq7
  have O7 : Old Z n0 T7.heap := O4.keep kq7 (allS g_b1 all0)
  have K7 : Keep h0 T7.heap [] := K4.trans kq7 (allS (Or.inr sz_b1) all0)
  refine Go.st (f' := (mkF m 23 #[rv a1, iv 1, iv 2, rv b1, iv 1] [])) (fun _ k => st7 _ k) ?_
  refine Go.st (f' := (mkF m 26 #[rv a1, iv 2, iv 2, rv b1, iv 1] [])) (fun _ k => XS.iinc X7.here hx rfl (hb hby d17_23) rfl (l' := #[rv a1, iv 2, iv 2, rv b1, iv 1]) rfl k) ?_
  refine Go.st (f' := (mkF m 29 #[rv a1, iv 2, iv 2, rv b1, iv 2] [])) (fun _ k => XS.iinc X7.here hx rfl (hb hby d17_26) rfl (l' := #[rv a1, iv 2, iv 2, rv b1, iv 2]) rfl k) ?_
  refine Go.st (f' := (mkF m 8 #[rv a1, iv 2, iv 2, rv b1, iv 2] [])) (fun _ k => XS.goto X7.here hx rfl (pc0 := 29) (pc' := 8) rfl (hb hby d17_29) (by decide) (by decide) k) ?_
  refine Go.st (f' := (mkF m 10 #[rv a1, iv 2, iv 2, rv b1, iv 2] [(.int 2)])) (fun _ k => XS.iload X7.here hx rfl (hb hby d17_8) rfl k) ?_
  refine Go.st (f' := (mkF m 11 #[rv a1, iv 2, iv 2, rv b1, iv 2] [(.int 2), (.int 2)])) (fun _ k => XS.iloadN X7.here hx rfl (hb hby d17_10) rfl k) ?_
  refine Go.st (f' := (mkF m 32 #[rv a1, iv 2, iv 2, rv b1, iv 2] [])) (fun _ k => XS.icmpYes X7.here hx rfl (pc0 := 11) (pc' := 32) rfl (hb hby d17_11) rfl (by decide) (by decide) (by decide) k) ?_
  refine Go.st (f' := (mkF m 33 #[rv a1, iv 2, iv 2, rv b1, iv 2] [(.ref b1)])) (fun _ k => XS.aloadN X7.here hx rfl (hb hby d17_32) rfl rfl k) ?_
  refine Go.retV X7 hlk hx (t := (.array .byte)) hret rfl (Or.inr (Or.inr (Or.inr (Or.inr ⟨rfl, rfl, rfl⟩)))) (hb hby d17_33) rfl ?_ (by decide) (by decide)
  exact ⟨b1, kb1, rfl, N7, sz_b1, K7, vq7⟩
set_option maxRecDepth 65536 in
set_option maxHeartbeats 40000000 in
theorem ul_3 (l : Launch) (Z : State) (a0 : Array Value) (hw : ∀ d ∈ tables_1, d.before a0 Z = true) (ws : List Jvm.Cond)  (h0 : Heap) (n0 : Nat) (O0 : Old Z n0 h0)  :
    Con l Z (⟨"java/lang/StringUTF16", "newBytesLength", "(I)I"⟩ : MethodName) jdk_52_method_3_code 1 (some .int) ws ({ frames := 0, cells := 0, slots := 0, locals := 0 } : Room) #[(.int 3)] h0 (fun v h L => v = some (.int 6) ∧ Fr n0 L ∧ h = h0) := by
  refine own_body (plainFor_of_name pn_java_lang_StringUTF16) ?_
  intro p e s m below meth c s₁ hx hby hml hZ hown hnm hlk hret X0 e0
  have N0 := Fr.nil n0
  refine Go.st (T' := s₁) (f' := (mkF m 0 #[iv 3] [])) (fun _ k => castTop (by first | (simp [entryFrame, mkF, argsToLocals, Value.category]; done) | rfl) k) ?_
  refine Go.st (f' := (mkF m 1 #[iv 3] [(.int 3)])) (fun _ k => XS.iloadN X0.here hx rfl (hb hby d19_0) rfl k) ?_
  refine Go.st (f' := (mkF m 12 #[iv 3] [])) (fun _ k => XS.ifYes X0.here hx rfl (pc0 := 1) (pc' := 12) rfl (hb hby d19_1) rfl (by decide) (by decide) (by decide) k) ?_
  refine Go.st (f' := (mkF m 13 #[iv 3] [(.int 3)])) (fun _ k => XS.iloadN X0.here hx rfl (hb hby d19_12) rfl k) ?_
  refine Go.st (f' := (mkF m 15 #[iv 3] [(.int 1073741823), (.int 3)])) (fun _ k => X0.ldcInt hx hown (mvT hZ (ww hw 90 rfl)) (g := (mkF m 13 #[iv 3] [(.int 3)])) rfl (hb hby d19_13) _ k) ?_
  refine Go.st (f' := (mkF m 55 #[iv 3] [])) (fun _ k => XS.icmpYes X0.here hx rfl (pc0 := 15) (pc' := 55) rfl (hb hby d19_15) rfl (by decide) (by decide) (by decide) k) ?_
  refine Go.st (f' := (mkF m 56 #[iv 3] [(.int 3)])) (fun _ k => XS.iloadN X0.here hx rfl (hb hby d19_55) rfl k) ?_
  refine Go.st (f' := (mkF m 57 #[iv 3] [(.int 1), (.int 3)])) (fun _ k => XS.iconst X0.here hx rfl (hb hby d19_56) k) ?_
  refine Go.st (f' := (mkF m 58 #[iv 3] [(.int 6)])) (fun _ k => XS.ishl X0.here hx rfl (hb hby d19_57) rfl k) ?_
  refine Go.retV X0 hlk hx (t := .int) hret rfl (Or.inl ⟨rfl, Or.inl rfl, _, rfl⟩) (hb hby d19_58) e0 ?_ (by decide) (by decide)
  exact ⟨rfl, N0, rfl⟩
set_option maxRecDepth 65536 in
set_option maxHeartbeats 40000000 in
theorem uf_3 (l : Launch) (Z : State) (a0 : Array Value) (hw : ∀ d ∈ tables_1, d.before a0 Z = true) (ws : List Jvm.Cond)  (h0 : Heap) (n0 : Nat) (O0 : Old Z n0 h0)  :
    Con l Z (⟨"java/lang/StringUTF16", "newBytesFor", "(I)[B"⟩ : MethodName) jdk_52_method_2_code 1 (some (.array .byte)) ws ({ frames := 1, cells := 1, slots := 6, locals := 12 } : Room) #[(.int 3)] h0 (fun v h L => ∃ (b : Addr) (kb : ClassId), v = some (.ref b) ∧ Fr n0 L ∧ h0.size ≤ b ∧ Keep h0 h [] ∧ Arv Z h b kb .byte (6 : Int32) [(.int 0), (.int 0), (.int 0), (.int 0), (.int 0), (.int 0)] (.int 0)) := by
  refine own_body (plainFor_of_name pn_java_lang_StringUTF16) ?_
  intro p e s m below meth c s₁ hx hby hml hZ hown hnm hlk hret X0 e0
  have N0 := Fr.nil n0
  have K0 : Keep h0 h0 [] := Keep.refl _ _
  refine Go.st (T' := s₁) (f' := (mkF m 0 #[iv 3] [])) (fun _ k => castTop (by first | (simp [entryFrame, mkF, argsToLocals, Value.category]; done) | rfl) k) ?_
  refine Go.st (f' := (mkF m 1 #[iv 3] [(.int 3)])) (fun _ k => XS.iloadN X0.here hx rfl (hb hby d18_0) rfl k) ?_
  obtain ⟨_, _, ⟨T1, L1, kk1, nn1⟩, -, X1, ⟨Lc1, hQ1, lq1, yq1, zz1⟩, st1⟩ := Jvm.LawKit.callS X0 hx (y := (⟨"java/lang/StringUTF16", "newBytesLength", "(I)I"⟩ : MethodName)) hown (mvT hZ (ww hw 87 rfl)) (mvT hZ (ww hw 88 rfl)) (mvT hZ (ww hw 43 rfl)) (mvT hZ (ww hw 89 rfl)) (by decide) (own_back (W := 0) (ul_3 l Z a0 hw [] h0 n0 O0) hZ (ww hw 89 rfl) (ww hw 43 rfl) (by decide) (by decide)) (g := (mkF m 1 #[iv 3] [(.int 3)])) rfl (by rw [hml]; rfl) (argsL := [(.int (3 : Int32))]) (rest := []) (lenOf pd__I_I rfl) rfl (by show 2 * 0 + _ ≤ _; exact Nat.le_of_eq rfl) (hb hby d18_1) (fun _ _ => ⟨rfl, e0, (by decide : 0 + 0 ≤ _), (by decide : 0 + 0 ≤ _)⟩)
  dsimp only [Pt.U, Pt.locs, Pt.cells, Pt.slots] at X1 lq1 yq1 zz1 st1 hQ1
  subst lq1 yq1 zz1
  obtain ⟨rfl, Nq1, kq1⟩ := hQ1
  have N1 := Fr.app N0 Nq1
  refine Go.st (f' := (mkF m 4 #[iv 3] [(.int 6)])) (fun _ k => st1 _ k) ?_
  obtain ⟨T2, h2, kc2, X2, e2, E2, A2, st2⟩ := newP X1 hx hZ (ww hw 5 rfl) kq1 (g := (mkF m 4 #[iv 3] [(.int 6)])) rfl (hb hby d18_4) rfl (by decide) (cap := 6) (by decide) (by decide) (by decide) (by decide)
  obtain ⟨b2, g2⟩ : ∃ z, z = h0.size := ⟨_, rfl⟩
  rw [← g2] at A2 st2
  have g_b2 : n0 ≤ b2 := Nat.le_trans (O0.1 ▸ O0.2.1) (Nat.le_of_eq g2.symm)
  have O2 : Old Z n0 h2 := O0.ext E2
  have sz_b2 : h0.size ≤ b2 := Nat.le_trans K0.1 (Nat.le_of_eq g2.symm)
  have K2 : Keep h0 h2 [] := K0.ext E2
  have V_b2 : Arv Z h2 b2 kc2 .byte (6 : Int32) [(.int (0 : Int32)), (.int (0 : Int32)), (.int (0 : Int32)), (.int (0 : Int32)), (.int (0 : Int32)), (.int (0 : Int32))] (.int (0 : Int32)) := (Arv.new A2 (by decide)).pad (pad_rep [] (.int (0 : Int32)) 6)
  have lt_b2 := V_b2.lt
  refine Go.st (f' := (mkF m 6 #[iv 3] [(.ref b2)])) (fun _ k => st2 _ k) ?_
  refine Go.retV X2 hlk hx (t := (.array .byte)) hret rfl (Or.inr (Or.inr (Or.inr (Or.inr ⟨rfl, rfl, rfl⟩)))) (hb hby d18_6) e2 ?_ (by decide) (by decide)
  exact ⟨b2, kc2, rfl, N1, sz_b2, K2, V_b2⟩
set_option maxRecDepth 65536 in
set_option maxHeartbeats 40000000 in
theorem up_3_0 (l : Launch) (Z : State) (a0 : Array Value) (hw : ∀ d ∈ tables_1, d.before a0 Z = true) (ws : List Jvm.Cond) (a1 : Addr) (k1 : ClassId) (c0 : Int32) (x0 : Int32) (x1 : Int32) (x2 : Int32) (x3 : Int32) (x4 : Int32) (x5 : Int32) (i_COMPACT_STRINGS : Int32) (v_SIOOBE_FORMATTER : Value) (h0 : Heap) (n0 : Nat) (O0 : Old Z n0 h0) (g_a1 : n0 ≤ a1) (V_a1 : Arv Z h0 a1 k1 .byte (6 : Int32) [(.int x0), (.int x1), (.int x2), (.int x3), (.int x4), (.int x5)] (.int 0)) (WW : World1 Z i_COMPACT_STRINGS v_SIOOBE_FORMATTER) :
    Con l Z (⟨"java/lang/StringUTF16", "putChar", "([BII)V"⟩ : MethodName) jdk_52_method_4_code 3 none ws ({ frames := 0, cells := 0, slots := 0, locals := 0 } : Room) #[(.ref a1), (.int 0), (.int c0)] h0 (fun v h L => v = none ∧ Fr n0 L ∧ Keep h0 h [a1] ∧ Arv Z h a1 k1 .byte (6 : Int32) [(.int (nar .byte ((c0 >>> ((0 : Int32) &&& 31)).toInt8.toInt32))), (.int (nar .byte ((c0 >>> ((8 : Int32) &&& 31)).toInt8.toInt32))), (.int x2), (.int x3), (.int x4), (.int x5)] (.int 0)) := by
  refine own_body (plainFor_of_name pn_java_lang_StringUTF16) ?_
  intro p e s m below meth c s₁ hx hby hml hZ hown hnm hlk hret X0 e0
  have N0 := Fr.nil n0
  have K0 : Keep h0 h0 [a1] := Keep.refl _ _
  refine Go.st (T' := s₁) (f' := (mkF m 0 #[rv a1, iv 0, iv c0] [])) (fun _ k => castTop (by first | (simp [entryFrame, mkF, argsToLocals, Value.category]; done) | rfl) k) ?_
  have ⟨S_i_COMPACT_STRINGS, nz_i_COMPACT_STRINGS, S_v_SIOOBE_FORMATTER, r_v_SIOOBE_FORMATTER, S_i__assertionsDisabled, S_i_HI_BYTE_SHIFT, S_i_LO_BYTE_SHIFT⟩ := WW
  have lt_a1 := V_a1.lt
  obtain ⟨T1, X1, e1, st1⟩ := getS2 X0 hx hZ hown (host := "") (Or.inl (ww hw 94 rfl)) Via.refl e0 (S_i__assertionsDisabled.ext O0.2) (g := (mkF m 0 #[rv a1, iv 0, iv c0] [])) rfl (hb hby d20_0)
  refine Go.st (f' := (mkF m 3 #[rv a1, iv 0, iv c0] [(.int 1)])) (fun _ k => st1 _ k) ?_
  refine Go.st (f' := (mkF m 28 #[rv a1, iv 0, iv c0] [])) (fun _ k => XS.ifYes X1.here hx rfl (pc0 := 3) (pc' := 28) rfl (hb hby d20_3) rfl (by decide) (by decide) (by decide) k) ?_
  refine Go.st (f' := (mkF m 29 #[rv a1, iv 0, iv c0] [(.int 0)])) (fun _ k => XS.iloadN X1.here hx rfl (hb hby d20_28) rfl k) ?_
  refine Go.st (f' := (mkF m 30 #[rv a1, iv 0, iv c0] [(.int 1), (.int 0)])) (fun _ k => XS.iconst X1.here hx rfl (hb hby d20_29) k) ?_
  refine Go.st (f' := (mkF m 31 #[rv a1, iv 0, iv c0] [(.int 0)])) (fun _ k => XS.ishl X1.here hx rfl (hb hby d20_30) rfl k) ?_
  refine Go.st (f' := (mkF m 32 #[rv a1, iv 0, iv c0] [])) (fun _ k => XS.istoreN X1.here hx rfl (hb hby d20_31) rfl (l' := #[rv a1, iv 0, iv c0]) rfl k) ?_
  refine Go.st (f' := (mkF m 33 #[rv a1, iv 0, iv c0] [(.ref a1)])) (fun _ k => XS.aloadN X1.here hx rfl (hb hby d20_32) rfl rfl k) ?_
  refine Go.st (f' := (mkF m 34 #[rv a1, iv 0, iv c0] [(.int 0), (.ref a1)])) (fun _ k => XS.iloadN X1.here hx rfl (hb hby d20_33) rfl k) ?_
  refine Go.st (f' := (mkF m 37 #[rv a1, iv 1, iv c0] [(.int 0), (.ref a1)])) (fun _ k => XS.iinc X1.here hx rfl (hb hby d20_34) rfl (l' := #[rv a1, iv 1, iv c0]) rfl k) ?_
  refine Go.st (f' := (mkF m 38 #[rv a1, iv 1, iv c0] [(.int c0), (.int 0), (.ref a1)])) (fun _ k => XS.iloadN X1.here hx rfl (hb hby d20_37) rfl k) ?_
  obtain ⟨T2, X2, e2, st2⟩ := getS2 X1 hx hZ hown (host := "") (Or.inl (ww hw 95 rfl)) Via.refl e1 (S_i_HI_BYTE_SHIFT.ext O0.2) (g := (mkF m 38 #[rv a1, iv 1, iv c0] [(.int c0), (.int 0), (.ref a1)])) rfl (hb hby d20_38)
  refine Go.st (f' := (mkF m 41 #[rv a1, iv 1, iv c0] [(.int 0), (.int c0), (.int 0), (.ref a1)])) (fun _ k => st2 _ k) ?_
  refine Go.st (f' := (mkF m 42 #[rv a1, iv 1, iv c0] [(.int (c0 >>> ((0 : Int32) &&& 31))), (.int 0), (.ref a1)])) (fun _ k => XS.ishr X2.here hx rfl (hb hby d20_41) rfl k) ?_
  refine Go.st (f' := (mkF m 43 #[rv a1, iv 1, iv c0] [(.int ((c0 >>> ((0 : Int32) &&& 31)).toInt8.toInt32)), (.int 0), (.ref a1)])) (fun _ k => XS.i2b X2.here hx rfl (hb hby d20_42) rfl k) ?_
  obtain ⟨cl3, Ar3, q3, S3, Nx3, H3, G3⟩ := id V_a1
  have hin3 : ¬ ((0 : Int32) < 0 ∨ cl3.slots.size ≤ ((0 : Int32)).toNatClampNeg) := inb_of S3 ⟨by decide, by decide⟩
  obtain ⟨T4, h4, X4, e4, W4, st4⟩ := stB X2 hx hZ e2 Ar3 (j := (0 : Int32)) hin3 (g := (mkF m 43 #[rv a1, iv 1, iv c0] [(.int ((c0 >>> ((0 : Int32) &&& 31)).toInt8.toInt32)), (.int 0), (.ref a1)])) rfl rfl (hb hby d20_43)
  have V_a1_4 : Arv Z h4 a1 k1 .byte (6 : Int32) [(.int (nar .byte ((c0 >>> ((0 : Int32) &&& 31)).toInt8.toInt32))), (.int x1), (.int x2), (.int x3), (.int x4), (.int x5)] (.int (0 : Int32)) := Arv.set Ar3 q3 S3 Nx3 H3 G3 (fits_nar_byte _) W4 0 rfl (Nat.le_of_ble_eq_true rfl)
  have N4 := Fr.snoc X4 N0 g_a1
  have O4 : Old Z n0 h4 := O0.wr W4 g_a1
  have K4 : Keep h0 h4 [a1] := K0.wr W4 (Or.inl (List.mem_of_getElem? (i := 0) rfl))
  refine Go.st (f' := (mkF m 44 #[rv a1, iv 1, iv c0] [])) (fun _ k => st4 _ k) ?_
  refine Go.st (f' := (mkF m 45 #[rv a1, iv 1, iv c0] [(.ref a1)])) (fun _ k => XS.aloadN X4.here hx rfl (hb hby d20_44) rfl rfl k) ?_
  refine Go.st (f' := (mkF m 46 #[rv a1, iv 1, iv c0] [(.int 1), (.ref a1)])) (fun _ k => XS.iloadN X4.here hx rfl (hb hby d20_45) rfl k) ?_
  refine Go.st (f' := (mkF m 47 #[rv a1, iv 1, iv c0] [(.int c0), (.int 1), (.ref a1)])) (fun _ k => XS.iloadN X4.here hx rfl (hb hby d20_46) rfl k) ?_
  obtain ⟨T5, X5, e5, st5⟩ := getS2 X4 hx hZ hown (host := "") (Or.inl (ww hw 96 rfl)) Via.refl e4 (S_i_LO_BYTE_SHIFT.ext O4.2) (g := (mkF m 47 #[rv a1, iv 1, iv c0] [(.int c0), (.int 1), (.ref a1)])) rfl (hb hby d20_47)
  refine Go.st (f' := (mkF m 50 #[rv a1, iv 1, iv c0] [(.int 8), (.int c0), (.int 1), (.ref a1)])) (fun _ k => st5 _ k) ?_
  refine Go.st (f' := (mkF m 51 #[rv a1, iv 1, iv c0] [(.int (c0 >>> ((8 : Int32) &&& 31))), (.int 1), (.ref a1)])) (fun _ k => XS.ishr X5.here hx rfl (hb hby d20_50) rfl k) ?_
  refine Go.st (f' := (mkF m 52 #[rv a1, iv 1, iv c0] [(.int ((c0 >>> ((8 : Int32) &&& 31)).toInt8.toInt32)), (.int 1), (.ref a1)])) (fun _ k => XS.i2b X5.here hx rfl (hb hby d20_51) rfl k) ?_
  obtain ⟨cl6, Ar6, q6, S6, Nx6, H6, G6⟩ := id V_a1_4
  have hin6 : ¬ ((1 : Int32) < 0 ∨ cl6.slots.size ≤ ((1 : Int32)).toNatClampNeg) := inb_of S6 ⟨by decide, by decide⟩
  obtain ⟨T7, h7, X7, e7, W7, st7⟩ := stB X5 hx hZ e5 Ar6 (j := (1 : Int32)) hin6 (g := (mkF m 52 #[rv a1, iv 1, iv c0] [(.int ((c0 >>> ((8 : Int32) &&& 31)).toInt8.toInt32)), (.int 1), (.ref a1)])) rfl rfl (hb hby d20_52)
  have V_a1_7 : Arv Z h7 a1 k1 .byte (6 : Int32) [(.int (nar .byte ((c0 >>> ((0 : Int32) &&& 31)).toInt8.toInt32))), (.int (nar .byte ((c0 >>> ((8 : Int32) &&& 31)).toInt8.toInt32))), (.int x2), (.int x3), (.int x4), (.int x5)] (.int (0 : Int32)) := Arv.set Ar6 q6 S6 Nx6 H6 G6 (fits_nar_byte _) W7 1 rfl (Nat.le_of_ble_eq_true rfl)
  have N7 := Fr.snoc X7 N4 g_a1
  have O7 : Old Z n0 h7 := O4.wr W7 g_a1
  have K7 : Keep h0 h7 [a1] := K4.wr W7 (Or.inl (List.mem_of_getElem? (i := 0) rfl))
  refine Go.st (f' := (mkF m 53 #[rv a1, iv 1, iv c0] [])) (fun _ k => st7 _ k) ?_
  refine Go.ret0 X7 hlk hx hret (hb hby d20_53) e7 ?_ (by decide) (by decide)
  exact ⟨rfl, N7, K7, V_a1_7⟩
set_option maxRecDepth 65536 in
set_option maxHeartbeats 40000000 in
theorem ug_3_0 (l : Launch) (Z : State) (a0 : Array Value) (hw : ∀ d ∈ tables_1, d.before a0 Z = true) (ws : List Jvm.Cond) (a1 : Addr) (k1 : ClassId) (x0 : Int32) (x1 : Int32) (x2 : Int32) (x3 : Int32) (x4 : Int32) (x5 : Int32) (i_COMPACT_STRINGS : Int32) (v_SIOOBE_FORMATTER : Value) (h0 : Heap) (n0 : Nat) (O0 : Old Z n0 h0) (V_a1 : Arv Z h0 a1 k1 .byte (6 : Int32) [(.int x0), (.int x1), (.int x2), (.int x3), (.int x4), (.int x5)] (.int 0)) (WW : World1 Z i_COMPACT_STRINGS v_SIOOBE_FORMATTER) :
    Con l Z (⟨"java/lang/StringUTF16", "getChar", "([BI)C"⟩ : MethodName) jdk_52_method_5_code 2 (some .char) ws ({ frames := 0, cells := 0, slots := 0, locals := 0 } : Room) #[(.ref a1), (.int 0)] h0 (fun v h L => v = some (.int (nar .char (((((x0 &&& (255 : Int32)) <<< ((0 : Int32) &&& 31)) ||| ((x1 &&& (255 : Int32)) <<< ((8 : Int32) &&& 31))).toUInt32.toUInt16.toUInt32.toInt32)))) ∧ Fr n0 L ∧ h = h0) := by
  refine own_body (plainFor_of_name pn_java_lang_StringUTF16) ?_
  intro p e s m below meth c s₁ hx hby hml hZ hown hnm hlk hret X0 e0
  have N0 := Fr.nil n0
  refine Go.st (T' := s₁) (f' := (mkF m 0 #[rv a1, iv 0] [])) (fun _ k => castTop (by first | (simp [entryFrame, mkF, argsToLocals, Value.category]; done) | rfl) k) ?_
  have ⟨S_i_COMPACT_STRINGS, nz_i_COMPACT_STRINGS, S_v_SIOOBE_FORMATTER, r_v_SIOOBE_FORMATTER, S_i__assertionsDisabled, S_i_HI_BYTE_SHIFT, S_i_LO_BYTE_SHIFT⟩ := WW
  have lt_a1 := V_a1.lt
  obtain ⟨T1, X1, e1, st1⟩ := getS2 X0 hx hZ hown (host := "") (Or.inl (ww hw 94 rfl)) Via.refl e0 (S_i__assertionsDisabled.ext O0.2) (g := (mkF m 0 #[rv a1, iv 0] [])) rfl (hb hby d21_0)
  refine Go.st (f' := (mkF m 3 #[rv a1, iv 0] [(.int 1)])) (fun _ k => st1 _ k) ?_
  refine Go.st (f' := (mkF m 28 #[rv a1, iv 0] [])) (fun _ k => XS.ifYes X1.here hx rfl (pc0 := 3) (pc' := 28) rfl (hb hby d21_3) rfl (by decide) (by decide) (by decide) k) ?_
  refine Go.st (f' := (mkF m 29 #[rv a1, iv 0] [(.int 0)])) (fun _ k => XS.iloadN X1.here hx rfl (hb hby d21_28) rfl k) ?_
  refine Go.st (f' := (mkF m 30 #[rv a1, iv 0] [(.int 1), (.int 0)])) (fun _ k => XS.iconst X1.here hx rfl (hb hby d21_29) k) ?_
  refine Go.st (f' := (mkF m 31 #[rv a1, iv 0] [(.int 0)])) (fun _ k => XS.ishl X1.here hx rfl (hb hby d21_30) rfl k) ?_
  refine Go.st (f' := (mkF m 32 #[rv a1, iv 0] [])) (fun _ k => XS.istoreN X1.here hx rfl (hb hby d21_31) rfl (l' := #[rv a1, iv 0]) rfl k) ?_
  refine Go.st (f' := (mkF m 33 #[rv a1, iv 0] [(.ref a1)])) (fun _ k => XS.aloadN X1.here hx rfl (hb hby d21_32) rfl rfl k) ?_
  refine Go.st (f' := (mkF m 34 #[rv a1, iv 0] [(.int 0), (.ref a1)])) (fun _ k => XS.iloadN X1.here hx rfl (hb hby d21_33) rfl k) ?_
  refine Go.st (f' := (mkF m 37 #[rv a1, iv 1] [(.int 0), (.ref a1)])) (fun _ k => XS.iinc X1.here hx rfl (hb hby d21_34) rfl (l' := #[rv a1, iv 1]) rfl k) ?_
  obtain ⟨cl2, Ar2, -, S2, -, H2, -⟩ := id V_a1
  have hin2 : ¬ ((0 : Int32) < 0 ∨ cl2.slots.size ≤ ((0 : Int32)).toNatClampNeg) := inb_of S2 ⟨by decide, by decide⟩
  have hat2 : cl2.slots[((0 : Int32)).toNatClampNeg]? = some (.int x0) := H2.at hin2 rfl
  refine Go.st (f' := (mkF m 38 #[rv a1, iv 1] [(.int x0)])) (fun _ k => X1.baloadBytes hx (j := (0 : Int32)) (v := (.int x0)) (by rw [e1]; exact Ar2.1) (State.isArrayOf_alike hZ.alike Ar2.2.1) Ar2.2.2 hin2 hat2 (g := (mkF m 37 #[rv a1, iv 1] [(.int 0), (.ref a1)])) rfl rfl (hb hby d21_37) _ k) ?_
  refine Go.st (f' := (mkF m 41 #[rv a1, iv 1] [(.int 255), (.int x0)])) (fun _ k => XS.sipush X1.here hx rfl (hb hby d21_38) k) ?_
  refine Go.st (f' := (mkF m 42 #[rv a1, iv 1] [(.int (x0 &&& (255 : Int32)))])) (fun _ k => XS.iand X1.here hx rfl (hb hby d21_41) rfl k) ?_
  obtain ⟨T3, X3, e3, st3⟩ := getS2 X1 hx hZ hown (host := "") (Or.inl (ww hw 95 rfl)) Via.refl e1 (S_i_HI_BYTE_SHIFT.ext O0.2) (g := (mkF m 42 #[rv a1, iv 1] [(.int (x0 &&& (255 : Int32)))])) rfl (hb hby d21_42)
  refine Go.st (f' := (mkF m 45 #[rv a1, iv 1] [(.int 0), (.int (x0 &&& (255 : Int32)))])) (fun _ k => st3 _ k) ?_
  refine Go.st (f' := (mkF m 46 #[rv a1, iv 1] [(.int ((x0 &&& (255 : Int32)) <<< ((0 : Int32) &&& 31)))])) (fun _ k => XS.ishl X3.here hx rfl (hb hby d21_45) rfl k) ?_
  refine Go.st (f' := (mkF m 47 #[rv a1, iv 1] [(.ref a1), (.int ((x0 &&& (255 : Int32)) <<< ((0 : Int32) &&& 31)))])) (fun _ k => XS.aloadN X3.here hx rfl (hb hby d21_46) rfl rfl k) ?_
  refine Go.st (f' := (mkF m 48 #[rv a1, iv 1] [(.int 1), (.ref a1), (.int ((x0 &&& (255 : Int32)) <<< ((0 : Int32) &&& 31)))])) (fun _ k => XS.iloadN X3.here hx rfl (hb hby d21_47) rfl k) ?_
  obtain ⟨cl4, Ar4, -, S4, -, H4, -⟩ := id V_a1
  have hin4 : ¬ ((1 : Int32) < 0 ∨ cl4.slots.size ≤ ((1 : Int32)).toNatClampNeg) := inb_of S4 ⟨by decide, by decide⟩
  have hat4 : cl4.slots[((1 : Int32)).toNatClampNeg]? = some (.int x1) := H4.at hin4 rfl
  refine Go.st (f' := (mkF m 49 #[rv a1, iv 1] [(.int x1), (.int ((x0 &&& (255 : Int32)) <<< ((0 : Int32) &&& 31)))])) (fun _ k => X3.baloadBytes hx (j := (1 : Int32)) (v := (.int x1)) (by rw [e3]; exact Ar4.1) (State.isArrayOf_alike hZ.alike Ar4.2.1) Ar4.2.2 hin4 hat4 (g := (mkF m 48 #[rv a1, iv 1] [(.int 1), (.ref a1), (.int ((x0 &&& (255 : Int32)) <<< ((0 : Int32) &&& 31)))])) rfl rfl (hb hby d21_48) _ k) ?_
  refine Go.st (f' := (mkF m 52 #[rv a1, iv 1] [(.int 255), (.int x1), (.int ((x0 &&& (255 : Int32)) <<< ((0 : Int32) &&& 31)))])) (fun _ k => XS.sipush X3.here hx rfl (hb hby d21_49) k) ?_
  refine Go.st (f' := (mkF m 53 #[rv a1, iv 1] [(.int (x1 &&& (255 : Int32))), (.int ((x0 &&& (255 : Int32)) <<< ((0 : Int32) &&& 31)))])) (fun _ k => XS.iand X3.here hx rfl (hb hby d21_52) rfl k) ?_
  obtain ⟨T5, X5, e5, st5⟩ := getS2 X3 hx hZ hown (host := "") (Or.inl (ww hw 96 rfl)) Via.refl e3 (S_i_LO_BYTE_SHIFT.ext O0.2) (g := (mkF m 53 #[rv a1, iv 1] [(.int (x1 &&& (255 : Int32))), (.int ((x0 &&& (255 : Int32)) <<< ((0 : Int32) &&& 31)))])) rfl (hb hby d21_53)
  refine Go.st (f' := (mkF m 56 #[rv a1, iv 1] [(.int 8), (.int (x1 &&& (255 : Int32))), (.int ((x0 &&& (255 : Int32)) <<< ((0 : Int32) &&& 31)))])) (fun _ k => st5 _ k) ?_
  refine Go.st (f' := (mkF m 57 #[rv a1, iv 1] [(.int ((x1 &&& (255 : Int32)) <<< ((8 : Int32) &&& 31))), (.int ((x0 &&& (255 : Int32)) <<< ((0 : Int32) &&& 31)))])) (fun _ k => XS.ishl X5.here hx rfl (hb hby d21_56) rfl k) ?_
  refine Go.st (f' := (mkF m 58 #[rv a1, iv 1] [(.int (((x0 &&& (255 : Int32)) <<< ((0 : Int32) &&& 31)) ||| ((x1 &&& (255 : Int32)) <<< ((8 : Int32) &&& 31))))])) (fun _ k => XS.ior X5.here hx rfl (hb hby d21_57) rfl k) ?_
  refine Go.st (f' := (mkF m 59 #[rv a1, iv 1] [(.int ((((x0 &&& (255 : Int32)) <<< ((0 : Int32) &&& 31)) ||| ((x1 &&& (255 : Int32)) <<< ((8 : Int32) &&& 31))).toUInt32.toUInt16.toUInt32.toInt32))])) (fun _ k => XS.i2c X5.here hx rfl (hb hby d21_58) rfl k) ?_
  refine Go.retB X5 hlk hx (t := .char) hret (by simp) (hb hby d21_59) e5 ?_ (by decide) (by decide)
  exact ⟨rfl, N0, rfl⟩
set_option maxRecDepth 65536 in
set_option maxHeartbeats 40000000 in
theorem up_3_1 (l : Launch) (Z : State) (a0 : Array Value) (hw : ∀ d ∈ tables_1, d.before a0 Z = true) (ws : List Jvm.Cond) (a1 : Addr) (k1 : ClassId) (c0 : Int32) (x0 : Int32) (x1 : Int32) (x2 : Int32) (x3 : Int32) (x4 : Int32) (x5 : Int32) (i_COMPACT_STRINGS : Int32) (v_SIOOBE_FORMATTER : Value) (h0 : Heap) (n0 : Nat) (O0 : Old Z n0 h0) (g_a1 : n0 ≤ a1) (V_a1 : Arv Z h0 a1 k1 .byte (6 : Int32) [(.int x0), (.int x1), (.int x2), (.int x3), (.int x4), (.int x5)] (.int 0)) (WW : World1 Z i_COMPACT_STRINGS v_SIOOBE_FORMATTER) :
    Con l Z (⟨"java/lang/StringUTF16", "putChar", "([BII)V"⟩ : MethodName) jdk_52_method_4_code 3 none ws ({ frames := 0, cells := 0, slots := 0, locals := 0 } : Room) #[(.ref a1), (.int 1), (.int c0)] h0 (fun v h L => v = none ∧ Fr n0 L ∧ Keep h0 h [a1] ∧ Arv Z h a1 k1 .byte (6 : Int32) [(.int x0), (.int x1), (.int (nar .byte ((c0 >>> ((0 : Int32) &&& 31)).toInt8.toInt32))), (.int (nar .byte ((c0 >>> ((8 : Int32) &&& 31)).toInt8.toInt32))), (.int x4), (.int x5)] (.int 0)) := by
  refine own_body (plainFor_of_name pn_java_lang_StringUTF16) ?_
  intro p e s m below meth c s₁ hx hby hml hZ hown hnm hlk hret X0 e0
  have N0 := Fr.nil n0
  have K0 : Keep h0 h0 [a1] := Keep.refl _ _
  refine Go.st (T' := s₁) (f' := (mkF m 0 #[rv a1, iv 1, iv c0] [])) (fun _ k => castTop (by first | (simp [entryFrame, mkF, argsToLocals, Value.category]; done) | rfl) k) ?_
  have ⟨S_i_COMPACT_STRINGS, nz_i_COMPACT_STRINGS, S_v_SIOOBE_FORMATTER, r_v_SIOOBE_FORMATTER, S_i__assertionsDisabled, S_i_HI_BYTE_SHIFT, S_i_LO_BYTE_SHIFT⟩ := WW
  have lt_a1 := V_a1.lt
  obtain ⟨T1, X1, e1, st1⟩ := getS2 X0 hx hZ hown (host := "") (Or.inl (ww hw 94 rfl)) Via.refl e0 (S_i__assertionsDisabled.ext O0.2) (g := (mkF m 0 #[rv a1, iv 1, iv c0] [])) rfl (hb hby d20_0)
  refine Go.st (f' := (mkF m 3 #[rv a1, iv 1, iv c0] [(.int 1)])) (fun _ k => st1 _ k) ?_
  refine Go.st (f' := (mkF m 28 #[rv a1, iv 1, iv c0] [])) (fun _ k => XS.ifYes X1.here hx rfl (pc0 := 3) (pc' := 28) rfl (hb hby d20_3) rfl (by decide) (by decide) (by decide) k) ?_
  refine Go.st (f' := (mkF m 29 #[rv a1, iv 1, iv c0] [(.int 1)])) (fun _ k => XS.iloadN X1.here hx rfl (hb hby d20_28) rfl k) ?_
  refine Go.st (f' := (mkF m 30 #[rv a1, iv 1, iv c0] [(.int 1), (.int 1)])) (fun _ k => XS.iconst X1.here hx rfl (hb hby d20_29) k) ?_
  refine Go.st (f' := (mkF m 31 #[rv a1, iv 1, iv c0] [(.int 2)])) (fun _ k => XS.ishl X1.here hx rfl (hb hby d20_30) rfl k) ?_
  refine Go.st (f' := (mkF m 32 #[rv a1, iv 2, iv c0] [])) (fun _ k => XS.istoreN X1.here hx rfl (hb hby d20_31) rfl (l' := #[rv a1, iv 2, iv c0]) rfl k) ?_
  refine Go.st (f' := (mkF m 33 #[rv a1, iv 2, iv c0] [(.ref a1)])) (fun _ k => XS.aloadN X1.here hx rfl (hb hby d20_32) rfl rfl k) ?_
  refine Go.st (f' := (mkF m 34 #[rv a1, iv 2, iv c0] [(.int 2), (.ref a1)])) (fun _ k => XS.iloadN X1.here hx rfl (hb hby d20_33) rfl k) ?_
  refine Go.st (f' := (mkF m 37 #[rv a1, iv 3, iv c0] [(.int 2), (.ref a1)])) (fun _ k => XS.iinc X1.here hx rfl (hb hby d20_34) rfl (l' := #[rv a1, iv 3, iv c0]) rfl k) ?_
  refine Go.st (f' := (mkF m 38 #[rv a1, iv 3, iv c0] [(.int c0), (.int 2), (.ref a1)])) (fun _ k => XS.iloadN X1.here hx rfl (hb hby d20_37) rfl k) ?_
  obtain ⟨T2, X2, e2, st2⟩ := getS2 X1 hx hZ hown (host := "") (Or.inl (ww hw 95 rfl)) Via.refl e1 (S_i_HI_BYTE_SHIFT.ext O0.2) (g := (mkF m 38 #[rv a1, iv 3, iv c0] [(.int c0), (.int 2), (.ref a1)])) rfl (hb hby d20_38)
  refine Go.st (f' := (mkF m 41 #[rv a1, iv 3, iv c0] [(.int 0), (.int c0), (.int 2), (.ref a1)])) (fun _ k => st2 _ k) ?_
  refine Go.st (f' := (mkF m 42 #[rv a1, iv 3, iv c0] [(.int (c0 >>> ((0 : Int32) &&& 31))), (.int 2), (.ref a1)])) (fun _ k => XS.ishr X2.here hx rfl (hb hby d20_41) rfl k) ?_
  refine Go.st (f' := (mkF m 43 #[rv a1, iv 3, iv c0] [(.int ((c0 >>> ((0 : Int32) &&& 31)).toInt8.toInt32)), (.int 2), (.ref a1)])) (fun _ k => XS.i2b X2.here hx rfl (hb hby d20_42) rfl k) ?_
  obtain ⟨cl3, Ar3, q3, S3, Nx3, H3, G3⟩ := id V_a1
  have hin3 : ¬ ((2 : Int32) < 0 ∨ cl3.slots.size ≤ ((2 : Int32)).toNatClampNeg) := inb_of S3 ⟨by decide, by decide⟩
  obtain ⟨T4, h4, X4, e4, W4, st4⟩ := stB X2 hx hZ e2 Ar3 (j := (2 : Int32)) hin3 (g := (mkF m 43 #[rv a1, iv 3, iv c0] [(.int ((c0 >>> ((0 : Int32) &&& 31)).toInt8.toInt32)), (.int 2), (.ref a1)])) rfl rfl (hb hby d20_43)
  have V_a1_4 : Arv Z h4 a1 k1 .byte (6 : Int32) [(.int x0), (.int x1), (.int (nar .byte ((c0 >>> ((0 : Int32) &&& 31)).toInt8.toInt32))), (.int x3), (.int x4), (.int x5)] (.int (0 : Int32)) := Arv.set Ar3 q3 S3 Nx3 H3 G3 (fits_nar_byte _) W4 2 rfl (Nat.le_of_ble_eq_true rfl)
  have N4 := Fr.snoc X4 N0 g_a1
  have O4 : Old Z n0 h4 := O0.wr W4 g_a1
  have K4 : Keep h0 h4 [a1] := K0.wr W4 (Or.inl (List.mem_of_getElem? (i := 0) rfl))
  refine Go.st (f' := (mkF m 44 #[rv a1, iv 3, iv c0] [])) (fun _ k => st4 _ k) ?_
  refine Go.st (f' := (mkF m 45 #[rv a1, iv 3, iv c0] [(.ref a1)])) (fun _ k => XS.aloadN X4.here hx rfl (hb hby d20_44) rfl rfl k) ?_
  refine Go.st (f' := (mkF m 46 #[rv a1, iv 3, iv c0] [(.int 3), (.ref a1)])) (fun _ k => XS.iloadN X4.here hx rfl (hb hby d20_45) rfl k) ?_
  refine Go.st (f' := (mkF m 47 #[rv a1, iv 3, iv c0] [(.int c0), (.int 3), (.ref a1)])) (fun _ k => XS.iloadN X4.here hx rfl (hb hby d20_46) rfl k) ?_
  obtain ⟨T5, X5, e5, st5⟩ := getS2 X4 hx hZ hown (host := "") (Or.inl (ww hw 96 rfl)) Via.refl e4 (S_i_LO_BYTE_SHIFT.ext O4.2) (g := (mkF m 47 #[rv a1, iv 3, iv c0] [(.int c0), (.int 3), (.ref a1)])) rfl (hb hby d20_47)
  refine Go.st (f' := (mkF m 50 #[rv a1, iv 3, iv c0] [(.int 8), (.int c0), (.int 3), (.ref a1)])) (fun _ k => st5 _ k) ?_
  refine Go.st (f' := (mkF m 51 #[rv a1, iv 3, iv c0] [(.int (c0 >>> ((8 : Int32) &&& 31))), (.int 3), (.ref a1)])) (fun _ k => XS.ishr X5.here hx rfl (hb hby d20_50) rfl k) ?_
  refine Go.st (f' := (mkF m 52 #[rv a1, iv 3, iv c0] [(.int ((c0 >>> ((8 : Int32) &&& 31)).toInt8.toInt32)), (.int 3), (.ref a1)])) (fun _ k => XS.i2b X5.here hx rfl (hb hby d20_51) rfl k) ?_
  obtain ⟨cl6, Ar6, q6, S6, Nx6, H6, G6⟩ := id V_a1_4
  have hin6 : ¬ ((3 : Int32) < 0 ∨ cl6.slots.size ≤ ((3 : Int32)).toNatClampNeg) := inb_of S6 ⟨by decide, by decide⟩
  obtain ⟨T7, h7, X7, e7, W7, st7⟩ := stB X5 hx hZ e5 Ar6 (j := (3 : Int32)) hin6 (g := (mkF m 52 #[rv a1, iv 3, iv c0] [(.int ((c0 >>> ((8 : Int32) &&& 31)).toInt8.toInt32)), (.int 3), (.ref a1)])) rfl rfl (hb hby d20_52)
  have V_a1_7 : Arv Z h7 a1 k1 .byte (6 : Int32) [(.int x0), (.int x1), (.int (nar .byte ((c0 >>> ((0 : Int32) &&& 31)).toInt8.toInt32))), (.int (nar .byte ((c0 >>> ((8 : Int32) &&& 31)).toInt8.toInt32))), (.int x4), (.int x5)] (.int (0 : Int32)) := Arv.set Ar6 q6 S6 Nx6 H6 G6 (fits_nar_byte _) W7 3 rfl (Nat.le_of_ble_eq_true rfl)
  have N7 := Fr.snoc X7 N4 g_a1
  have O7 : Old Z n0 h7 := O4.wr W7 g_a1
  have K7 : Keep h0 h7 [a1] := K4.wr W7 (Or.inl (List.mem_of_getElem? (i := 0) rfl))
  refine Go.st (f' := (mkF m 53 #[rv a1, iv 3, iv c0] [])) (fun _ k => st7 _ k) ?_
  refine Go.ret0 X7 hlk hx hret (hb hby d20_53) e7 ?_ (by decide) (by decide)
  exact ⟨rfl, N7, K7, V_a1_7⟩
set_option maxRecDepth 65536 in
set_option maxHeartbeats 40000000 in
theorem ug_3_1 (l : Launch) (Z : State) (a0 : Array Value) (hw : ∀ d ∈ tables_1, d.before a0 Z = true) (ws : List Jvm.Cond) (a1 : Addr) (k1 : ClassId) (x0 : Int32) (x1 : Int32) (x2 : Int32) (x3 : Int32) (x4 : Int32) (x5 : Int32) (i_COMPACT_STRINGS : Int32) (v_SIOOBE_FORMATTER : Value) (h0 : Heap) (n0 : Nat) (O0 : Old Z n0 h0) (V_a1 : Arv Z h0 a1 k1 .byte (6 : Int32) [(.int x0), (.int x1), (.int x2), (.int x3), (.int x4), (.int x5)] (.int 0)) (WW : World1 Z i_COMPACT_STRINGS v_SIOOBE_FORMATTER) :
    Con l Z (⟨"java/lang/StringUTF16", "getChar", "([BI)C"⟩ : MethodName) jdk_52_method_5_code 2 (some .char) ws ({ frames := 0, cells := 0, slots := 0, locals := 0 } : Room) #[(.ref a1), (.int 1)] h0 (fun v h L => v = some (.int (nar .char (((((x2 &&& (255 : Int32)) <<< ((0 : Int32) &&& 31)) ||| ((x3 &&& (255 : Int32)) <<< ((8 : Int32) &&& 31))).toUInt32.toUInt16.toUInt32.toInt32)))) ∧ Fr n0 L ∧ h = h0) := by
  refine own_body (plainFor_of_name pn_java_lang_StringUTF16) ?_
  intro p e s m below meth c s₁ hx hby hml hZ hown hnm hlk hret X0 e0
  have N0 := Fr.nil n0
  refine Go.st (T' := s₁) (f' := (mkF m 0 #[rv a1, iv 1] [])) (fun _ k => castTop (by first | (simp [entryFrame, mkF, argsToLocals, Value.category]; done) | rfl) k) ?_
  have ⟨S_i_COMPACT_STRINGS, nz_i_COMPACT_STRINGS, S_v_SIOOBE_FORMATTER, r_v_SIOOBE_FORMATTER, S_i__assertionsDisabled, S_i_HI_BYTE_SHIFT, S_i_LO_BYTE_SHIFT⟩ := WW
  have lt_a1 := V_a1.lt
  obtain ⟨T1, X1, e1, st1⟩ := getS2 X0 hx hZ hown (host := "") (Or.inl (ww hw 94 rfl)) Via.refl e0 (S_i__assertionsDisabled.ext O0.2) (g := (mkF m 0 #[rv a1, iv 1] [])) rfl (hb hby d21_0)
  refine Go.st (f' := (mkF m 3 #[rv a1, iv 1] [(.int 1)])) (fun _ k => st1 _ k) ?_
  refine Go.st (f' := (mkF m 28 #[rv a1, iv 1] [])) (fun _ k => XS.ifYes X1.here hx rfl (pc0 := 3) (pc' := 28) rfl (hb hby d21_3) rfl (by decide) (by decide) (by decide) k) ?_
  refine Go.st (f' := (mkF m 29 #[rv a1, iv 1] [(.int 1)])) (fun _ k => XS.iloadN X1.here hx rfl (hb hby d21_28) rfl k) ?_
  refine Go.st (f' := (mkF m 30 #[rv a1, iv 1] [(.int 1), (.int 1)])) (fun _ k => XS.iconst X1.here hx rfl (hb hby d21_29) k) ?_
  refine Go.st (f' := (mkF m 31 #[rv a1, iv 1] [(.int 2)])) (fun _ k => XS.ishl X1.here hx rfl (hb hby d21_30) rfl k) ?_
  refine Go.st (f' := (mkF m 32 #[rv a1, iv 2] [])) (fun _ k => XS.istoreN X1.here hx rfl (hb hby d21_31) rfl (l' := #[rv a1, iv 2]) rfl k) ?_
  refine Go.st (f' := (mkF m 33 #[rv a1, iv 2] [(.ref a1)])) (fun _ k => XS.aloadN X1.here hx rfl (hb hby d21_32) rfl rfl k) ?_
  refine Go.st (f' := (mkF m 34 #[rv a1, iv 2] [(.int 2), (.ref a1)])) (fun _ k => XS.iloadN X1.here hx rfl (hb hby d21_33) rfl k) ?_
  refine Go.st (f' := (mkF m 37 #[rv a1, iv 3] [(.int 2), (.ref a1)])) (fun _ k => XS.iinc X1.here hx rfl (hb hby d21_34) rfl (l' := #[rv a1, iv 3]) rfl k) ?_
  obtain ⟨cl2, Ar2, -, S2, -, H2, -⟩ := id V_a1
  have hin2 : ¬ ((2 : Int32) < 0 ∨ cl2.slots.size ≤ ((2 : Int32)).toNatClampNeg) := inb_of S2 ⟨by decide, by decide⟩
  have hat2 : cl2.slots[((2 : Int32)).toNatClampNeg]? = some (.int x2) := H2.at hin2 rfl
  refine Go.st (f' := (mkF m 38 #[rv a1, iv 3] [(.int x2)])) (fun _ k => X1.baloadBytes hx (j := (2 : Int32)) (v := (.int x2)) (by rw [e1]; exact Ar2.1) (State.isArrayOf_alike hZ.alike Ar2.2.1) Ar2.2.2 hin2 hat2 (g := (mkF m 37 #[rv a1, iv 3] [(.int 2), (.ref a1)])) rfl rfl (hb hby d21_37) _ k) ?_
  refine Go.st (f' := (mkF m 41 #[rv a1, iv 3] [(.int 255), (.int x2)])) (fun _ k => XS.sipush X1.here hx rfl (hb hby d21_38) k) ?_
  refine Go.st (f' := (mkF m 42 #[rv a1, iv 3] [(.int (x2 &&& (255 : Int32)))])) (fun _ k => XS.iand X1.here hx rfl (hb hby d21_41) rfl k) ?_
  obtain ⟨T3, X3, e3, st3⟩ := getS2 X1 hx hZ hown (host := "") (Or.inl (ww hw 95 rfl)) Via.refl e1 (S_i_HI_BYTE_SHIFT.ext O0.2) (g := (mkF m 42 #[rv a1, iv 3] [(.int (x2 &&& (255 : Int32)))])) rfl (hb hby d21_42)
  refine Go.st (f' := (mkF m 45 #[rv a1, iv 3] [(.int 0), (.int (x2 &&& (255 : Int32)))])) (fun _ k => st3 _ k) ?_
  refine Go.st (f' := (mkF m 46 #[rv a1, iv 3] [(.int ((x2 &&& (255 : Int32)) <<< ((0 : Int32) &&& 31)))])) (fun _ k => XS.ishl X3.here hx rfl (hb hby d21_45) rfl k) ?_
  refine Go.st (f' := (mkF m 47 #[rv a1, iv 3] [(.ref a1), (.int ((x2 &&& (255 : Int32)) <<< ((0 : Int32) &&& 31)))])) (fun _ k => XS.aloadN X3.here hx rfl (hb hby d21_46) rfl rfl k) ?_
  refine Go.st (f' := (mkF m 48 #[rv a1, iv 3] [(.int 3), (.ref a1), (.int ((x2 &&& (255 : Int32)) <<< ((0 : Int32) &&& 31)))])) (fun _ k => XS.iloadN X3.here hx rfl (hb hby d21_47) rfl k) ?_
  obtain ⟨cl4, Ar4, -, S4, -, H4, -⟩ := id V_a1
  have hin4 : ¬ ((3 : Int32) < 0 ∨ cl4.slots.size ≤ ((3 : Int32)).toNatClampNeg) := inb_of S4 ⟨by decide, by decide⟩
  have hat4 : cl4.slots[((3 : Int32)).toNatClampNeg]? = some (.int x3) := H4.at hin4 rfl
  refine Go.st (f' := (mkF m 49 #[rv a1, iv 3] [(.int x3), (.int ((x2 &&& (255 : Int32)) <<< ((0 : Int32) &&& 31)))])) (fun _ k => X3.baloadBytes hx (j := (3 : Int32)) (v := (.int x3)) (by rw [e3]; exact Ar4.1) (State.isArrayOf_alike hZ.alike Ar4.2.1) Ar4.2.2 hin4 hat4 (g := (mkF m 48 #[rv a1, iv 3] [(.int 3), (.ref a1), (.int ((x2 &&& (255 : Int32)) <<< ((0 : Int32) &&& 31)))])) rfl rfl (hb hby d21_48) _ k) ?_
  refine Go.st (f' := (mkF m 52 #[rv a1, iv 3] [(.int 255), (.int x3), (.int ((x2 &&& (255 : Int32)) <<< ((0 : Int32) &&& 31)))])) (fun _ k => XS.sipush X3.here hx rfl (hb hby d21_49) k) ?_
  refine Go.st (f' := (mkF m 53 #[rv a1, iv 3] [(.int (x3 &&& (255 : Int32))), (.int ((x2 &&& (255 : Int32)) <<< ((0 : Int32) &&& 31)))])) (fun _ k => XS.iand X3.here hx rfl (hb hby d21_52) rfl k) ?_
  obtain ⟨T5, X5, e5, st5⟩ := getS2 X3 hx hZ hown (host := "") (Or.inl (ww hw 96 rfl)) Via.refl e3 (S_i_LO_BYTE_SHIFT.ext O0.2) (g := (mkF m 53 #[rv a1, iv 3] [(.int (x3 &&& (255 : Int32))), (.int ((x2 &&& (255 : Int32)) <<< ((0 : Int32) &&& 31)))])) rfl (hb hby d21_53)
  refine Go.st (f' := (mkF m 56 #[rv a1, iv 3] [(.int 8), (.int (x3 &&& (255 : Int32))), (.int ((x2 &&& (255 : Int32)) <<< ((0 : Int32) &&& 31)))])) (fun _ k => st5 _ k) ?_
  refine Go.st (f' := (mkF m 57 #[rv a1, iv 3] [(.int ((x3 &&& (255 : Int32)) <<< ((8 : Int32) &&& 31))), (.int ((x2 &&& (255 : Int32)) <<< ((0 : Int32) &&& 31)))])) (fun _ k => XS.ishl X5.here hx rfl (hb hby d21_56) rfl k) ?_
  refine Go.st (f' := (mkF m 58 #[rv a1, iv 3] [(.int (((x2 &&& (255 : Int32)) <<< ((0 : Int32) &&& 31)) ||| ((x3 &&& (255 : Int32)) <<< ((8 : Int32) &&& 31))))])) (fun _ k => XS.ior X5.here hx rfl (hb hby d21_57) rfl k) ?_
  refine Go.st (f' := (mkF m 59 #[rv a1, iv 3] [(.int ((((x2 &&& (255 : Int32)) <<< ((0 : Int32) &&& 31)) ||| ((x3 &&& (255 : Int32)) <<< ((8 : Int32) &&& 31))).toUInt32.toUInt16.toUInt32.toInt32))])) (fun _ k => XS.i2c X5.here hx rfl (hb hby d21_58) rfl k) ?_
  refine Go.retB X5 hlk hx (t := .char) hret (by simp) (hb hby d21_59) e5 ?_ (by decide) (by decide)
  exact ⟨rfl, N0, rfl⟩
set_option maxRecDepth 65536 in
set_option maxHeartbeats 40000000 in
theorem up_3_2 (l : Launch) (Z : State) (a0 : Array Value) (hw : ∀ d ∈ tables_1, d.before a0 Z = true) (ws : List Jvm.Cond) (a1 : Addr) (k1 : ClassId) (c0 : Int32) (x0 : Int32) (x1 : Int32) (x2 : Int32) (x3 : Int32) (x4 : Int32) (x5 : Int32) (i_COMPACT_STRINGS : Int32) (v_SIOOBE_FORMATTER : Value) (h0 : Heap) (n0 : Nat) (O0 : Old Z n0 h0) (g_a1 : n0 ≤ a1) (V_a1 : Arv Z h0 a1 k1 .byte (6 : Int32) [(.int x0), (.int x1), (.int x2), (.int x3), (.int x4), (.int x5)] (.int 0)) (WW : World1 Z i_COMPACT_STRINGS v_SIOOBE_FORMATTER) :
    Con l Z (⟨"java/lang/StringUTF16", "putChar", "([BII)V"⟩ : MethodName) jdk_52_method_4_code 3 none ws ({ frames := 0, cells := 0, slots := 0, locals := 0 } : Room) #[(.ref a1), (.int 2), (.int c0)] h0 (fun v h L => v = none ∧ Fr n0 L ∧ Keep h0 h [a1] ∧ Arv Z h a1 k1 .byte (6 : Int32) [(.int x0), (.int x1), (.int x2), (.int x3), (.int (nar .byte ((c0 >>> ((0 : Int32) &&& 31)).toInt8.toInt32))), (.int (nar .byte ((c0 >>> ((8 : Int32) &&& 31)).toInt8.toInt32)))] (.int 0)) := by
  refine own_body (plainFor_of_name pn_java_lang_StringUTF16) ?_
  intro p e s m below meth c s₁ hx hby hml hZ hown hnm hlk hret X0 e0
  have N0 := Fr.nil n0
  have K0 : Keep h0 h0 [a1] := Keep.refl _ _
  refine Go.st (T' := s₁) (f' := (mkF m 0 #[rv a1, iv 2, iv c0] [])) (fun _ k => castTop (by first | (simp [entryFrame, mkF, argsToLocals, Value.category]; done) | rfl) k) ?_
  have ⟨S_i_COMPACT_STRINGS, nz_i_COMPACT_STRINGS, S_v_SIOOBE_FORMATTER, r_v_SIOOBE_FORMATTER, S_i__assertionsDisabled, S_i_HI_BYTE_SHIFT, S_i_LO_BYTE_SHIFT⟩ := WW
  have lt_a1 := V_a1.lt
  obtain ⟨T1, X1, e1, st1⟩ := getS2 X0 hx hZ hown (host := "") (Or.inl (ww hw 94 rfl)) Via.refl e0 (S_i__assertionsDisabled.ext O0.2) (g := (mkF m 0 #[rv a1, iv 2, iv c0] [])) rfl (hb hby d20_0)
  refine Go.st (f' := (mkF m 3 #[rv a1, iv 2, iv c0] [(.int 1)])) (fun _ k => st1 _ k) ?_
  refine Go.st (f' := (mkF m 28 #[rv a1, iv 2, iv c0] [])) (fun _ k => XS.ifYes X1.here hx rfl (pc0 := 3) (pc' := 28) rfl (hb hby d20_3) rfl (by decide) (by decide) (by decide) k) ?_
  refine Go.st (f' := (mkF m 29 #[rv a1, iv 2, iv c0] [(.int 2)])) (fun _ k => XS.iloadN X1.here hx rfl (hb hby d20_28) rfl k) ?_
  refine Go.st (f' := (mkF m 30 #[rv a1, iv 2, iv c0] [(.int 1), (.int 2)])) (fun _ k => XS.iconst X1.here hx rfl (hb hby d20_29) k) ?_
  refine Go.st (f' := (mkF m 31 #[rv a1, iv 2, iv c0] [(.int 4)])) (fun _ k => XS.ishl X1.here hx rfl (hb hby d20_30) rfl k) ?_
  refine Go.st (f' := (mkF m 32 #[rv a1, iv 4, iv c0] [])) (fun _ k => XS.istoreN X1.here hx rfl (hb hby d20_31) rfl (l' := #[rv a1, iv 4, iv c0]) rfl k) ?_
  refine Go.st (f' := (mkF m 33 #[rv a1, iv 4, iv c0] [(.ref a1)])) (fun _ k => XS.aloadN X1.here hx rfl (hb hby d20_32) rfl rfl k) ?_
  refine Go.st (f' := (mkF m 34 #[rv a1, iv 4, iv c0] [(.int 4), (.ref a1)])) (fun _ k => XS.iloadN X1.here hx rfl (hb hby d20_33) rfl k) ?_
  refine Go.st (f' := (mkF m 37 #[rv a1, iv 5, iv c0] [(.int 4), (.ref a1)])) (fun _ k => XS.iinc X1.here hx rfl (hb hby d20_34) rfl (l' := #[rv a1, iv 5, iv c0]) rfl k) ?_
  refine Go.st (f' := (mkF m 38 #[rv a1, iv 5, iv c0] [(.int c0), (.int 4), (.ref a1)])) (fun _ k => XS.iloadN X1.here hx rfl (hb hby d20_37) rfl k) ?_
  obtain ⟨T2, X2, e2, st2⟩ := getS2 X1 hx hZ hown (host := "") (Or.inl (ww hw 95 rfl)) Via.refl e1 (S_i_HI_BYTE_SHIFT.ext O0.2) (g := (mkF m 38 #[rv a1, iv 5, iv c0] [(.int c0), (.int 4), (.ref a1)])) rfl (hb hby d20_38)
  refine Go.st (f' := (mkF m 41 #[rv a1, iv 5, iv c0] [(.int 0), (.int c0), (.int 4), (.ref a1)])) (fun _ k => st2 _ k) ?_
  refine Go.st (f' := (mkF m 42 #[rv a1, iv 5, iv c0] [(.int (c0 >>> ((0 : Int32) &&& 31))), (.int 4), (.ref a1)])) (fun _ k => XS.ishr X2.here hx rfl (hb hby d20_41) rfl k) ?_
  refine Go.st (f' := (mkF m 43 #[rv a1, iv 5, iv c0] [(.int ((c0 >>> ((0 : Int32) &&& 31)).toInt8.toInt32)), (.int 4), (.ref a1)])) (fun _ k => XS.i2b X2.here hx rfl (hb hby d20_42) rfl k) ?_
  obtain ⟨cl3, Ar3, q3, S3, Nx3, H3, G3⟩ := id V_a1
  have hin3 : ¬ ((4 : Int32) < 0 ∨ cl3.slots.size ≤ ((4 : Int32)).toNatClampNeg) := inb_of S3 ⟨by decide, by decide⟩
  obtain ⟨T4, h4, X4, e4, W4, st4⟩ := stB X2 hx hZ e2 Ar3 (j := (4 : Int32)) hin3 (g := (mkF m 43 #[rv a1, iv 5, iv c0] [(.int ((c0 >>> ((0 : Int32) &&& 31)).toInt8.toInt32)), (.int 4), (.ref a1)])) rfl rfl (hb hby d20_43)
  have V_a1_4 : Arv Z h4 a1 k1 .byte (6 : Int32) [(.int x0), (.int x1), (.int x2), (.int x3), (.int (nar .byte ((c0 >>> ((0 : Int32) &&& 31)).toInt8.toInt32))), (.int x5)] (.int (0 : Int32)) := Arv.set Ar3 q3 S3 Nx3 H3 G3 (fits_nar_byte _) W4 4 rfl (Nat.le_of_ble_eq_true rfl)
  have N4 := Fr.snoc X4 N0 g_a1
  have O4 : Old Z n0 h4 := O0.wr W4 g_a1
  have K4 : Keep h0 h4 [a1] := K0.wr W4 (Or.inl (List.mem_of_getElem? (i := 0) rfl))
  refine Go.st (f' := (mkF m 44 #[rv a1, iv 5, iv c0] [])) (fun _ k => st4 _ k) ?_
  refine Go.st (f' := (mkF m 45 #[rv a1, iv 5, iv c0] [(.ref a1)])) (fun _ k => XS.aloadN X4.here hx rfl (hb hby d20_44) rfl rfl k) ?_
  refine Go.st (f' := (mkF m 46 #[rv a1, iv 5, iv c0] [(.int 5), (.ref a1)])) (fun _ k => XS.iloadN X4.here hx rfl (hb hby d20_45) rfl k) ?_
  refine Go.st (f' := (mkF m 47 #[rv a1, iv 5, iv c0] [(.int c0), (.int 5), (.ref a1)])) (fun _ k => XS.iloadN X4.here hx rfl (hb hby d20_46) rfl k) ?_
  obtain ⟨T5, X5, e5, st5⟩ := getS2 X4 hx hZ hown (host := "") (Or.inl (ww hw 96 rfl)) Via.refl e4 (S_i_LO_BYTE_SHIFT.ext O4.2) (g := (mkF m 47 #[rv a1, iv 5, iv c0] [(.int c0), (.int 5), (.ref a1)])) rfl (hb hby d20_47)
  refine Go.st (f' := (mkF m 50 #[rv a1, iv 5, iv c0] [(.int 8), (.int c0), (.int 5), (.ref a1)])) (fun _ k => st5 _ k) ?_
  refine Go.st (f' := (mkF m 51 #[rv a1, iv 5, iv c0] [(.int (c0 >>> ((8 : Int32) &&& 31))), (.int 5), (.ref a1)])) (fun _ k => XS.ishr X5.here hx rfl (hb hby d20_50) rfl k) ?_
  refine Go.st (f' := (mkF m 52 #[rv a1, iv 5, iv c0] [(.int ((c0 >>> ((8 : Int32) &&& 31)).toInt8.toInt32)), (.int 5), (.ref a1)])) (fun _ k => XS.i2b X5.here hx rfl (hb hby d20_51) rfl k) ?_
  obtain ⟨cl6, Ar6, q6, S6, Nx6, H6, G6⟩ := id V_a1_4
  have hin6 : ¬ ((5 : Int32) < 0 ∨ cl6.slots.size ≤ ((5 : Int32)).toNatClampNeg) := inb_of S6 ⟨by decide, by decide⟩
  obtain ⟨T7, h7, X7, e7, W7, st7⟩ := stB X5 hx hZ e5 Ar6 (j := (5 : Int32)) hin6 (g := (mkF m 52 #[rv a1, iv 5, iv c0] [(.int ((c0 >>> ((8 : Int32) &&& 31)).toInt8.toInt32)), (.int 5), (.ref a1)])) rfl rfl (hb hby d20_52)
  have V_a1_7 : Arv Z h7 a1 k1 .byte (6 : Int32) [(.int x0), (.int x1), (.int x2), (.int x3), (.int (nar .byte ((c0 >>> ((0 : Int32) &&& 31)).toInt8.toInt32))), (.int (nar .byte ((c0 >>> ((8 : Int32) &&& 31)).toInt8.toInt32)))] (.int (0 : Int32)) := Arv.set Ar6 q6 S6 Nx6 H6 G6 (fits_nar_byte _) W7 5 rfl (Nat.le_of_ble_eq_true rfl)
  have N7 := Fr.snoc X7 N4 g_a1
  have O7 : Old Z n0 h7 := O4.wr W7 g_a1
  have K7 : Keep h0 h7 [a1] := K4.wr W7 (Or.inl (List.mem_of_getElem? (i := 0) rfl))
  refine Go.st (f' := (mkF m 53 #[rv a1, iv 5, iv c0] [])) (fun _ k => st7 _ k) ?_
  refine Go.ret0 X7 hlk hx hret (hb hby d20_53) e7 ?_ (by decide) (by decide)
  exact ⟨rfl, N7, K7, V_a1_7⟩
set_option maxRecDepth 65536 in
set_option maxHeartbeats 40000000 in
theorem ug_3_2 (l : Launch) (Z : State) (a0 : Array Value) (hw : ∀ d ∈ tables_1, d.before a0 Z = true) (ws : List Jvm.Cond) (a1 : Addr) (k1 : ClassId) (x0 : Int32) (x1 : Int32) (x2 : Int32) (x3 : Int32) (x4 : Int32) (x5 : Int32) (i_COMPACT_STRINGS : Int32) (v_SIOOBE_FORMATTER : Value) (h0 : Heap) (n0 : Nat) (O0 : Old Z n0 h0) (V_a1 : Arv Z h0 a1 k1 .byte (6 : Int32) [(.int x0), (.int x1), (.int x2), (.int x3), (.int x4), (.int x5)] (.int 0)) (WW : World1 Z i_COMPACT_STRINGS v_SIOOBE_FORMATTER) :
    Con l Z (⟨"java/lang/StringUTF16", "getChar", "([BI)C"⟩ : MethodName) jdk_52_method_5_code 2 (some .char) ws ({ frames := 0, cells := 0, slots := 0, locals := 0 } : Room) #[(.ref a1), (.int 2)] h0 (fun v h L => v = some (.int (nar .char (((((x4 &&& (255 : Int32)) <<< ((0 : Int32) &&& 31)) ||| ((x5 &&& (255 : Int32)) <<< ((8 : Int32) &&& 31))).toUInt32.toUInt16.toUInt32.toInt32)))) ∧ Fr n0 L ∧ h = h0) := by
  refine own_body (plainFor_of_name pn_java_lang_StringUTF16) ?_
  intro p e s m below meth c s₁ hx hby hml hZ hown hnm hlk hret X0 e0
  have N0 := Fr.nil n0
  refine Go.st (T' := s₁) (f' := (mkF m 0 #[rv a1, iv 2] [])) (fun _ k => castTop (by first | (simp [entryFrame, mkF, argsToLocals, Value.category]; done) | rfl) k) ?_
  have ⟨S_i_COMPACT_STRINGS, nz_i_COMPACT_STRINGS, S_v_SIOOBE_FORMATTER, r_v_SIOOBE_FORMATTER, S_i__assertionsDisabled, S_i_HI_BYTE_SHIFT, S_i_LO_BYTE_SHIFT⟩ := WW
  have lt_a1 := V_a1.lt
  obtain ⟨T1, X1, e1, st1⟩ := getS2 X0 hx hZ hown (host := "") (Or.inl (ww hw 94 rfl)) Via.refl e0 (S_i__assertionsDisabled.ext O0.2) (g := (mkF m 0 #[rv a1, iv 2] [])) rfl (hb hby d21_0)
  refine Go.st (f' := (mkF m 3 #[rv a1, iv 2] [(.int 1)])) (fun _ k => st1 _ k) ?_
  refine Go.st (f' := (mkF m 28 #[rv a1, iv 2] [])) (fun _ k => XS.ifYes X1.here hx rfl (pc0 := 3) (pc' := 28) rfl (hb hby d21_3) rfl (by decide) (by decide) (by decide) k) ?_
  refine Go.st (f' := (mkF m 29 #[rv a1, iv 2] [(.int 2)])) (fun _ k => XS.iloadN X1.here hx rfl (hb hby d21_28) rfl k) ?_
  refine Go.st (f' := (mkF m 30 #[rv a1, iv 2] [(.int 1), (.int 2)])) (fun _ k => XS.iconst X1.here hx rfl (hb hby d21_29) k) ?_
  refine Go.st (f' := (mkF m 31 #[rv a1, iv 2] [(.int 4)])) (fun _ k => XS.ishl X1.here hx rfl (hb hby d21_30) rfl k) ?_
  refine Go.st (f' := (mkF m 32 #[rv a1, iv 4] [])) (fun _ k => XS.istoreN X1.here hx rfl (hb hby d21_31) rfl (l' := #[rv a1, iv 4]) rfl k) ?_
  refine Go.st (f' := (mkF m 33 #[rv a1, iv 4] [(.ref a1)])) (fun _ k => XS.aloadN X1.here hx rfl (hb hby d21_32) rfl rfl k) ?_
  refine Go.st (f' := (mkF m 34 #[rv a1, iv 4] [(.int 4), (.ref a1)])) (fun _ k => XS.iloadN X1.here hx rfl (hb hby d21_33) rfl k) ?_
  refine Go.st (f' := (mkF m 37 #[rv a1, iv 5] [(.int 4), (.ref a1)])) (fun _ k => XS.iinc X1.here hx rfl (hb hby d21_34) rfl (l' := #[rv a1, iv 5]) rfl k) ?_
  obtain ⟨cl2, Ar2, -, S2, -, H2, -⟩ := id V_a1
  have hin2 : ¬ ((4 : Int32) < 0 ∨ cl2.slots.size ≤ ((4 : Int32)).toNatClampNeg) := inb_of S2 ⟨by decide, by decide⟩
  have hat2 : cl2.slots[((4 : Int32)).toNatClampNeg]? = some (.int x4) := H2.at hin2 rfl
  refine Go.st (f' := (mkF m 38 #[rv a1, iv 5] [(.int x4)])) (fun _ k => X1.baloadBytes hx (j := (4 : Int32)) (v := (.int x4)) (by rw [e1]; exact Ar2.1) (State.isArrayOf_alike hZ.alike Ar2.2.1) Ar2.2.2 hin2 hat2 (g := (mkF m 37 #[rv a1, iv 5] [(.int 4), (.ref a1)])) rfl rfl (hb hby d21_37) _ k) ?_
  refine Go.st (f' := (mkF m 41 #[rv a1, iv 5] [(.int 255), (.int x4)])) (fun _ k => XS.sipush X1.here hx rfl (hb hby d21_38) k) ?_
  refine Go.st (f' := (mkF m 42 #[rv a1, iv 5] [(.int (x4 &&& (255 : Int32)))])) (fun _ k => XS.iand X1.here hx rfl (hb hby d21_41) rfl k) ?_
  obtain ⟨T3, X3, e3, st3⟩ := getS2 X1 hx hZ hown (host := "") (Or.inl (ww hw 95 rfl)) Via.refl e1 (S_i_HI_BYTE_SHIFT.ext O0.2) (g := (mkF m 42 #[rv a1, iv 5] [(.int (x4 &&& (255 : Int32)))])) rfl (hb hby d21_42)
  refine Go.st (f' := (mkF m 45 #[rv a1, iv 5] [(.int 0), (.int (x4 &&& (255 : Int32)))])) (fun _ k => st3 _ k) ?_
  refine Go.st (f' := (mkF m 46 #[rv a1, iv 5] [(.int ((x4 &&& (255 : Int32)) <<< ((0 : Int32) &&& 31)))])) (fun _ k => XS.ishl X3.here hx rfl (hb hby d21_45) rfl k) ?_
  refine Go.st (f' := (mkF m 47 #[rv a1, iv 5] [(.ref a1), (.int ((x4 &&& (255 : Int32)) <<< ((0 : Int32) &&& 31)))])) (fun _ k => XS.aloadN X3.here hx rfl (hb hby d21_46) rfl rfl k) ?_
  refine Go.st (f' := (mkF m 48 #[rv a1, iv 5] [(.int 5), (.ref a1), (.int ((x4 &&& (255 : Int32)) <<< ((0 : Int32) &&& 31)))])) (fun _ k => XS.iloadN X3.here hx rfl (hb hby d21_47) rfl k) ?_
  obtain ⟨cl4, Ar4, -, S4, -, H4, -⟩ := id V_a1
  have hin4 : ¬ ((5 : Int32) < 0 ∨ cl4.slots.size ≤ ((5 : Int32)).toNatClampNeg) := inb_of S4 ⟨by decide, by decide⟩
  have hat4 : cl4.slots[((5 : Int32)).toNatClampNeg]? = some (.int x5) := H4.at hin4 rfl
  refine Go.st (f' := (mkF m 49 #[rv a1, iv 5] [(.int x5), (.int ((x4 &&& (255 : Int32)) <<< ((0 : Int32) &&& 31)))])) (fun _ k => X3.baloadBytes hx (j := (5 : Int32)) (v := (.int x5)) (by rw [e3]; exact Ar4.1) (State.isArrayOf_alike hZ.alike Ar4.2.1) Ar4.2.2 hin4 hat4 (g := (mkF m 48 #[rv a1, iv 5] [(.int 5), (.ref a1), (.int ((x4 &&& (255 : Int32)) <<< ((0 : Int32) &&& 31)))])) rfl rfl (hb hby d21_48) _ k) ?_
  refine Go.st (f' := (mkF m 52 #[rv a1, iv 5] [(.int 255), (.int x5), (.int ((x4 &&& (255 : Int32)) <<< ((0 : Int32) &&& 31)))])) (fun _ k => XS.sipush X3.here hx rfl (hb hby d21_49) k) ?_
  refine Go.st (f' := (mkF m 53 #[rv a1, iv 5] [(.int (x5 &&& (255 : Int32))), (.int ((x4 &&& (255 : Int32)) <<< ((0 : Int32) &&& 31)))])) (fun _ k => XS.iand X3.here hx rfl (hb hby d21_52) rfl k) ?_
  obtain ⟨T5, X5, e5, st5⟩ := getS2 X3 hx hZ hown (host := "") (Or.inl (ww hw 96 rfl)) Via.refl e3 (S_i_LO_BYTE_SHIFT.ext O0.2) (g := (mkF m 53 #[rv a1, iv 5] [(.int (x5 &&& (255 : Int32))), (.int ((x4 &&& (255 : Int32)) <<< ((0 : Int32) &&& 31)))])) rfl (hb hby d21_53)
  refine Go.st (f' := (mkF m 56 #[rv a1, iv 5] [(.int 8), (.int (x5 &&& (255 : Int32))), (.int ((x4 &&& (255 : Int32)) <<< ((0 : Int32) &&& 31)))])) (fun _ k => st5 _ k) ?_
  refine Go.st (f' := (mkF m 57 #[rv a1, iv 5] [(.int ((x5 &&& (255 : Int32)) <<< ((8 : Int32) &&& 31))), (.int ((x4 &&& (255 : Int32)) <<< ((0 : Int32) &&& 31)))])) (fun _ k => XS.ishl X5.here hx rfl (hb hby d21_56) rfl k) ?_
  refine Go.st (f' := (mkF m 58 #[rv a1, iv 5] [(.int (((x4 &&& (255 : Int32)) <<< ((0 : Int32) &&& 31)) ||| ((x5 &&& (255 : Int32)) <<< ((8 : Int32) &&& 31))))])) (fun _ k => XS.ior X5.here hx rfl (hb hby d21_57) rfl k) ?_
  refine Go.st (f' := (mkF m 59 #[rv a1, iv 5] [(.int ((((x4 &&& (255 : Int32)) <<< ((0 : Int32) &&& 31)) ||| ((x5 &&& (255 : Int32)) <<< ((8 : Int32) &&& 31))).toUInt32.toUInt16.toUInt32.toInt32))])) (fun _ k => XS.i2c X5.here hx rfl (hb hby d21_58) rfl k) ?_
  refine Go.retB X5 hlk hx (t := .char) hret (by simp) (hb hby d21_59) e5 ?_ (by decide) (by decide)
  exact ⟨rfl, N0, rfl⟩
set_option maxRecDepth 65536 in
set_option maxHeartbeats 40000000 in
theorem ut_3 (l : Launch) (Z : State) (a0 : Array Value) (hw : ∀ d ∈ tables_1, d.before a0 Z = true) (ws : List Jvm.Cond) (a1 : Addr) (k1 : ClassId) (c0 : Int32) (c1 : Int32) (c2 : Int32) (i_COMPACT_STRINGS : Int32) (v_SIOOBE_FORMATTER : Value) (h0 : Heap) (n0 : Nat) (O0 : Old Z n0 h0) (V_a1 : Arv Z h0 a1 k1 .char (3 : Int32) [(.int c0), (.int c1), (.int c2)] (.int 0)) (WW : World1 Z i_COMPACT_STRINGS v_SIOOBE_FORMATTER) :
    Con l Z (⟨"java/lang/StringUTF16", "toBytes", "([CII)[B"⟩ : MethodName) jdk_52_method_14_code 5 (some (.array .byte)) ws ({ frames := 2, cells := 1, slots := 6, locals := 24 } : Room) #[(.ref a1), (.int 0), (.int 3)] h0 (fun v h L => ∃ (b : Addr) (kb : ClassId), v = some (.ref b) ∧ Fr n0 L ∧ h0.size ≤ b ∧ Keep h0 h [] ∧ Arv Z h b kb .byte (6 : Int32) [(.int (nar .byte ((c0 >>> ((0 : Int32) &&& 31)).toInt8.toInt32))), (.int (nar .byte ((c0 >>> ((8 : Int32) &&& 31)).toInt8.toInt32))), (.int (nar .byte ((c1 >>> ((0 : Int32) &&& 31)).toInt8.toInt32))), (.int (nar .byte ((c1 >>> ((8 : Int32) &&& 31)).toInt8.toInt32))), (.int (nar .byte ((c2 >>> ((0 : Int32) &&& 31)).toInt8.toInt32))), (.int (nar .byte ((c2 >>> ((8 : Int32) &&& 31)).toInt8.toInt32)))] (.int 0)) := by
  refine own_body (plainFor_of_name pn_java_lang_StringUTF16) ?_
  intro p e s m below meth c s₁ hx hby hml hZ hown hnm hlk hret X0 e0
  have N0 := Fr.nil n0
  have K0 : Keep h0 h0 [] := Keep.refl _ _
  refine Go.st (T' := s₁) (f' := (mkF m 0 #[rv a1, iv 0, iv 3, .unset, .unset] [])) (fun _ k => castTop (by first | (simp [entryFrame, mkF, argsToLocals, Value.category]; done) | rfl) k) ?_
  have ⟨S_i_COMPACT_STRINGS, nz_i_COMPACT_STRINGS, S_v_SIOOBE_FORMATTER, r_v_SIOOBE_FORMATTER, S_i__assertionsDisabled, S_i_HI_BYTE_SHIFT, S_i_LO_BYTE_SHIFT⟩ := WW
  have lt_a1 := V_a1.lt
  refine Go.st (f' := (mkF m 1 #[rv a1, iv 0, iv 3, .unset, .unset] [(.int 3)])) (fun _ k => XS.iloadN X0.here hx rfl (hb hby d17_0) rfl k) ?_
  obtain ⟨_, _, ⟨T1, L1, kk1, nn1⟩, -, X1, ⟨Lc1, hQ1, lq1, yq1, zz1⟩, st1⟩ := Jvm.LawKit.callS X0 hx (y := (⟨"java/lang/StringUTF16", "newBytesFor", "(I)[B"⟩ : MethodName)) hown (mvT hZ (ww hw 84 rfl)) (mvT hZ (ww hw 85 rfl)) (mvT hZ (ww hw 43 rfl)) (mvT hZ (ww hw 86 rfl)) (by decide) (own_back (W := 0) (uf_3 l Z a0 hw [] h0 n0 O0) hZ (ww hw 86 rfl) (ww hw 43 rfl) (by decide) (by decide)) (g := (mkF m 1 #[rv a1, iv 0, iv 3, .unset, .unset] [(.int 3)])) rfl (by rw [hml]; rfl) (argsL := [(.int (3 : Int32))]) (rest := []) (lenOf pd__I__B rfl) rfl (by show 2 * 0 + _ ≤ _; exact Nat.le_of_eq rfl) (hb hby d17_1) (fun _ _ => ⟨rfl, e0, (by decide : 0 + 1 ≤ _), (by decide : 0 + 6 ≤ _)⟩)
  dsimp only [Pt.U, Pt.locs, Pt.cells, Pt.slots] at X1 lq1 yq1 zz1 st1 hQ1
  subst lq1 yq1 zz1
  obtain ⟨b1, kb1, rfl, Nq1, zq1, kq1, vq1⟩ := hQ1
  have N1 := Fr.app N0 Nq1
  have ne_a1_b1 : a1 ≠ b1 := Nat.ne_of_lt (Nat.lt_of_lt_of_le lt_a1 zq1)
  have g_b1 : n0 ≤ b1 := Nat.le_trans (O0.1 ▸ O0.2.1) zq1
  have sz_b1 : h0.size ≤ b1 := Nat.le_trans K0.1 zq1
  have O1 : Old Z n0 T1.heap := O0.keep kq1 all0
  have K1 : Keep h0 T1.heap [] := K0.trans kq1 all0
  have lt_b1 := vq1.lt
  refine Go.st (f' := (mkF m 4 #[rv a1, iv 0, iv 3, .unset, .unset] [(.ref b1)])) (fun _ k => st1 _ k) ?_
  refine Go.st (f' := (mkF m 5 #[rv a1, iv 0, iv 3, rv b1, .unset] [])) (fun _ k => XS.astoreN X1.here hx rfl (hb hby d17_4) rfl rfl (l' := #[rv a1, iv 0, iv 3, rv b1, .unset]) rfl k) ?_
  refine Go.st (f' := (mkF m 6 #[rv a1, iv 0, iv 3, rv b1, .unset] [(.int 0)])) (fun _ k => XS.iconst X1.here hx rfl (hb hby d17_5) k) ?_
  refine Go.st (f' := (mkF m 8 #[rv a1, iv 0, iv 3, rv b1, iv 0] [])) (fun _ k => XS.istore X1.here hx rfl (hb hby d17_6) rfl (l' := #[rv a1, iv 0, iv 3, rv b1, iv 0]) rfl k) ?_
  refine Go.st (f' := (mkF m 10 #[rv a1, iv 0, iv 3, rv b1, iv 0] [(.int 0)])) (fun _ k => XS.iload X1.here hx rfl (hb hby d17_8) rfl k) ?_
  refine Go.st (f' := (mkF m 11 #[rv a1, iv 0, iv 3, rv b1, iv 0] [(.int 3), (.int 0)])) (fun _ k => XS.iloadN X1.here hx rfl (hb hby d17_10) rfl k) ?_
  refine Go.st (f' := (mkF m 14 #[rv a1, iv 0, iv 3, rv b1, iv 0] [])) (fun _ k => XS.icmpNo X1.here hx rfl (hb hby d17_11) rfl (by decide) k) ?_
  refine Go.st (f' := (mkF m 15 #[rv a1, iv 0, iv 3, rv b1, iv 0] [(.ref b1)])) (fun _ k => XS.aloadN X1.here hx rfl (hb hby d17_14) rfl rfl k) ?_
  refine Go.st (f' := (mkF m 17 #[rv a1, iv 0, iv 3, rv b1, iv 0] [(.int 0), (.ref b1)])) (fun _ k => XS.iload X1.here hx rfl (hb hby d17_15) rfl k) ?_
  refine Go.st (f' := (mkF m 18 #[rv a1, iv 0, iv 3, rv b1, iv 0] [(.ref a1), (.int 0), (.ref b1)])) (fun _ k => XS.aloadN X1.here hx rfl (hb hby d17_17) rfl rfl k) ?_
  refine Go.st (f' := (mkF m 19 #[rv a1, iv 0, iv 3, rv b1, iv 0] [(.int 0), (.ref a1), (.int 0), (.ref b1)])) (fun _ k => XS.iloadN X1.here hx rfl (hb hby d17_18) rfl k) ?_
  have ft3 := (V_a1.keep kq1 nin0)
  obtain ⟨cl2, Ar2, -, S2, -, H2, -⟩ := id ft3
  have hin2 : ¬ ((0 : Int32) < 0 ∨ cl2.slots.size ≤ ((0 : Int32)).toNatClampNeg) := inb_of S2 ⟨by decide, by decide⟩
  have hat2 : cl2.slots[((0 : Int32)).toNatClampNeg]? = some (.int c0) := H2.at hin2 rfl
  refine Go.st (f' := (mkF m 20 #[rv a1, iv 0, iv 3, rv b1, iv 0] [(.int c0), (.int 0), (.ref b1)])) (fun _ k => X1.caload hx (j := (0 : Int32)) (v := (.int c0)) Ar2.1 (State.isArrayOf_alike hZ.alike Ar2.2.1) Ar2.2.2 hin2 hat2 (g := (mkF m 19 #[rv a1, iv 0, iv 3, rv b1, iv 0] [(.int 0), (.ref a1), (.int 0), (.ref b1)])) rfl rfl (hb hby d17_19) _ k) ?_
  obtain ⟨_, _, ⟨T4, L4, kk4, nn4⟩, -, X4, ⟨Lc4, hQ4, lq4, yq4, zz4⟩, st4⟩ := Jvm.LawKit.callS X1 hx (y := (⟨"java/lang/StringUTF16", "putChar", "([BII)V"⟩ : MethodName)) hown (mvT hZ (ww hw 91 rfl)) (mvT hZ (ww hw 92 rfl)) (mvT hZ (ww hw 43 rfl)) (mvT hZ (ww hw 93 rfl)) (by decide) (own_back (W := 0) (up_3_0 l Z a0 hw [] b1 kb1 c0 (0 : Int32) (0 : Int32) (0 : Int32) (0 : Int32) (0 : Int32) (0 : Int32) i_COMPACT_STRINGS v_SIOOBE_FORMATTER T1.heap n0 O1 g_b1 vq1 WW) hZ (ww hw 93 rfl) (ww hw 43 rfl) (by decide) (by decide)) (g := (mkF m 20 #[rv a1, iv 0, iv 3, rv b1, iv 0] [(.int c0), (.int 0), (.ref b1)])) rfl (by rw [hml]; rfl) (argsL := [(.ref b1), (.int (0 : Int32)), (.int c0)]) (rest := []) (lenOf pd___BII_V rfl) rfl (by show 2 * 0 + _ ≤ _; exact Nat.le_of_eq rfl) (hb hby d17_20) (fun _ _ => ⟨rfl, rfl, (by decide : 1 + 0 ≤ _), (by decide : 6 + 0 ≤ _)⟩)
  dsimp only [Pt.U, Pt.locs, Pt.cells, Pt.slots] at X4 lq4 yq4 zz4 st4 hQ4
  subst lq4 yq4 zz4
  obtain ⟨rfl, Nq4, kq4, vq4⟩ := hQ4
  have N4 := Fr.app N1 Nq4
  have O4 : Old Z n0 T4.heap := O1.keep kq4 (allS g_b1 all0)
  have K4 : Keep h0 T4.heap [] := K1.trans kq4 (allS (Or.inr sz_b1) all0)
  refine Go.st (f' := (mkF m 23 #[rv a1, iv 0, iv 3, rv b1, iv 0] [])) (fun _ k => st4 _ k) ?_
  refine Go.st (f' := (mkF m 26 #[rv a1, iv 1, iv 3, rv b1, iv 0] [])) (fun _ k => XS.iinc X4.here hx rfl (hb hby d17_23) rfl (l' := #[rv a1, iv 1, iv 3, rv b1, iv 0]) rfl k) ?_
  refine Go.st (f' := (mkF m 29 #[rv a1, iv 1, iv 3, rv b1, iv 1] [])) (fun _ k => XS.iinc X4.here hx rfl (hb hby d17_26) rfl (l' := #[rv a1, iv 1, iv 3, rv b1, iv 1]) rfl k) ?_
  refine Go.st (f' := (mkF m 8 #[rv a1, iv 1, iv 3, rv b1, iv 1] [])) (fun _ k => XS.goto X4.here hx rfl (pc0 := 29) (pc' := 8) rfl (hb hby d17_29) (by decide) (by decide) k) ?_
  refine Go.st (f' := (mkF m 10 #[rv a1, iv 1, iv 3, rv b1, iv 1] [(.int 1)])) (fun _ k => XS.iload X4.here hx rfl (hb hby d17_8) rfl k) ?_
  refine Go.st (f' := (mkF m 11 #[rv a1, iv 1, iv 3, rv b1, iv 1] [(.int 3), (.int 1)])) (fun _ k => XS.iloadN X4.here hx rfl (hb hby d17_10) rfl k) ?_
  refine Go.st (f' := (mkF m 14 #[rv a1, iv 1, iv 3, rv b1, iv 1] [])) (fun _ k => XS.icmpNo X4.here hx rfl (hb hby d17_11) rfl (by decide) k) ?_
  refine Go.st (f' := (mkF m 15 #[rv a1, iv 1, iv 3, rv b1, iv 1] [(.ref b1)])) (fun _ k => XS.aloadN X4.here hx rfl (hb hby d17_14) rfl rfl k) ?_
  refine Go.st (f' := (mkF m 17 #[rv a1, iv 1, iv 3, rv b1, iv 1] [(.int 1), (.ref b1)])) (fun _ k => XS.iload X4.here hx rfl (hb hby d17_15) rfl k) ?_
  refine Go.st (f' := (mkF m 18 #[rv a1, iv 1, iv 3, rv b1, iv 1] [(.ref a1), (.int 1), (.ref b1)])) (fun _ k => XS.aloadN X4.here hx rfl (hb hby d17_17) rfl rfl k) ?_
  refine Go.st (f' := (mkF m 19 #[rv a1, iv 1, iv 3, rv b1, iv 1] [(.int 1), (.ref a1), (.int 1), (.ref b1)])) (fun _ k => XS.iloadN X4.here hx rfl (hb hby d17_18) rfl k) ?_
  have ft6 := (ft3.keep kq4 (ninS ne_a1_b1 nin0))
  obtain ⟨cl5, Ar5, -, S5, -, H5, -⟩ := id ft6
  have hin5 : ¬ ((1 : Int32) < 0 ∨ cl5.slots.size ≤ ((1 : Int32)).toNatClampNeg) := inb_of S5 ⟨by decide, by decide⟩
  have hat5 : cl5.slots[((1 : Int32)).toNatClampNeg]? = some (.int c1) := H5.at hin5 rfl
  refine Go.st (f' := (mkF m 20 #[rv a1, iv 1, iv 3, rv b1, iv 1] [(.int c1), (.int 1), (.ref b1)])) (fun _ k => X4.caload hx (j := (1 : Int32)) (v := (.int c1)) Ar5.1 (State.isArrayOf_alike hZ.alike Ar5.2.1) Ar5.2.2 hin5 hat5 (g := (mkF m 19 #[rv a1, iv 1, iv 3, rv b1, iv 1] [(.int 1), (.ref a1), (.int 1), (.ref b1)])) rfl rfl (hb hby d17_19) _ k) ?_
  obtain ⟨_, _, ⟨T7, L7, kk7, nn7⟩, -, X7, ⟨Lc7, hQ7, lq7, yq7, zz7⟩, st7⟩ := Jvm.LawKit.callS X4 hx (y := (⟨"java/lang/StringUTF16", "putChar", "([BII)V"⟩ : MethodName)) hown (mvT hZ (ww hw 91 rfl)) (mvT hZ (ww hw 92 rfl)) (mvT hZ (ww hw 43 rfl)) (mvT hZ (ww hw 93 rfl)) (by decide) (own_back (W := 0) (up_3_1 l Z a0 hw [] b1 kb1 c1 (nar .byte ((c0 >>> ((0 : Int32) &&& 31)).toInt8.toInt32)) (nar .byte ((c0 >>> ((8 : Int32) &&& 31)).toInt8.toInt32)) (0 : Int32) (0 : Int32) (0 : Int32) (0 : Int32) i_COMPACT_STRINGS v_SIOOBE_FORMATTER T4.heap n0 O4 g_b1 vq4 WW) hZ (ww hw 93 rfl) (ww hw 43 rfl) (by decide) (by decide)) (g := (mkF m 20 #[rv a1, iv 1, iv 3, rv b1, iv 1] [(.int c1), (.int 1), (.ref b1)])) rfl (by rw [hml]; rfl) (argsL := [(.ref b1), (.int (1 : Int32)), (.int c1)]) (rest := []) (lenOf pd___BII_V rfl) rfl (by show 2 * 0 + _ ≤ _; exact Nat.le_of_eq rfl) (hb hby d17_20) (fun _ _ => ⟨rfl, rfl, (by decide : 1 + 0 ≤ _), (by decide : 6 + 0 ≤ _)⟩)
  dsimp only [Pt.U, Pt.locs, Pt.cells, Pt.slots] at X7 lq7 yq7 zz7 st7 hQ7
  subst lq7 yq7 zz7
  obtain ⟨rfl, Nq7, kq7, vq7⟩ := hQ7
  have N7 := Fr.app N4 Nq7
  have O7 : Old Z n0 T7.heap := O4.keep kq7 (allS g_b1 all0)
  have K7 : Keep h0 T7.heap [] := K4.trans kq7 (allS (Or.inr sz_b1) all0)
  refine Go.st (f' := (mkF m 23 #[rv a1, iv 1, iv 3, rv b1, iv 1] [])) (fun _ k => st7 _ k) ?_
  refine Go.st (f' := (mkF m 26 #[rv a1, iv 2, iv 3, rv b1, iv 1] [])) (fun _ k => XS.iinc X7.here hx rfl (hb hby d17_23) rfl (l' := #[rv a1, iv 2, iv 3, rv b1, iv 1]) rfl k) ?_
  refine Go.st (f' := (mkF m 29 #[rv a1, iv 2, iv 3, rv b1, iv 2] [])) (fun _ k => XS.iinc X7.here hx rfl (hb hby d17_26) rfl (l' := #[rv a1, iv 2, iv 3, rv b1, iv 2]) rfl k) ?_
  refine Go.st (f' := (mkF m 8 #[rv a1, iv 2, iv 3, rv b1, iv 2] [])) (fun _ k => XS.goto X7.here hx rfl (pc0 := 29) (pc' := 8) rfl (hb hby d17_29) (by decide) (by decide) k) ?_
  refine Go.st (f' := (mkF m 10 #[rv a1, iv 2, iv 3, rv b1, iv 2] [(.int 2)])) (fun _ k => XS.iload X7.here hx rfl (hb hby d17_8) rfl k) ?_
  refine Go.st (f' := (mkF m 11 #[rv a1, iv 2, iv 3, rv b1, iv 2] [(.int 3), (.int 2)])) (fun _ k => XS.iloadN X7.here hx rfl (hb hby d17_10) rfl k) ?_
  refine Go.st (f' := (mkF m 14 #[rv a1, iv 2, iv 3, rv b1, iv 2] [])) (fun _ k => XS.icmpNo X7.here hx rfl (hb hby d17_11) rfl (by decide) k) ?_
  refine Go.st (f' := (mkF m 15 #[rv a1, iv 2, iv 3, rv b1, iv 2] [(.ref b1)])) (fun _ k => XS.aloadN X7.here hx rfl (hb hby d17_14) rfl rfl k) ?_
  refine Go.st (f' := (mkF m 17 #[rv a1, iv 2, iv 3, rv b1, iv 2] [(.int 2), (.ref b1)])) (fun _ k => XS.iload X7.here hx rfl (hb hby d17_15) rfl k) ?_
  refine Go.st (f' := (mkF m 18 #[rv a1, iv 2, iv 3, rv b1, iv 2] [(.ref a1), (.int 2), (.ref b1)])) (fun _ k => XS.aloadN X7.here hx rfl (hb hby d17_17) rfl rfl k) ?_
  refine Go.st (f' := (mkF m 19 #[rv a1, iv 2, iv 3, rv b1, iv 2] [(.int 2), (.ref a1), (.int 2), (.ref b1)])) (fun _ k => XS.iloadN X7.here hx rfl (hb hby d17_18) rfl k) ?_
  have ft9 := (ft6.keep kq7 (ninS ne_a1_b1 nin0))
  obtain ⟨cl8, Ar8, -, S8, -, H8, -⟩ := id ft9
  have hin8 : ¬ ((2 : Int32) < 0 ∨ cl8.slots.size ≤ ((2 : Int32)).toNatClampNeg) := inb_of S8 ⟨by decide, by decide⟩
  have hat8 : cl8.slots[((2 : Int32)).toNatClampNeg]? = some (.int c2) := H8.at hin8 rfl
  refine Go.st (f' := (mkF m 20 #[rv a1, iv 2, iv 3, rv b1, iv 2] [(.int c2), (.int 2), (.ref b1)])) (fun _ k => X7.caload hx (j := (2 : Int32)) (v := (.int c2)) Ar8.1 (State.isArrayOf_alike hZ.alike Ar8.2.1) Ar8.2.2 hin8 hat8 (g := (mkF m 19 #[rv a1, iv 2, iv 3, rv b1, iv 2] [(.int 2), (.ref a1), (.int 2), (.ref b1)])) rfl rfl (hb hby d17_19) _ k) ?_
  obtain ⟨_, _, ⟨T10, L10, kk10, nn10⟩, -, X10, ⟨Lc10, hQ10, lq10, yq10, zz10⟩, st10⟩ := Jvm.LawKit.callS X7 hx (y := (⟨"java/lang/StringUTF16", "putChar", "([BII)V"⟩ : MethodName)) hown (mvT hZ (ww hw 91 rfl)) (mvT hZ (ww hw 92 rfl)) (mvT hZ (ww hw 43 rfl)) (mvT hZ (ww hw 93 rfl)) (by decide) (own_back (W := 0) (up_3_2 l Z a0 hw [] b1 kb1 c2 (nar .byte ((c0 >>> ((0 : Int32) &&& 31)).toInt8.toInt32)) (nar .byte ((c0 >>> ((8 : Int32) &&& 31)).toInt8.toInt32)) (nar .byte ((c1 >>> ((0 : Int32) &&& 31)).toInt8.toInt32)) (nar .byte ((c1 >>> ((8 : Int32) &&& 31)).toInt8.toInt32)) (0 : Int32) (0 : Int32) i_COMPACT_STRINGS v_SIOOBE_FORMATTER T7.heap n0 O7 g_b1 vq7 WW) hZ (ww hw 93 rfl) (ww hw 43 rfl) (by decide) (by decide)) (g := (mkF m 20 #[rv a1, iv 2, iv 3, rv b1, iv 2] [(.int c2), (.int 2), (.ref b1)])) rfl (by rw [hml]; rfl) (argsL := [(.ref b1), (.int (2 : Int32)), (.int c2)]) (rest := []) (lenOf pd___BII_V rfl) rfl (by show 2 * 0 + _ ≤ _; exact Nat.le_of_eq rfl) (hb hby d17_20) (fun _ _ => ⟨rfl, rfl, (by decide : 1 + 0 ≤ _), (by decide : 6 + 0 ≤ _)⟩)
  dsimp only [Pt.U, Pt.locs, Pt.cells, Pt.slots] at X10 lq10 yq10 zz10 st10 hQ10
  subst lq10 yq10 zz10
  obtain ⟨rfl, Nq10, kq10, vq10⟩ := hQ10
  have N10 := Fr.app N7 Nq10
  have O10 : Old Z n0 T10.heap := O7.keep kq10 (allS g_b1 all0)
  have K10 : Keep h0 T10.heap [] := K7.trans kq10 (allS (Or.inr sz_b1) all0)
  refine Go.st (f' := (mkF m 23 #[rv a1, iv 2, iv 3, rv b1, iv 2] [])) (fun _ k => st10 _ k) ?_
  refine Go.st (f' := (mkF m 26 #[rv a1, iv 3, iv 3, rv b1, iv 2] [])) (fun _ k => XS.iinc X10.here hx rfl (hb hby d17_23) rfl (l' := #[rv a1, iv 3, iv 3, rv b1, iv 2]) rfl k) ?_
  refine Go.st (f' := (mkF m 29 #[rv a1, iv 3, iv 3, rv b1, iv 3] [])) (fun _ k => XS.iinc X10.here hx rfl (hb hby d17_26) rfl (l' := #[rv a1, iv 3, iv 3, rv b1, iv 3]) rfl k) ?_
  refine Go.st (f' := (mkF m 8 #[rv a1, iv 3, iv 3, rv b1, iv 3] [])) (fun _ k => XS.goto X10.here hx rfl (pc0 := 29) (pc' := 8) rfl (hb hby d17_29) (by decide) (by decide) k) ?_
  refine Go.st (f' := (mkF m 10 #[rv a1, iv 3, iv 3, rv b1, iv 3] [(.int 3)])) (fun _ k => XS.iload X10.here hx rfl (hb hby d17_8) rfl k) ?_
  refine Go.st (f' := (mkF m 11 #[rv a1, iv 3, iv 3, rv b1, iv 3] [(.int 3), (.int 3)])) (fun _ k => XS.iloadN X10.here hx rfl (hb hby d17_10) rfl k) ?_
  refine Go.st (f' := (mkF m 32 #[rv a1, iv 3, iv 3, rv b1, iv 3] [])) (fun _ k => XS.icmpYes X10.here hx rfl (pc0 := 11) (pc' := 32) rfl (hb hby d17_11) rfl (by decide) (by decide) (by decide) k) ?_
  refine Go.st (f' := (mkF m 33 #[rv a1, iv 3, iv 3, rv b1, iv 3] [(.ref b1)])) (fun _ k => XS.aloadN X10.here hx rfl (hb hby d17_32) rfl rfl k) ?_
  refine Go.retV X10 hlk hx (t := (.array .byte)) hret rfl (Or.inr (Or.inr (Or.inr (Or.inr ⟨rfl, rfl, rfl⟩)))) (hb hby d17_33) rfl ?_ (by decide) (by decide)
  exact ⟨b1, kb1, rfl, N10, sz_b1, K10, vq10⟩
theorem d9_0 : decode jdk_52_method_15_code 0 = .ok (.iload_n 1, 1) := by decide +kernel
theorem d9_1 : decode jdk_52_method_15_code 1 = .ok (.aload_n 0, 1) := by decide +kernel
theorem d9_2 : decode jdk_52_method_15_code 2 = .ok (.arraylength, 1) := by decide +kernel
theorem d9_3 : decode jdk_52_method_15_code 3 = .ok (.isub, 1) := by decide +kernel
theorem d9_4 : decode jdk_52_method_15_code 4 = .ok (.bipush 31, 2) := by decide +kernel
theorem d9_6 : decode jdk_52_method_15_code 6 = .ok (.iushr, 1) := by decide +kernel
theorem d9_7 : decode jdk_52_method_15_code 7 = .ok (.i2b, 1) := by decide +kernel
theorem d9_8 : decode jdk_52_method_15_code 8 = .ok (.ireturn, 1) := by decide +kernel
set_option maxRecDepth 65536 in
set_option maxHeartbeats 40000000 in
theorem uc_1_1 (l : Launch) (Z : State) (a0 : Array Value) (hw : ∀ d ∈ tables_1, d.before a0 Z = true) (ws : List Jvm.Cond) (a1 : Addr) (k1 : ClassId) (x0 : Int32) (h0 : Heap) (n0 : Nat) (O0 : Old Z n0 h0) (V_a1 : Arv Z h0 a1 k1 .byte (1 : Int32) [(.int x0)] (.int 0)) :
    Con l Z (⟨"java/lang/StringUTF16", "coderFromArrayLen", "([BI)B"⟩ : MethodName) jdk_52_method_15_code 2 (some .byte) ws ({ frames := 0, cells := 0, slots := 0, locals := 0 } : Room) #[(.ref a1), (.int 1)] h0 (fun v h L => v = some (.int 0) ∧ Fr n0 L ∧ h = h0) := by
  refine own_body (plainFor_of_name pn_java_lang_StringUTF16) ?_
  intro p e s m below meth c s₁ hx hby hml hZ hown hnm hlk hret X0 e0
  have N0 := Fr.nil n0
  refine Go.st (T' := s₁) (f' := (mkF m 0 #[rv a1, iv 1] [])) (fun _ k => castTop (by first | (simp [entryFrame, mkF, argsToLocals, Value.category]; done) | rfl) k) ?_
  have lt_a1 := V_a1.lt
  refine Go.st (f' := (mkF m 1 #[rv a1, iv 1] [(.int 1)])) (fun _ k => XS.iloadN X0.here hx rfl (hb hby d9_0) rfl k) ?_
  refine Go.st (f' := (mkF m 2 #[rv a1, iv 1] [(.ref a1), (.int 1)])) (fun _ k => XS.aloadN X0.here hx rfl (hb hby d9_1) rfl rfl k) ?_
  obtain ⟨cl1, Ar1, -, S1, Nx1, -, -⟩ := id V_a1
  refine Go.st (T' := s₁) (f' := (mkF m 3 #[rv a1, iv 1] [(.int 1), (.int 1)])) (fun _ k => X0.arraylength hx (by rw [e0]; exact Ar1.1) (State.isArrayOf_alike hZ.alike Ar1.2.1) (g := (mkF m 2 #[rv a1, iv 1] [(.ref a1), (.int 1)])) rfl rfl (hb hby d9_2) _ (by rw [len_of S1 Nx1]; exact k)) ?_
  refine Go.st (f' := (mkF m 4 #[rv a1, iv 1] [(.int 0)])) (fun _ k => XS.isub X0.here hx rfl (hb hby d9_3) rfl k) ?_
  refine Go.st (f' := (mkF m 6 #[rv a1, iv 1] [(.int 31), (.int 0)])) (fun _ k => XS.bipush X0.here hx rfl (hb hby d9_4) k) ?_
  refine Go.st (f' := (mkF m 7 #[rv a1, iv 1] [(.int 0)])) (fun _ k => XS.iushr X0.here hx rfl (hb hby d9_6) rfl k) ?_
  refine Go.st (f' := (mkF m 8 #[rv a1, iv 1] [(.int 0)])) (fun _ k => XS.i2b X0.here hx rfl (hb hby d9_7) rfl k) ?_
  refine Go.retB X0 hlk hx (t := .byte) hret (by simp) (hb hby d9_8) e0 ?_ (by decide) (by decide)
  exact ⟨rfl, N0, rfl⟩
set_option maxRecDepth 65536 in
set_option maxHeartbeats 40000000 in
theorem uc_1_2 (l : Launch) (Z : State) (a0 : Array Value) (hw : ∀ d ∈ tables_1, d.before a0 Z = true) (ws : List Jvm.Cond) (a1 : Addr) (k1 : ClassId) (x0 : Int32) (x1 : Int32) (h0 : Heap) (n0 : Nat) (O0 : Old Z n0 h0) (V_a1 : Arv Z h0 a1 k1 .byte (2 : Int32) [(.int x0), (.int x1)] (.int 0)) :
    Con l Z (⟨"java/lang/StringUTF16", "coderFromArrayLen", "([BI)B"⟩ : MethodName) jdk_52_method_15_code 2 (some .byte) ws ({ frames := 0, cells := 0, slots := 0, locals := 0 } : Room) #[(.ref a1), (.int 1)] h0 (fun v h L => v = some (.int 1) ∧ Fr n0 L ∧ h = h0) := by
  refine own_body (plainFor_of_name pn_java_lang_StringUTF16) ?_
  intro p e s m below meth c s₁ hx hby hml hZ hown hnm hlk hret X0 e0
  have N0 := Fr.nil n0
  refine Go.st (T' := s₁) (f' := (mkF m 0 #[rv a1, iv 1] [])) (fun _ k => castTop (by first | (simp [entryFrame, mkF, argsToLocals, Value.category]; done) | rfl) k) ?_
  have lt_a1 := V_a1.lt
  refine Go.st (f' := (mkF m 1 #[rv a1, iv 1] [(.int 1)])) (fun _ k => XS.iloadN X0.here hx rfl (hb hby d9_0) rfl k) ?_
  refine Go.st (f' := (mkF m 2 #[rv a1, iv 1] [(.ref a1), (.int 1)])) (fun _ k => XS.aloadN X0.here hx rfl (hb hby d9_1) rfl rfl k) ?_
  obtain ⟨cl1, Ar1, -, S1, Nx1, -, -⟩ := id V_a1
  refine Go.st (T' := s₁) (f' := (mkF m 3 #[rv a1, iv 1] [(.int 2), (.int 1)])) (fun _ k => X0.arraylength hx (by rw [e0]; exact Ar1.1) (State.isArrayOf_alike hZ.alike Ar1.2.1) (g := (mkF m 2 #[rv a1, iv 1] [(.ref a1), (.int 1)])) rfl rfl (hb hby d9_2) _ (by rw [len_of S1 Nx1]; exact k)) ?_
  refine Go.st (f' := (mkF m 4 #[rv a1, iv 1] [(.int (-1))])) (fun _ k => XS.isub X0.here hx rfl (hb hby d9_3) rfl k) ?_
  refine Go.st (f' := (mkF m 6 #[rv a1, iv 1] [(.int 31), (.int (-1))])) (fun _ k => XS.bipush X0.here hx rfl (hb hby d9_4) k) ?_
  refine Go.st (f' := (mkF m 7 #[rv a1, iv 1] [(.int 1)])) (fun _ k => XS.iushr X0.here hx rfl (hb hby d9_6) rfl k) ?_
  refine Go.st (f' := (mkF m 8 #[rv a1, iv 1] [(.int 1)])) (fun _ k => XS.i2b X0.here hx rfl (hb hby d9_7) rfl k) ?_
  refine Go.retB X0 hlk hx (t := .byte) hret (by simp) (hb hby d9_8) e0 ?_ (by decide) (by decide)
  exact ⟨rfl, N0, rfl⟩
theorem d8_0 : decode jdk_52_method_21_code 0 = .ok (.iconst 0, 1) := by decide +kernel
theorem d8_1 : decode jdk_52_method_21_code 1 = .ok (.istore 5, 2) := by decide +kernel
theorem d8_3 : decode jdk_52_method_21_code 3 = .ok (.iload 5, 2) := by decide +kernel
theorem d8_5 : decode jdk_52_method_21_code 5 = .ok (.iload 4, 2) := by decide +kernel
theorem d8_7 : decode jdk_52_method_21_code 7 = .ok (.if_icmp .ge 37, 3) := by decide +kernel
theorem d8_10 : decode jdk_52_method_21_code 10 = .ok (.aload_n 0, 1) := by decide +kernel
theorem d8_11 : decode jdk_52_method_21_code 11 = .ok (.iload_n 1, 1) := by decide +kernel
theorem d8_12 : decode jdk_52_method_21_code 12 = .ok (.caload, 1) := by decide +kernel
theorem d8_13 : decode jdk_52_method_21_code 13 = .ok (.istore 6, 2) := by decide +kernel
theorem d8_15 : decode jdk_52_method_21_code 15 = .ok (.iload 6, 2) := by decide +kernel
theorem d8_17 : decode jdk_52_method_21_code 17 = .ok (.sipush 255, 3) := by decide +kernel
theorem d8_20 : decode jdk_52_method_21_code 20 = .ok (.if_icmp .le 6, 3) := by decide +kernel
theorem d8_23 : decode jdk_52_method_21_code 23 = .ok (.iload 5, 2) := by decide +kernel
theorem d8_25 : decode jdk_52_method_21_code 25 = .ok (.ireturn, 1) := by decide +kernel
set_option maxRecDepth 65536 in
set_option maxHeartbeats 40000000 in
theorem u5_1_0 (l : Launch) (Z : State) (a0 : Array Value) (hw : ∀ d ∈ tables_1, d.before a0 Z = true) (ws : List Jvm.Cond) (a2 : Addr) (k2 : ClassId) (a1 : Addr) (k1 : ClassId) (c0 : Int32) (h0 : Heap) (n0 : Nat) (O0 : Old Z n0 h0) (hc_c0 : (255 : Int32) < c0) (hk_c0 : 0 ≤ c0.toInt ∧ c0.toInt < 65536) (ne12 : a1 ≠ a2) (g_a2 : n0 ≤ a2) (V_a1 : Arv Z h0 a1 k1 .char (1 : Int32) [(.int c0)] (.int 0)) (V_a2 : Arv Z h0 a2 k2 .byte (1 : Int32) [(.int 0)] (.int 0)) :
    Con l Z (⟨"java/lang/StringUTF16", "compress", "([CI[BII)I"⟩ : MethodName) jdk_52_method_21_code 7 (some .int) ws ({ frames := 0, cells := 0, slots := 0, locals := 0 } : Room) #[(.ref a1), (.int 0), (.ref a2), (.int 0), (.int 1)] h0 (fun v h L => v = some (.int 0) ∧ Fr n0 L ∧ Keep h0 h [a2] ∧ Arv Z h a2 k2 .byte (1 : Int32) [(.int 0)] (.int 0)) := by
  refine own_body (plainFor_of_name pn_java_lang_StringUTF16) ?_
  intro p e s m below meth c s₁ hx hby hml hZ hown hnm hlk hret X0 e0
  have N0 := Fr.nil n0
  have K0 : Keep h0 h0 [a2] := Keep.refl _ _
  refine Go.st (T' := s₁) (f' := (mkF m 0 #[rv a1, iv 0, rv a2, iv 0, iv 1, .unset, .unset] [])) (fun _ k => castTop (by first | (simp [entryFrame, mkF, argsToLocals, Value.category]; done) | rfl) k) ?_
  have lt_a1 := V_a1.lt
  have lt_a2 := V_a2.lt
  refine Go.st (f' := (mkF m 1 #[rv a1, iv 0, rv a2, iv 0, iv 1, .unset, .unset] [(.int 0)])) (fun _ k => XS.iconst X0.here hx rfl (hb hby d8_0) k) ?_
  refine Go.st (f' := (mkF m 3 #[rv a1, iv 0, rv a2, iv 0, iv 1, iv 0, .unset] [])) (fun _ k => XS.istore X0.here hx rfl (hb hby d8_1) rfl (l' := #[rv a1, iv 0, rv a2, iv 0, iv 1, iv 0, .unset]) rfl k) ?_
  refine Go.st (f' := (mkF m 5 #[rv a1, iv 0, rv a2, iv 0, iv 1, iv 0, .unset] [(.int 0)])) (fun _ k => XS.iload X0.here hx rfl (hb hby d8_3) rfl k) ?_
  refine Go.st (f' := (mkF m 7 #[rv a1, iv 0, rv a2, iv 0, iv 1, iv 0, .unset] [(.int 1), (.int 0)])) (fun _ k => XS.iload X0.here hx rfl (hb hby d8_5) rfl k) ?_
  refine Go.st (f' := (mkF m 10 #[rv a1, iv 0, rv a2, iv 0, iv 1, iv 0, .unset] [])) (fun _ k => XS.icmpNo X0.here hx rfl (hb hby d8_7) rfl (by decide) k) ?_
  refine Go.st (f' := (mkF m 11 #[rv a1, iv 0, rv a2, iv 0, iv 1, iv 0, .unset] [(.ref a1)])) (fun _ k => XS.aloadN X0.here hx rfl (hb hby d8_10) rfl rfl k) ?_
  refine Go.st (f' := (mkF m 12 #[rv a1, iv 0, rv a2, iv 0, iv 1, iv 0, .unset] [(.int 0), (.ref a1)])) (fun _ k => XS.iloadN X0.here hx rfl (hb hby d8_11) rfl k) ?_
  obtain ⟨cl1, Ar1, -, S1, -, H1, -⟩ := id V_a1
  have hin1 : ¬ ((0 : Int32) < 0 ∨ cl1.slots.size ≤ ((0 : Int32)).toNatClampNeg) := inb_of S1 ⟨by decide, by decide⟩
  have hat1 : cl1.slots[((0 : Int32)).toNatClampNeg]? = some (.int c0) := H1.at hin1 rfl
  refine Go.st (f' := (mkF m 13 #[rv a1, iv 0, rv a2, iv 0, iv 1, iv 0, .unset] [(.int c0)])) (fun _ k => X0.caload hx (j := (0 : Int32)) (v := (.int c0)) (by rw [e0]; exact Ar1.1) (State.isArrayOf_alike hZ.alike Ar1.2.1) Ar1.2.2 hin1 hat1 (g := (mkF m 12 #[rv a1, iv 0, rv a2, iv 0, iv 1, iv 0, .unset] [(.int 0), (.ref a1)])) rfl rfl (hb hby d8_12) _ k) ?_
  refine Go.st (f' := (mkF m 15 #[rv a1, iv 0, rv a2, iv 0, iv 1, iv 0, iv c0] [])) (fun _ k => XS.istore X0.here hx rfl (hb hby d8_13) rfl (l' := #[rv a1, iv 0, rv a2, iv 0, iv 1, iv 0, iv c0]) rfl k) ?_
  refine Go.st (f' := (mkF m 17 #[rv a1, iv 0, rv a2, iv 0, iv 1, iv 0, iv c0] [(.int c0)])) (fun _ k => XS.iload X0.here hx rfl (hb hby d8_15) rfl k) ?_
  refine Go.st (f' := (mkF m 20 #[rv a1, iv 0, rv a2, iv 0, iv 1, iv 0, iv c0] [(.int 255), (.int c0)])) (fun _ k => XS.sipush X0.here hx rfl (hb hby d8_17) k) ?_
  refine Go.st (f' := (mkF m 23 #[rv a1, iv 0, rv a2, iv 0, iv 1, iv 0, iv c0] [])) (fun _ k => XS.icmpNo X0.here hx rfl (hb hby d8_20) rfl (tlt hc_c0).2.2.2 k) ?_
  refine Go.st (f' := (mkF m 25 #[rv a1, iv 0, rv a2, iv 0, iv 1, iv 0, iv c0] [(.int 0)])) (fun _ k => XS.iload X0.here hx rfl (hb hby d8_23) rfl k) ?_
  refine Go.retV X0 hlk hx (t := .int) hret rfl (Or.inl ⟨rfl, Or.inl rfl, _, rfl⟩) (hb hby d8_25) e0 ?_ (by decide) (by decide)
  exact ⟨rfl, N0, K0, V_a2⟩
theorem d8_26 : decode jdk_52_method_21_code 26 = .ok (.aload_n 2, 1) := by decide +kernel
theorem d8_27 : decode jdk_52_method_21_code 27 = .ok (.iload_n 3, 1) := by decide +kernel
theorem d8_28 : decode jdk_52_method_21_code 28 = .ok (.iload 6, 2) := by decide +kernel
theorem d8_30 : decode jdk_52_method_21_code 30 = .ok (.i2b, 1) := by decide +kernel
theorem d8_31 : decode jdk_52_method_21_code 31 = .ok (.bastore, 1) := by decide +kernel
theorem d8_32 : decode jdk_52_method_21_code 32 = .ok (.iinc 1 1, 3) := by decide +kernel
theorem d8_35 : decode jdk_52_method_21_code 35 = .ok (.iinc 3 1, 3) := by decide +kernel
theorem d8_38 : decode jdk_52_method_21_code 38 = .ok (.iinc 5 1, 3) := by decide +kernel
theorem d8_41 : decode jdk_52_method_21_code 41 = .ok (.goto (-38), 3) := by decide +kernel
theorem d8_44 : decode jdk_52_method_21_code 44 = .ok (.iload 4, 2) := by decide +kernel
theorem d8_46 : decode jdk_52_method_21_code 46 = .ok (.ireturn, 1) := by decide +kernel
set_option maxRecDepth 65536 in
set_option maxHeartbeats 40000000 in
theorem u5_1_1 (l : Launch) (Z : State) (a0 : Array Value) (hw : ∀ d ∈ tables_1, d.before a0 Z = true) (ws : List Jvm.Cond) (a2 : Addr) (k2 : ClassId) (a1 : Addr) (k1 : ClassId) (c0 : Int32) (h0 : Heap) (n0 : Nat) (O0 : Old Z n0 h0) (hc_c0 : ¬ (255 : Int32) < c0) (ne12 : a1 ≠ a2) (g_a2 : n0 ≤ a2) (V_a1 : Arv Z h0 a1 k1 .char (1 : Int32) [(.int c0)] (.int 0)) (V_a2 : Arv Z h0 a2 k2 .byte (1 : Int32) [(.int 0)] (.int 0)) :
    Con l Z (⟨"java/lang/StringUTF16", "compress", "([CI[BII)I"⟩ : MethodName) jdk_52_method_21_code 7 (some .int) ws ({ frames := 0, cells := 0, slots := 0, locals := 0 } : Room) #[(.ref a1), (.int 0), (.ref a2), (.int 0), (.int 1)] h0 (fun v h L => v = some (.int 1) ∧ Fr n0 L ∧ Keep h0 h [a2] ∧ Arv Z h a2 k2 .byte (1 : Int32) [(.int (nar .byte (c0.toInt8.toInt32)))] (.int 0)) := by
  refine own_body (plainFor_of_name pn_java_lang_StringUTF16) ?_
  intro p e s m below meth c s₁ hx hby hml hZ hown hnm hlk hret X0 e0
  have N0 := Fr.nil n0
  have K0 : Keep h0 h0 [a2] := Keep.refl _ _
  refine Go.st (T' := s₁) (f' := (mkF m 0 #[rv a1, iv 0, rv a2, iv 0, iv 1, .unset, .unset] [])) (fun _ k => castTop (by first | (simp [entryFrame, mkF, argsToLocals, Value.category]; done) | rfl) k) ?_
  have lt_a1 := V_a1.lt
  have lt_a2 := V_a2.lt
  refine Go.st (f' := (mkF m 1 #[rv a1, iv 0, rv a2, iv 0, iv 1, .unset, .unset] [(.int 0)])) (fun _ k => XS.iconst X0.here hx rfl (hb hby d8_0) k) ?_
  refine Go.st (f' := (mkF m 3 #[rv a1, iv 0, rv a2, iv 0, iv 1, iv 0, .unset] [])) (fun _ k => XS.istore X0.here hx rfl (hb hby d8_1) rfl (l' := #[rv a1, iv 0, rv a2, iv 0, iv 1, iv 0, .unset]) rfl k) ?_
  refine Go.st (f' := (mkF m 5 #[rv a1, iv 0, rv a2, iv 0, iv 1, iv 0, .unset] [(.int 0)])) (fun _ k => XS.iload X0.here hx rfl (hb hby d8_3) rfl k) ?_
  refine Go.st (f' := (mkF m 7 #[rv a1, iv 0, rv a2, iv 0, iv 1, iv 0, .unset] [(.int 1), (.int 0)])) (fun _ k => XS.iload X0.here hx rfl (hb hby d8_5) rfl k) ?_
  refine Go.st (f' := (mkF m 10 #[rv a1, iv 0, rv a2, iv 0, iv 1, iv 0, .unset] [])) (fun _ k => XS.icmpNo X0.here hx rfl (hb hby d8_7) rfl (by decide) k) ?_
  refine Go.st (f' := (mkF m 11 #[rv a1, iv 0, rv a2, iv 0, iv 1, iv 0, .unset] [(.ref a1)])) (fun _ k => XS.aloadN X0.here hx rfl (hb hby d8_10) rfl rfl k) ?_
  refine Go.st (f' := (mkF m 12 #[rv a1, iv 0, rv a2, iv 0, iv 1, iv 0, .unset] [(.int 0), (.ref a1)])) (fun _ k => XS.iloadN X0.here hx rfl (hb hby d8_11) rfl k) ?_
  obtain ⟨cl1, Ar1, -, S1, -, H1, -⟩ := id V_a1
  have hin1 : ¬ ((0 : Int32) < 0 ∨ cl1.slots.size ≤ ((0 : Int32)).toNatClampNeg) := inb_of S1 ⟨by decide, by decide⟩
  have hat1 : cl1.slots[((0 : Int32)).toNatClampNeg]? = some (.int c0) := H1.at hin1 rfl
  refine Go.st (f' := (mkF m 13 #[rv a1, iv 0, rv a2, iv 0, iv 1, iv 0, .unset] [(.int c0)])) (fun _ k => X0.caload hx (j := (0 : Int32)) (v := (.int c0)) (by rw [e0]; exact Ar1.1) (State.isArrayOf_alike hZ.alike Ar1.2.1) Ar1.2.2 hin1 hat1 (g := (mkF m 12 #[rv a1, iv 0, rv a2, iv 0, iv 1, iv 0, .unset] [(.int 0), (.ref a1)])) rfl rfl (hb hby d8_12) _ k) ?_
  refine Go.st (f' := (mkF m 15 #[rv a1, iv 0, rv a2, iv 0, iv 1, iv 0, iv c0] [])) (fun _ k => XS.istore X0.here hx rfl (hb hby d8_13) rfl (l' := #[rv a1, iv 0, rv a2, iv 0, iv 1, iv 0, iv c0]) rfl k) ?_
  refine Go.st (f' := (mkF m 17 #[rv a1, iv 0, rv a2, iv 0, iv 1, iv 0, iv c0] [(.int c0)])) (fun _ k => XS.iload X0.here hx rfl (hb hby d8_15) rfl k) ?_
  refine Go.st (f' := (mkF m 20 #[rv a1, iv 0, rv a2, iv 0, iv 1, iv 0, iv c0] [(.int 255), (.int c0)])) (fun _ k => XS.sipush X0.here hx rfl (hb hby d8_17) k) ?_
  refine Go.st (f' := (mkF m 26 #[rv a1, iv 0, rv a2, iv 0, iv 1, iv 0, iv c0] [])) (fun _ k => XS.icmpYes X0.here hx rfl (pc0 := 20) (pc' := 26) rfl (hb hby d8_20) rfl (flt hc_c0).2.2.2 (by decide) (by decide) k) ?_
  refine Go.st (f' := (mkF m 27 #[rv a1, iv 0, rv a2, iv 0, iv 1, iv 0, iv c0] [(.ref a2)])) (fun _ k => XS.aloadN X0.here hx rfl (hb hby d8_26) rfl rfl k) ?_
  refine Go.st (f' := (mkF m 28 #[rv a1, iv 0, rv a2, iv 0, iv 1, iv 0, iv c0] [(.int 0), (.ref a2)])) (fun _ k => XS.iloadN X0.here hx rfl (hb hby d8_27) rfl k) ?_
  refine Go.st (f' := (mkF m 30 #[rv a1, iv 0, rv a2, iv 0, iv 1, iv 0, iv c0] [(.int c0), (.int 0), (.ref a2)])) (fun _ k => XS.iload X0.here hx rfl (hb hby d8_28) rfl k) ?_
  refine Go.st (f' := (mkF m 31 #[rv a1, iv 0, rv a2, iv 0, iv 1, iv 0, iv c0] [(.int (c0.toInt8.toInt32)), (.int 0), (.ref a2)])) (fun _ k => XS.i2b X0.here hx rfl (hb hby d8_30) rfl k) ?_
  obtain ⟨cl2, Ar2, q2, S2, Nx2, H2, G2⟩ := id V_a2
  have hin2 : ¬ ((0 : Int32) < 0 ∨ cl2.slots.size ≤ ((0 : Int32)).toNatClampNeg) := inb_of S2 ⟨by decide, by decide⟩
  obtain ⟨T3, h3, X3, e3, W3, st3⟩ := stB X0 hx hZ e0 Ar2 (j := (0 : Int32)) hin2 (g := (mkF m 31 #[rv a1, iv 0, rv a2, iv 0, iv 1, iv 0, iv c0] [(.int (c0.toInt8.toInt32)), (.int 0), (.ref a2)])) rfl rfl (hb hby d8_31)
  have V_a2_3 : Arv Z h3 a2 k2 .byte (1 : Int32) [(.int (nar .byte (c0.toInt8.toInt32)))] (.int (0 : Int32)) := Arv.set Ar2 q2 S2 Nx2 H2 G2 (fits_nar_byte _) W3 0 rfl (Nat.le_of_ble_eq_true rfl)
  have N3 := Fr.snoc X3 N0 g_a2
  have O3 : Old Z n0 h3 := O0.wr W3 g_a2
  have K3 : Keep h0 h3 [a2] := K0.wr W3 (Or.inl (List.mem_of_getElem? (i := 0) rfl))
  refine Go.st (f' := (mkF m 32 #[rv a1, iv 0, rv a2, iv 0, iv 1, iv 0, iv c0] [])) (fun _ k => st3 _ k) ?_
  refine Go.st (f' := (mkF m 35 #[rv a1, iv 1, rv a2, iv 0, iv 1, iv 0, iv c0] [])) (fun _ k => XS.iinc X3.here hx rfl (hb hby d8_32) rfl (l' := #[rv a1, iv 1, rv a2, iv 0, iv 1, iv 0, iv c0]) rfl k) ?_
  refine Go.st (f' := (mkF m 38 #[rv a1, iv 1, rv a2, iv 1, iv 1, iv 0, iv c0] [])) (fun _ k => XS.iinc X3.here hx rfl (hb hby d8_35) rfl (l' := #[rv a1, iv 1, rv a2, iv 1, iv 1, iv 0, iv c0]) rfl k) ?_
  refine Go.st (f' := (mkF m 41 #[rv a1, iv 1, rv a2, iv 1, iv 1, iv 1, iv c0] [])) (fun _ k => XS.iinc X3.here hx rfl (hb hby d8_38) rfl (l' := #[rv a1, iv 1, rv a2, iv 1, iv 1, iv 1, iv c0]) rfl k) ?_
  refine Go.st (f' := (mkF m 3 #[rv a1, iv 1, rv a2, iv 1, iv 1, iv 1, iv c0] [])) (fun _ k => XS.goto X3.here hx rfl (pc0 := 41) (pc' := 3) rfl (hb hby d8_41) (by decide) (by decide) k) ?_
  refine Go.st (f' := (mkF m 5 #[rv a1, iv 1, rv a2, iv 1, iv 1, iv 1, iv c0] [(.int 1)])) (fun _ k => XS.iload X3.here hx rfl (hb hby d8_3) rfl k) ?_
  refine Go.st (f' := (mkF m 7 #[rv a1, iv 1, rv a2, iv 1, iv 1, iv 1, iv c0] [(.int 1), (.int 1)])) (fun _ k => XS.iload X3.here hx rfl (hb hby d8_5) rfl k) ?_
  refine Go.st (f' := (mkF m 44 #[rv a1, iv 1, rv a2, iv 1, iv 1, iv 1, iv c0] [])) (fun _ k => XS.icmpYes X3.here hx rfl (pc0 := 7) (pc' := 44) rfl (hb hby d8_7) rfl (by decide) (by decide) (by decide) k) ?_
  refine Go.st (f' := (mkF m 46 #[rv a1, iv 1, rv a2, iv 1, iv 1, iv 1, iv c0] [(.int 1)])) (fun _ k => XS.iload X3.here hx rfl (hb hby d8_44) rfl k) ?_
  refine Go.retV X3 hlk hx (t := .int) hret rfl (Or.inl ⟨rfl, Or.inl rfl, _, rfl⟩) (hb hby d8_46) e3 ?_ (by decide) (by decide)
  exact ⟨rfl, N3, K3, V_a2_3⟩
theorem d7_0 : decode jdk_52_method_16_code 0 = .ok (.iload_n 2, 1) := by decide +kernel
theorem d7_1 : decode jdk_52_method_16_code 1 = .ok (.newarray .byte, 2) := by decide +kernel
theorem d7_3 : decode jdk_52_method_16_code 3 = .ok (.astore_n 3, 1) := by decide +kernel
theorem d7_4 : decode jdk_52_method_16_code 4 = .ok (.aload_n 0, 1) := by decide +kernel
theorem d7_5 : decode jdk_52_method_16_code 5 = .ok (.iload_n 1, 1) := by decide +kernel
theorem d7_6 : decode jdk_52_method_16_code 6 = .ok (.aload_n 3, 1) := by decide +kernel
theorem d7_7 : decode jdk_52_method_16_code 7 = .ok (.iconst 0, 1) := by decide +kernel
theorem d7_8 : decode jdk_52_method_16_code 8 = .ok (.iload_n 2, 1) := by decide +kernel
theorem d7_9 : decode jdk_52_method_16_code 9 = .ok (.invokestatic 115, 3) := by decide +kernel
theorem pd___CI_BII_I : parseMethodDescriptor "([CI[BII)I" = some ⟨[(.array .char), .int, (.array .byte), .int, .int], some .int⟩ := by decide +kernel
theorem d7_12 : decode jdk_52_method_16_code 12 = .ok (.istore 4, 2) := by decide +kernel
theorem d7_14 : decode jdk_52_method_16_code 14 = .ok (.iload 4, 2) := by decide +kernel
theorem d7_16 : decode jdk_52_method_16_code 16 = .ok (.iload_n 2, 1) := by decide +kernel
theorem d7_17 : decode jdk_52_method_16_code 17 = .ok (.if_icmp .eq 40, 3) := by decide +kernel
theorem d7_57 : decode jdk_52_method_16_code 57 = .ok (.aload_n 3, 1) := by decide +kernel
theorem d7_58 : decode jdk_52_method_16_code 58 = .ok (.areturn, 1) := by decide +kernel
set_option maxRecDepth 65536 in
set_option maxHeartbeats 40000000 in
theorem u3_1_1 (l : Launch) (Z : State) (a0 : Array Value) (hw : ∀ d ∈ tables_1, d.before a0 Z = true) (ws : List Jvm.Cond) (a1 : Addr) (k1 : ClassId) (c0 : Int32) (i_COMPACT_STRINGS : Int32) (v_SIOOBE_FORMATTER : Value) (h0 : Heap) (n0 : Nat) (O0 : Old Z n0 h0) (hc_c0 : ¬ (255 : Int32) < c0) (V_a1 : Arv Z h0 a1 k1 .char (1 : Int32) [(.int c0)] (.int 0)) (WW : World1 Z i_COMPACT_STRINGS v_SIOOBE_FORMATTER) :
    Con l Z (⟨"java/lang/StringUTF16", "compress", "([CII)[B"⟩ : MethodName) jdk_52_method_16_code 6 (some (.array .byte)) ws ({ frames := 1, cells := 1, slots := 1, locals := 18 } : Room) #[(.ref a1), (.int 0), (.int 1)] h0 (fun v h L => ∃ (b : Addr) (kb : ClassId), v = some (.ref b) ∧ Fr n0 L ∧ h0.size ≤ b ∧ Keep h0 h [] ∧ Arv Z h b kb .byte (1 : Int32) [(.int (nar .byte (c0.toInt8.toInt32)))] (.int 0)) := by
  refine own_body (plainFor_of_name pn_java_lang_StringUTF16) ?_
  intro p e s m below meth c s₁ hx hby hml hZ hown hnm hlk hret X0 e0
  have N0 := Fr.nil n0
  have K0 : Keep h0 h0 [] := Keep.refl _ _
  refine Go.st (T' := s₁) (f' := (mkF m 0 #[rv a1, iv 0, iv 1, .unset, .unset, .unset] [])) (fun _ k => castTop (by first | (simp [entryFrame, mkF, argsToLocals, Value.category]; done) | rfl) k) ?_
  have ⟨S_i_COMPACT_STRINGS, nz_i_COMPACT_STRINGS, S_v_SIOOBE_FORMATTER, r_v_SIOOBE_FORMATTER, S_i__assertionsDisabled, S_i_HI_BYTE_SHIFT, S_i_LO_BYTE_SHIFT⟩ := WW
  have lt_a1 := V_a1.lt
  refine Go.st (f' := (mkF m 1 #[rv a1, iv 0, iv 1, .unset, .unset, .unset] [(.int 1)])) (fun _ k => XS.iloadN X0.here hx rfl (hb hby d7_0) rfl k) ?_
  obtain ⟨T1, h1, kc1, X1, e1, E1, A1, st1⟩ := newP X0 hx hZ (ww hw 5 rfl) e0 (g := (mkF m 1 #[rv a1, iv 0, iv 1, .unset, .unset, .unset] [(.int 1)])) rfl (hb hby d7_1) rfl (by decide) (cap := 1) (by decide) (by decide) (by decide) (by decide)
  obtain ⟨b1, g1⟩ : ∃ z, z = h0.size := ⟨_, rfl⟩
  rw [← g1] at A1 st1
  have ne_a1_b1 : a1 ≠ b1 := Nat.ne_of_lt (Nat.lt_of_lt_of_eq lt_a1 g1.symm)
  have g_b1 : n0 ≤ b1 := Nat.le_trans (O0.1 ▸ O0.2.1) (Nat.le_of_eq g1.symm)
  have O1 : Old Z n0 h1 := O0.ext E1
  have sz_b1 : h0.size ≤ b1 := Nat.le_trans K0.1 (Nat.le_of_eq g1.symm)
  have K1 : Keep h0 h1 [] := K0.ext E1
  have V_b1 : Arv Z h1 b1 kc1 .byte (1 : Int32) [(.int (0 : Int32))] (.int (0 : Int32)) := (Arv.new A1 (by decide)).pad (pad_rep [] (.int (0 : Int32)) 1)
  have lt_b1 := V_b1.lt
  refine Go.st (f' := (mkF m 3 #[rv a1, iv 0, iv 1, .unset, .unset, .unset] [(.ref b1)])) (fun _ k => st1 _ k) ?_
  refine Go.st (f' := (mkF m 4 #[rv a1, iv 0, iv 1, rv b1, .unset, .unset] [])) (fun _ k => XS.astoreN X1.here hx rfl (hb hby d7_3) rfl rfl (l' := #[rv a1, iv 0, iv 1, rv b1, .unset, .unset]) rfl k) ?_
  refine Go.st (f' := (mkF m 5 #[rv a1, iv 0, iv 1, rv b1, .unset, .unset] [(.ref a1)])) (fun _ k => XS.aloadN X1.here hx rfl (hb hby d7_4) rfl rfl k) ?_
  refine Go.st (f' := (mkF m 6 #[rv a1, iv 0, iv 1, rv b1, .unset, .unset] [(.int 0), (.ref a1)])) (fun _ k => XS.iloadN X1.here hx rfl (hb hby d7_5) rfl k) ?_
  refine Go.st (f' := (mkF m 7 #[rv a1, iv 0, iv 1, rv b1, .unset, .unset] [(.ref b1), (.int 0), (.ref a1)])) (fun _ k => XS.aloadN X1.here hx rfl (hb hby d7_6) rfl rfl k) ?_
  refine Go.st (f' := (mkF m 8 #[rv a1, iv 0, iv 1, rv b1, .unset, .unset] [(.int 0), (.ref b1), (.int 0), (.ref a1)])) (fun _ k => XS.iconst X1.here hx rfl (hb hby d7_7) k) ?_
  refine Go.st (f' := (mkF m 9 #[rv a1, iv 0, iv 1, rv b1, .unset, .unset] [(.int 1), (.int 0), (.ref b1), (.int 0), (.ref a1)])) (fun _ k => XS.iloadN X1.here hx rfl (hb hby d7_8) rfl k) ?_
  have ft3 := (V_a1.ext E1)
  obtain ⟨_, _, ⟨T2, L2, kk2, nn2⟩, -, X2, ⟨Lc2, hQ2, lq2, yq2, zz2⟩, st2⟩ := Jvm.LawKit.callS X1 hx (y := (⟨"java/lang/StringUTF16", "compress", "([CI[BII)I"⟩ : MethodName)) hown (mvT hZ (ww hw 45 rfl)) (mvT hZ (ww hw 46 rfl)) (mvT hZ (ww hw 43 rfl)) (mvT hZ (ww hw 47 rfl)) (by decide) (own_back (W := 0) (u5_1_1 l Z a0 hw [] b1 kc1 a1 k1 c0 h1 n0 O1 hc_c0 ne_a1_b1 g_b1 ft3 V_b1) hZ (ww hw 47 rfl) (ww hw 43 rfl) (by decide) (by decide)) (g := (mkF m 9 #[rv a1, iv 0, iv 1, rv b1, .unset, .unset] [(.int 1), (.int 0), (.ref b1), (.int 0), (.ref a1)])) rfl (by rw [hml]; rfl) (argsL := [(.ref a1), (.int (0 : Int32)), (.ref b1), (.int (0 : Int32)), (.int (1 : Int32))]) (rest := []) (lenOf pd___CI_BII_I rfl) rfl (by show 2 * 0 + _ ≤ _; exact Nat.le_of_eq rfl) (hb hby d7_9) (fun _ _ => ⟨rfl, e1, (by decide : 1 + 0 ≤ _), (by decide : 1 + 0 ≤ _)⟩)
  dsimp only [Pt.U, Pt.locs, Pt.cells, Pt.slots] at X2 lq2 yq2 zz2 st2 hQ2
  subst lq2 yq2 zz2
  obtain ⟨rfl, Nq2, kq2, vq2⟩ := hQ2
  have N2 := Fr.app N0 Nq2
  have O2 : Old Z n0 T2.heap := O1.keep kq2 (allS g_b1 all0)
  have K2 : Keep h0 T2.heap [] := K1.trans kq2 (allS (Or.inr sz_b1) all0)
  refine Go.st (f' := (mkF m 12 #[rv a1, iv 0, iv 1, rv b1, .unset, .unset] [(.int 1)])) (fun _ k => st2 _ k) ?_
  refine Go.st (f' := (mkF m 14 #[rv a1, iv 0, iv 1, rv b1, iv 1, .unset] [])) (fun _ k => XS.istore X2.here hx rfl (hb hby d7_12) rfl (l' := #[rv a1, iv 0, iv 1, rv b1, iv 1, .unset]) rfl k) ?_
  refine Go.st (f' := (mkF m 16 #[rv a1, iv 0, iv 1, rv b1, iv 1, .unset] [(.int 1)])) (fun _ k => XS.iload X2.here hx rfl (hb hby d7_14) rfl k) ?_
  refine Go.st (f' := (mkF m 17 #[rv a1, iv 0, iv 1, rv b1, iv 1, .unset] [(.int 1), (.int 1)])) (fun _ k => XS.iloadN X2.here hx rfl (hb hby d7_16) rfl k) ?_
  refine Go.st (f' := (mkF m 57 #[rv a1, iv 0, iv 1, rv b1, iv 1, .unset] [])) (fun _ k => XS.icmpYes X2.here hx rfl (pc0 := 17) (pc' := 57) rfl (hb hby d7_17) rfl (by decide) (by decide) (by decide) k) ?_
  refine Go.st (f' := (mkF m 58 #[rv a1, iv 0, iv 1, rv b1, iv 1, .unset] [(.ref b1)])) (fun _ k => XS.aloadN X2.here hx rfl (hb hby d7_57) rfl rfl k) ?_
  refine Go.retV X2 hlk hx (t := (.array .byte)) hret rfl (Or.inr (Or.inr (Or.inr (Or.inr ⟨rfl, rfl, rfl⟩)))) (hb hby d7_58) rfl ?_ (by decide) (by decide)
  exact ⟨b1, kc1, rfl, N2, sz_b1, K2, vq2⟩
theorem pn_java_lang_String : plainName "java/lang/String" = true := by first | (simp [plainName, overriddenIn]; done) | decide +kernel
theorem d2_0 : decode jdk_42_method_149_code 0 = .ok (.aload_n 0, 1) := by decide +kernel
theorem d2_1 : decode jdk_42_method_149_code 1 = .ok (.invokespecial 1, 3) := by decide +kernel
theorem d2_4 : decode jdk_42_method_149_code 4 = .ok (.iload_n 3, 1) := by decide +kernel
theorem d2_5 : decode jdk_42_method_149_code 5 = .ok (.ifCond .ne 22, 3) := by decide +kernel
theorem d2_27 : decode jdk_42_method_149_code 27 = .ok (.getstatic 38, 3) := by decide +kernel
theorem d2_30 : decode jdk_42_method_149_code 30 = .ok (.ifCond .eq 28, 3) := by decide +kernel
theorem d2_33 : decode jdk_42_method_149_code 33 = .ok (.aload_n 1, 1) := by decide +kernel
theorem d2_34 : decode jdk_42_method_149_code 34 = .ok (.iload_n 2, 1) := by decide +kernel
theorem d2_35 : decode jdk_42_method_149_code 35 = .ok (.iload_n 3, 1) := by decide +kernel
theorem d2_36 : decode jdk_42_method_149_code 36 = .ok (.invokestatic 177, 3) := by decide +kernel
theorem pd___CII__B : parseMethodDescriptor "([CII)[B" = some ⟨[(.array .char), .int, .int], some (.array .byte)⟩ := by decide +kernel
theorem d2_39 : decode jdk_42_method_149_code 39 = .ok (.astore 5, 2) := by decide +kernel
theorem d2_41 : decode jdk_42_method_149_code 41 = .ok (.aload_n 0, 1) := by decide +kernel
theorem d2_42 : decode jdk_42_method_149_code 42 = .ok (.aload 5, 2) := by decide +kernel
theorem d2_44 : decode jdk_42_method_149_code 44 = .ok (.iload_n 3, 1) := by decide +kernel
theorem d2_45 : decode jdk_42_method_149_code 45 = .ok (.invokestatic 47, 3) := by decide +kernel
theorem pd___BI_B : parseMethodDescriptor "([BI)B" = some ⟨[(.array .byte), .int], some .byte⟩ := by decide +kernel
theorem d2_48 : decode jdk_42_method_149_code 48 = .ok (.putfield 15, 3) := by decide +kernel
theorem d2_51 : decode jdk_42_method_149_code 51 = .ok (.aload_n 0, 1) := by decide +kernel
theorem d2_52 : decode jdk_42_method_149_code 52 = .ok (.aload 5, 2) := by decide +kernel
theorem d2_54 : decode jdk_42_method_149_code 54 = .ok (.putfield 9, 3) := by decide +kernel
theorem d2_57 : decode jdk_42_method_149_code 57 = .ok (.return_, 1) := by decide +kernel
set_option maxRecDepth 65536 in
set_option maxHeartbeats 40000000 in
theorem uv_1_1 (l : Launch) (Z : State) (a0 : Array Value) (hw : ∀ d ∈ tables_1, d.before a0 Z = true) (ws : List Jvm.Cond) (a0b : Addr) (a1 : Addr) (k1 : ClassId) (c0 : Int32) (i_COMPACT_STRINGS : Int32) (v_SIOOBE_FORMATTER : Value) (h0 : Heap) (n0 : Nat) (O0 : Old Z n0 h0) (hc_c0 : ¬ (255 : Int32) < c0) (g_a0b : n0 ≤ a0b) (nb1 : a0b ≠ a1) (E_a0b : Exa Z h0 a0b "java/lang/String") (F_a0b_coder : Fld Z h0 a0b "java/lang/String" "coder" "B" (.int 0)) (F_a0b_value : Fld Z h0 a0b "java/lang/String" "value" "[B" .null) (V_a1 : Arv Z h0 a1 k1 .char (1 : Int32) [(.int c0)] (.int 0)) (WW : World1 Z i_COMPACT_STRINGS v_SIOOBE_FORMATTER) :
    Con l Z (⟨"java/lang/String", "<init>", "([CIILjava/lang/Void;)V"⟩ : MethodName) jdk_42_method_149_code 6 none ws ({ frames := 2, cells := 1, slots := 1, locals := 35 } : Room) #[(.ref a0b), (.ref a1), (.int 0), (.int 1), .null] h0 (fun v h L => v = none ∧ Fr n0 L ∧ Keep h0 h [a0b] ∧ Exa Z h a0b "java/lang/String" ∧ Fld Z h a0b "java/lang/String" "coder" "B" (.int 0) ∧ ∃ (t : Addr) (kt : ClassId), h0.size ≤ t ∧ Fld Z h a0b "java/lang/String" "value" "[B" (.ref t) ∧ Arv Z h t kt .byte (1 : Int32) [(.int (nar .byte (c0.toInt8.toInt32)))] (.int 0)) := by
  refine own_body (plainFor_of_name pn_java_lang_String) ?_
  intro p e s m below meth c s₁ hx hby hml hZ hown hnm hlk hret X0 e0
  have N0 := Fr.nil n0
  have K0 : Keep h0 h0 [a0b] := Keep.refl _ _
  refine Go.st (T' := s₁) (f' := (mkF m 0 #[rv a0b, rv a1, iv 0, iv 1, .val .null, .unset] [])) (fun _ k => castTop (by first | (simp [entryFrame, mkF, argsToLocals, Value.category]; done) | rfl) k) ?_
  have ⟨S_i_COMPACT_STRINGS, nz_i_COMPACT_STRINGS, S_v_SIOOBE_FORMATTER, r_v_SIOOBE_FORMATTER, S_i__assertionsDisabled, S_i_HI_BYTE_SHIFT, S_i_LO_BYTE_SHIFT⟩ := WW
  have lt_a0b := E_a0b.lt
  have lt_a1 := V_a1.lt
  refine Go.st (f' := (mkF m 1 #[rv a0b, rv a1, iv 0, iv 1, .val .null, .unset] [(.ref a0b)])) (fun _ k => XS.aloadN X0.here hx rfl (hb hby d2_0) rfl rfl k) ?_
  obtain ⟨T1, X1, e1, st1⟩ := initO X0 hx hZ hown (ww hw 20 rfl) (ww hw 21 rfl) (ww hw 22 rfl) e0 (g := (mkF m 1 #[rv a0b, rv a1, iv 0, iv 1, .val .null, .unset] [(.ref a0b)])) rfl (by rw [hml]; rfl) rfl (hb hby d2_1) (by decide) (W := 0) (by show 2 * 0 + _ ≤ _; exact Nat.le_of_eq rfl) (by decide)
  refine Go.st (f' := (mkF m 4 #[rv a0b, rv a1, iv 0, iv 1, .val .null, .unset] [])) (fun _ k => st1 _ k) ?_
  refine Go.st (f' := (mkF m 5 #[rv a0b, rv a1, iv 0, iv 1, .val .null, .unset] [(.int 1)])) (fun _ k => XS.iloadN X1.here hx rfl (hb hby d2_4) rfl k) ?_
  refine Go.st (f' := (mkF m 27 #[rv a0b, rv a1, iv 0, iv 1, .val .null, .unset] [])) (fun _ k => XS.ifYes X1.here hx rfl (pc0 := 5) (pc' := 27) rfl (hb hby d2_5) rfl (by decide) (by decide) (by decide) k) ?_
  obtain ⟨T2, X2, e2, st2⟩ := getS2 X1 hx hZ hown (host := "") (Or.inl (ww hw 40 rfl)) Via.refl e1 (S_i_COMPACT_STRINGS.ext O0.2) (g := (mkF m 27 #[rv a0b, rv a1, iv 0, iv 1, .val .null, .unset] [])) rfl (hb hby d2_27)
  refine Go.st (f' := (mkF m 30 #[rv a0b, rv a1, iv 0, iv 1, .val .null, .unset] [(.int i_COMPACT_STRINGS)])) (fun _ k => st2 _ k) ?_
  refine Go.st (f' := (mkF m 33 #[rv a0b, rv a1, iv 0, iv 1, .val .null, .unset] [])) (fun _ k => XS.ifNo X2.here hx rfl (hb hby d2_30) rfl ((if0 _ _).trans (feq nz_i_COMPACT_STRINGS).1) k) ?_
  refine Go.st (f' := (mkF m 34 #[rv a0b, rv a1, iv 0, iv 1, .val .null, .unset] [(.ref a1)])) (fun _ k => XS.aloadN X2.here hx rfl (hb hby d2_33) rfl rfl k) ?_
  refine Go.st (f' := (mkF m 35 #[rv a0b, rv a1, iv 0, iv 1, .val .null, .unset] [(.int 0), (.ref a1)])) (fun _ k => XS.iloadN X2.here hx rfl (hb hby d2_34) rfl k) ?_
  refine Go.st (f' := (mkF m 36 #[rv a0b, rv a1, iv 0, iv 1, .val .null, .unset] [(.int 1), (.int 0), (.ref a1)])) (fun _ k => XS.iloadN X2.here hx rfl (hb hby d2_35) rfl k) ?_
  obtain ⟨_, _, ⟨T3, L3, kk3, nn3⟩, -, X3, ⟨Lc3, hQ3, lq3, yq3, zz3⟩, st3⟩ := Jvm.LawKit.callS X2 hx (y := (⟨"java/lang/StringUTF16", "compress", "([CII)[B"⟩ : MethodName)) hown (mvT hZ (ww hw 41 rfl)) (mvT hZ (ww hw 42 rfl)) (mvT hZ (ww hw 43 rfl)) (mvT hZ (ww hw 44 rfl)) (by decide) (own_back (W := 0) (u3_1_1 l Z a0 hw [] a1 k1 c0 i_COMPACT_STRINGS v_SIOOBE_FORMATTER h0 n0 O0 hc_c0 V_a1 WW) hZ (ww hw 44 rfl) (ww hw 43 rfl) (by decide) (by decide)) (g := (mkF m 36 #[rv a0b, rv a1, iv 0, iv 1, .val .null, .unset] [(.int 1), (.int 0), (.ref a1)])) rfl (by rw [hml]; rfl) (argsL := [(.ref a1), (.int (0 : Int32)), (.int (1 : Int32))]) (rest := []) (lenOf pd___CII__B rfl) rfl (by show 2 * 0 + _ ≤ _; exact Nat.le_of_eq rfl) (hb hby d2_36) (fun _ _ => ⟨rfl, e2, (by decide : 0 + 1 ≤ _), (by decide : 0 + 1 ≤ _)⟩)
  dsimp only [Pt.U, Pt.locs, Pt.cells, Pt.slots] at X3 lq3 yq3 zz3 st3 hQ3
  subst lq3 yq3 zz3
  obtain ⟨b3, kb3, rfl, Nq3, zq3, kq3, vq3⟩ := hQ3
  have N3 := Fr.app N0 Nq3
  have ne_a0b_b3 : a0b ≠ b3 := Nat.ne_of_lt (Nat.lt_of_lt_of_le lt_a0b zq3)
  have ne_a1_b3 : a1 ≠ b3 := Nat.ne_of_lt (Nat.lt_of_lt_of_le lt_a1 zq3)
  have g_b3 : n0 ≤ b3 := Nat.le_trans (O0.1 ▸ O0.2.1) zq3
  have sz_b3 : h0.size ≤ b3 := Nat.le_trans K0.1 zq3
  have O3 : Old Z n0 T3.heap := O0.keep kq3 all0
  have K3 : Keep h0 T3.heap [a0b] := K0.trans kq3 all0
  have lt_b3 := vq3.lt
  refine Go.st (f' := (mkF m 39 #[rv a0b, rv a1, iv 0, iv 1, .val .null, .unset] [(.ref b3)])) (fun _ k => st3 _ k) ?_
  refine Go.st (f' := (mkF m 41 #[rv a0b, rv a1, iv 0, iv 1, .val .null, rv b3] [])) (fun _ k => XS.astore X3.here hx rfl (hb hby d2_39) rfl rfl (l' := #[rv a0b, rv a1, iv 0, iv 1, .val .null, rv b3]) rfl k) ?_
  refine Go.st (f' := (mkF m 42 #[rv a0b, rv a1, iv 0, iv 1, .val .null, rv b3] [(.ref a0b)])) (fun _ k => XS.aloadN X3.here hx rfl (hb hby d2_41) rfl rfl k) ?_
  refine Go.st (f' := (mkF m 44 #[rv a0b, rv a1, iv 0, iv 1, .val .null, rv b3] [(.ref b3), (.ref a0b)])) (fun _ k => XS.aload X3.here hx rfl (hb hby d2_42) rfl rfl k) ?_
  refine Go.st (f' := (mkF m 45 #[rv a0b, rv a1, iv 0, iv 1, .val .null, rv b3] [(.int 1), (.ref b3), (.ref a0b)])) (fun _ k => XS.iloadN X3.here hx rfl (hb hby d2_44) rfl k) ?_
  obtain ⟨_, _, ⟨T4, L4, kk4, nn4⟩, -, X4, ⟨Lc4, hQ4, lq4, yq4, zz4⟩, st4⟩ := Jvm.LawKit.callS X3 hx (y := (⟨"java/lang/StringUTF16", "coderFromArrayLen", "([BI)B"⟩ : MethodName)) hown (mvT hZ (ww hw 48 rfl)) (mvT hZ (ww hw 49 rfl)) (mvT hZ (ww hw 43 rfl)) (mvT hZ (ww hw 50 rfl)) (by decide) (own_back (W := 1) (uc_1_1 l Z a0 hw [] b3 kb3 (nar .byte (c0.toInt8.toInt32)) T3.heap n0 O3 vq3) hZ (ww hw 50 rfl) (ww hw 43 rfl) (by decide) (by decide)) (g := (mkF m 45 #[rv a0b, rv a1, iv 0, iv 1, .val .null, rv b3] [(.int 1), (.ref b3), (.ref a0b)])) rfl (by rw [hml]; rfl) (argsL := [(.ref b3), (.int (1 : Int32))]) (rest := [(.ref a0b)]) (lenOf pd___BI_B rfl) rfl (by show 2 * 0 + _ ≤ _; exact Nat.le_of_eq rfl) (hb hby d2_45) (fun _ _ => ⟨rfl, rfl, (by decide : 1 + 0 ≤ _), (by decide : 1 + 0 ≤ _)⟩)
  dsimp only [Pt.U, Pt.locs, Pt.cells, Pt.slots] at X4 lq4 yq4 zz4 st4 hQ4
  subst lq4 yq4 zz4
  obtain ⟨rfl, Nq4, kq4⟩ := hQ4
  have N4 := Fr.app N3 Nq4
  refine Go.st (f' := (mkF m 48 #[rv a0b, rv a1, iv 0, iv 1, .val .null, rv b3] [(.int 0), (.ref a0b)])) (fun _ k => st4 _ k) ?_
  have ft5 := (E_a0b.keep kq3)
  have ft6 := (F_a0b_coder.keep kq3 nin0)
  obtain ⟨T7, h7, X7, e7, W7, st7⟩ := putFN X4 hx hZ hown (ww hw 25 rfl) Via.refl kq4 ft6 ft5 (Or.inr ⟨(ww hw 7 rfl), rfl, hnm⟩) (ww hw 4 rfl) (ty := .byte) (v' := (.int (0 : Int32))) (by decide) rfl (by decide) (g := (mkF m 48 #[rv a0b, rv a1, iv 0, iv 1, .val .null, rv b3] [(.int 0), (.ref a0b)])) rfl rfl (hb hby d2_48)
  have N7 := Fr.snoc X7 N4 g_a0b
  have O7 : Old Z n0 h7 := O3.wr W7 g_a0b
  have K7 : Keep h0 h7 [a0b] := K3.wr W7 (Or.inl (List.mem_of_getElem? (i := 0) rfl))
  have Fw7 := ft6.same W7
  refine Go.st (f' := (mkF m 51 #[rv a0b, rv a1, iv 0, iv 1, .val .null, rv b3] [])) (fun _ k => st7 _ k) ?_
  refine Go.st (f' := (mkF m 52 #[rv a0b, rv a1, iv 0, iv 1, .val .null, rv b3] [(.ref a0b)])) (fun _ k => XS.aloadN X7.here hx rfl (hb hby d2_51) rfl rfl k) ?_
  refine Go.st (f' := (mkF m 54 #[rv a0b, rv a1, iv 0, iv 1, .val .null, rv b3] [(.ref b3), (.ref a0b)])) (fun _ k => XS.aload X7.here hx rfl (hb hby d2_52) rfl rfl k) ?_
  have ft8 := (ft5.wr W7)
  have ft9 := ((F_a0b_value.keep kq3 nin0).other W7 (Or.inr (slot_ne (Or.inr (ww hw 6 rfl)) (Or.inr (ww hw 7 rfl)) (by decide) (t := (.array .byte)) (t' := .byte) (by decide) (by decide))))
  obtain ⟨T10, h10, X10, e10, W10, st10⟩ := putF X7 hx hZ hown (host := "") (Or.inl (ww hw 24 rfl)) Via.refl e7 ft9 ft8 (Or.inr ⟨(ww hw 6 rfl), rfl, hnm⟩) (ww hw 4 rfl) (ty := (.array .byte)) (by decide) rfl rfl (g := (mkF m 54 #[rv a0b, rv a1, iv 0, iv 1, .val .null, rv b3] [(.ref b3), (.ref a0b)])) rfl rfl (hb hby d2_54)
  have N10 := Fr.snoc X10 N7 g_a0b
  have O10 : Old Z n0 h10 := O7.wr W10 g_a0b
  have K10 : Keep h0 h10 [a0b] := K7.wr W10 (Or.inl (List.mem_of_getElem? (i := 0) rfl))
  have Fw10 := ft9.same W10
  refine Go.st (f' := (mkF m 57 #[rv a0b, rv a1, iv 0, iv 1, .val .null, rv b3] [])) (fun _ k => st10 _ k) ?_
  refine Go.ret0 X10 hlk hx hret (hb hby d2_57) e10 ?_ (by decide) (by decide)
  have ft11 := (ft8.wr W10)
  have ft12 := (Fw7.other W10 (Or.inr (slot_ne (Or.inr (ww hw 7 rfl)) (Or.inr (ww hw 6 rfl)) (by decide) (t := .byte) (t' := (.array .byte)) (by decide) (by decide))))
  have ft13 := ((vq3.other W7 (Ne.symm ne_a0b_b3)).other W10 (Ne.symm ne_a0b_b3))
  exact ⟨rfl, N10, K10, ft11, ft12, b3, kb3, sz_b3, Fw10, ft13⟩
theorem d7_20 : decode jdk_52_method_16_code 20 = .ok (.aload_n 0, 1) := by decide +kernel
theorem d7_21 : decode jdk_52_method_16_code 21 = .ok (.iload_n 1, 1) := by decide +kernel
theorem d7_22 : decode jdk_52_method_16_code 22 = .ok (.iload_n 2, 1) := by decide +kernel
theorem d7_23 : decode jdk_52_method_16_code 23 = .ok (.invokestatic 119, 3) := by decide +kernel
theorem d7_26 : decode jdk_52_method_16_code 26 = .ok (.astore 5, 2) := by decide +kernel
theorem d7_28 : decode jdk_52_method_16_code 28 = .ok (.aload 5, 2) := by decide +kernel
theorem d7_30 : decode jdk_52_method_16_code 30 = .ok (.iload 4, 2) := by decide +kernel
theorem d7_32 : decode jdk_52_method_16_code 32 = .ok (.invokestatic 71, 3) := by decide +kernel
theorem pd___BI_C : parseMethodDescriptor "([BI)C" = some ⟨[(.array .byte), .int], some .char⟩ := by decide +kernel
theorem d7_35 : decode jdk_52_method_16_code 35 = .ok (.sipush 255, 3) := by decide +kernel
theorem d7_38 : decode jdk_52_method_16_code 38 = .ok (.if_icmp .gt 16, 3) := by decide +kernel
theorem d7_54 : decode jdk_52_method_16_code 54 = .ok (.aload 5, 2) := by decide +kernel
theorem d7_56 : decode jdk_52_method_16_code 56 = .ok (.areturn, 1) := by decide +kernel
set_option maxRecDepth 65536 in
set_option maxHeartbeats 40000000 in
theorem u3_1_0 (l : Launch) (Z : State) (a0 : Array Value) (hw : ∀ d ∈ tables_1, d.before a0 Z = true) (ws : List Jvm.Cond) (a1 : Addr) (k1 : ClassId) (c0 : Int32) (i_COMPACT_STRINGS : Int32) (v_SIOOBE_FORMATTER : Value) (h0 : Heap) (n0 : Nat) (O0 : Old Z n0 h0) (hc_c0 : (255 : Int32) < c0) (hk_c0 : 0 ≤ c0.toInt ∧ c0.toInt < 65536) (V_a1 : Arv Z h0 a1 k1 .char (1 : Int32) [(.int c0)] (.int 0)) (WW : World1 Z i_COMPACT_STRINGS v_SIOOBE_FORMATTER) :
    Con l Z (⟨"java/lang/StringUTF16", "compress", "([CII)[B"⟩ : MethodName) jdk_52_method_16_code 6 (some (.array .byte)) ws ({ frames := 3, cells := 2, slots := 3, locals := 40 } : Room) #[(.ref a1), (.int 0), (.int 1)] h0 (fun v h L => ∃ (b : Addr) (kb : ClassId), v = some (.ref b) ∧ Fr n0 L ∧ h0.size ≤ b ∧ Keep h0 h [] ∧ Arv Z h b kb .byte (2 : Int32) [(.int (nar .byte ((c0 >>> ((0 : Int32) &&& 31)).toInt8.toInt32))), (.int (nar .byte ((c0 >>> ((8 : Int32) &&& 31)).toInt8.toInt32)))] (.int 0)) := by
  refine own_body (plainFor_of_name pn_java_lang_StringUTF16) ?_
  intro p e s m below meth c s₁ hx hby hml hZ hown hnm hlk hret X0 e0
  have N0 := Fr.nil n0
  have K0 : Keep h0 h0 [] := Keep.refl _ _
  refine Go.st (T' := s₁) (f' := (mkF m 0 #[rv a1, iv 0, iv 1, .unset, .unset, .unset] [])) (fun _ k => castTop (by first | (simp [entryFrame, mkF, argsToLocals, Value.category]; done) | rfl) k) ?_
  have ⟨S_i_COMPACT_STRINGS, nz_i_COMPACT_STRINGS, S_v_SIOOBE_FORMATTER, r_v_SIOOBE_FORMATTER, S_i__assertionsDisabled, S_i_HI_BYTE_SHIFT, S_i_LO_BYTE_SHIFT⟩ := WW
  have lt_a1 := V_a1.lt
  refine Go.st (f' := (mkF m 1 #[rv a1, iv 0, iv 1, .unset, .unset, .unset] [(.int 1)])) (fun _ k => XS.iloadN X0.here hx rfl (hb hby d7_0) rfl k) ?_
  obtain ⟨T1, h1, kc1, X1, e1, E1, A1, st1⟩ := newP X0 hx hZ (ww hw 5 rfl) e0 (g := (mkF m 1 #[rv a1, iv 0, iv 1, .unset, .unset, .unset] [(.int 1)])) rfl (hb hby d7_1) rfl (by decide) (cap := 1) (by decide) (by decide) (by decide) (by decide)
  obtain ⟨b1, g1⟩ : ∃ z, z = h0.size := ⟨_, rfl⟩
  rw [← g1] at A1 st1
  have ne_a1_b1 : a1 ≠ b1 := Nat.ne_of_lt (Nat.lt_of_lt_of_eq lt_a1 g1.symm)
  have g_b1 : n0 ≤ b1 := Nat.le_trans (O0.1 ▸ O0.2.1) (Nat.le_of_eq g1.symm)
  have O1 : Old Z n0 h1 := O0.ext E1
  have sz_b1 : h0.size ≤ b1 := Nat.le_trans K0.1 (Nat.le_of_eq g1.symm)
  have K1 : Keep h0 h1 [] := K0.ext E1
  have V_b1 : Arv Z h1 b1 kc1 .byte (1 : Int32) [(.int (0 : Int32))] (.int (0 : Int32)) := (Arv.new A1 (by decide)).pad (pad_rep [] (.int (0 : Int32)) 1)
  have lt_b1 := V_b1.lt
  refine Go.st (f' := (mkF m 3 #[rv a1, iv 0, iv 1, .unset, .unset, .unset] [(.ref b1)])) (fun _ k => st1 _ k) ?_
  refine Go.st (f' := (mkF m 4 #[rv a1, iv 0, iv 1, rv b1, .unset, .unset] [])) (fun _ k => XS.astoreN X1.here hx rfl (hb hby d7_3) rfl rfl (l' := #[rv a1, iv 0, iv 1, rv b1, .unset, .unset]) rfl k) ?_
  refine Go.st (f' := (mkF m 5 #[rv a1, iv 0, iv 1, rv b1, .unset, .unset] [(.ref a1)])) (fun _ k => XS.aloadN X1.here hx rfl (hb hby d7_4) rfl rfl k) ?_
  refine Go.st (f' := (mkF m 6 #[rv a1, iv 0, iv 1, rv b1, .unset, .unset] [(.int 0), (.ref a1)])) (fun _ k => XS.iloadN X1.here hx rfl (hb hby d7_5) rfl k) ?_
  refine Go.st (f' := (mkF m 7 #[rv a1, iv 0, iv 1, rv b1, .unset, .unset] [(.ref b1), (.int 0), (.ref a1)])) (fun _ k => XS.aloadN X1.here hx rfl (hb hby d7_6) rfl rfl k) ?_
  refine Go.st (f' := (mkF m 8 #[rv a1, iv 0, iv 1, rv b1, .unset, .unset] [(.int 0), (.ref b1), (.int 0), (.ref a1)])) (fun _ k => XS.iconst X1.here hx rfl (hb hby d7_7) k) ?_
  refine Go.st (f' := (mkF m 9 #[rv a1, iv 0, iv 1, rv b1, .unset, .unset] [(.int 1), (.int 0), (.ref b1), (.int 0), (.ref a1)])) (fun _ k => XS.iloadN X1.here hx rfl (hb hby d7_8) rfl k) ?_
  have ft3 := (V_a1.ext E1)
  obtain ⟨_, _, ⟨T2, L2, kk2, nn2⟩, -, X2, ⟨Lc2, hQ2, lq2, yq2, zz2⟩, st2⟩ := Jvm.LawKit.callS X1 hx (y := (⟨"java/lang/StringUTF16", "compress", "([CI[BII)I"⟩ : MethodName)) hown (mvT hZ (ww hw 45 rfl)) (mvT hZ (ww hw 46 rfl)) (mvT hZ (ww hw 43 rfl)) (mvT hZ (ww hw 47 rfl)) (by decide) (own_back (W := 0) (u5_1_0 l Z a0 hw [] b1 kc1 a1 k1 c0 h1 n0 O1 hc_c0 hk_c0 ne_a1_b1 g_b1 ft3 V_b1) hZ (ww hw 47 rfl) (ww hw 43 rfl) (by decide) (by decide)) (g := (mkF m 9 #[rv a1, iv 0, iv 1, rv b1, .unset, .unset] [(.int 1), (.int 0), (.ref b1), (.int 0), (.ref a1)])) rfl (by rw [hml]; rfl) (argsL := [(.ref a1), (.int (0 : Int32)), (.ref b1), (.int (0 : Int32)), (.int (1 : Int32))]) (rest := []) (lenOf pd___CI_BII_I rfl) rfl (by show 2 * 0 + _ ≤ _; exact Nat.le_of_eq rfl) (hb hby d7_9) (fun _ _ => ⟨rfl, e1, (by decide : 1 + 0 ≤ _), (by decide : 1 + 0 ≤ _)⟩)
  dsimp only [Pt.U, Pt.locs, Pt.cells, Pt.slots] at X2 lq2 yq2 zz2 st2 hQ2
  subst lq2 yq2 zz2
  obtain ⟨rfl, Nq2, kq2, vq2⟩ := hQ2
  have N2 := Fr.app N0 Nq2
  have O2 : Old Z n0 T2.heap := O1.keep kq2 (allS g_b1 all0)
  have K2 : Keep h0 T2.heap [] := K1.trans kq2 (allS (Or.inr sz_b1) all0)
  refine Go.st (f' := (mkF m 12 #[rv a1, iv 0, iv 1, rv b1, .unset, .unset] [(.int 0)])) (fun _ k => st2 _ k) ?_
  refine Go.st (f' := (mkF m 14 #[rv a1, iv 0, iv 1, rv b1, iv 0, .unset] [])) (fun _ k => XS.istore X2.here hx rfl (hb hby d7_12) rfl (l' := #[rv a1, iv 0, iv 1, rv b1, iv 0, .unset]) rfl k) ?_
  refine Go.st (f' := (mkF m 16 #[rv a1, iv 0, iv 1, rv b1, iv 0, .unset] [(.int 0)])) (fun _ k => XS.iload X2.here hx rfl (hb hby d7_14) rfl k) ?_
  refine Go.st (f' := (mkF m 17 #[rv a1, iv 0, iv 1, rv b1, iv 0, .unset] [(.int 1), (.int 0)])) (fun _ k => XS.iloadN X2.here hx rfl (hb hby d7_16) rfl k) ?_
  refine Go.st (f' := (mkF m 20 #[rv a1, iv 0, iv 1, rv b1, iv 0, .unset] [])) (fun _ k => XS.icmpNo X2.here hx rfl (hb hby d7_17) rfl (by decide) k) ?_
  refine Go.st (f' := (mkF m 21 #[rv a1, iv 0, iv 1, rv b1, iv 0, .unset] [(.ref a1)])) (fun _ k => XS.aloadN X2.here hx rfl (hb hby d7_20) rfl rfl k) ?_
  refine Go.st (f' := (mkF m 22 #[rv a1, iv 0, iv 1, rv b1, iv 0, .unset] [(.int 0), (.ref a1)])) (fun _ k => XS.iloadN X2.here hx rfl (hb hby d7_21) rfl k) ?_
  refine Go.st (f' := (mkF m 23 #[rv a1, iv 0, iv 1, rv b1, iv 0, .unset] [(.int 1), (.int 0), (.ref a1)])) (fun _ k => XS.iloadN X2.here hx rfl (hb hby d7_22) rfl k) ?_
  have ft5 := (ft3.keep kq2 (ninS ne_a1_b1 nin0))
  obtain ⟨_, _, ⟨T4, L4, kk4, nn4⟩, -, X4, ⟨Lc4, hQ4, lq4, yq4, zz4⟩, st4⟩ := Jvm.LawKit.callS X2 hx (y := (⟨"java/lang/StringUTF16", "toBytes", "([CII)[B"⟩ : MethodName)) hown (mvT hZ (ww hw 81 rfl)) (mvT hZ (ww hw 82 rfl)) (mvT hZ (ww hw 43 rfl)) (mvT hZ (ww hw 83 rfl)) (by decide) (own_back (W := 0) (ut_1 l Z a0 hw [] a1 k1 c0 i_COMPACT_STRINGS v_SIOOBE_FORMATTER T2.heap n0 O2 ft5 WW) hZ (ww hw 83 rfl) (ww hw 43 rfl) (by decide) (by decide)) (g := (mkF m 23 #[rv a1, iv 0, iv 1, rv b1, iv 0, .unset] [(.int 1), (.int 0), (.ref a1)])) rfl (by rw [hml]; rfl) (argsL := [(.ref a1), (.int (0 : Int32)), (.int (1 : Int32))]) (rest := []) (lenOf pd___CII__B rfl) rfl (by show 2 * 0 + _ ≤ _; exact Nat.le_of_eq rfl) (hb hby d7_23) (fun _ _ => ⟨rfl, rfl, (by decide : 1 + 1 ≤ _), (by decide : 1 + 2 ≤ _)⟩)
  dsimp only [Pt.U, Pt.locs, Pt.cells, Pt.slots] at X4 lq4 yq4 zz4 st4 hQ4
  subst lq4 yq4 zz4
  obtain ⟨b4, kb4, rfl, Nq4, zq4, kq4, vq4⟩ := hQ4
  have N4 := Fr.app N2 Nq4
  have ft6 := (Nat.lt_of_lt_of_le (Nat.lt_of_lt_of_le lt_a1 E1.1) kq2.1)
  have ne_a1_b4 : a1 ≠ b4 := Nat.ne_of_lt (Nat.lt_of_lt_of_le ft6 zq4)
  have ft7 := (Nat.lt_of_lt_of_le lt_b1 kq2.1)
  have ne_b1_b4 : b1 ≠ b4 := Nat.ne_of_lt (Nat.lt_of_lt_of_le ft7 zq4)
  have g_b4 : n0 ≤ b4 := Nat.le_trans (O2.1 ▸ O2.2.1) zq4
  have sz_b4 : h0.size ≤ b4 := Nat.le_trans K2.1 zq4
  have O4 : Old Z n0 T4.heap := O2.keep kq4 all0
  have K4 : Keep h0 T4.heap [] := K2.trans kq4 all0
  have lt_b4 := vq4.lt
  refine Go.st (f' := (mkF m 26 #[rv a1, iv 0, iv 1, rv b1, iv 0, .unset] [(.ref b4)])) (fun _ k => st4 _ k) ?_
  refine Go.st (f' := (mkF m 28 #[rv a1, iv 0, iv 1, rv b1, iv 0, rv b4] [])) (fun _ k => XS.astore X4.here hx rfl (hb hby d7_26) rfl rfl (l' := #[rv a1, iv 0, iv 1, rv b1, iv 0, rv b4]) rfl k) ?_
  refine Go.st (f' := (mkF m 30 #[rv a1, iv 0, iv 1, rv b1, iv 0, rv b4] [(.ref b4)])) (fun _ k => XS.aload X4.here hx rfl (hb hby d7_28) rfl rfl k) ?_
  refine Go.st (f' := (mkF m 32 #[rv a1, iv 0, iv 1, rv b1, iv 0, rv b4] [(.int 0), (.ref b4)])) (fun _ k => XS.iload X4.here hx rfl (hb hby d7_30) rfl k) ?_
  obtain ⟨_, _, ⟨T8, L8, kk8, nn8⟩, -, X8, ⟨Lc8, hQ8, lq8, yq8, zz8⟩, st8⟩ := Jvm.LawKit.callS X4 hx (y := (⟨"java/lang/StringUTF16", "getChar", "([BI)C"⟩ : MethodName)) hown (mvT hZ (ww hw 97 rfl)) (mvT hZ (ww hw 98 rfl)) (mvT hZ (ww hw 43 rfl)) (mvT hZ (ww hw 99 rfl)) (by decide) (own_back (W := 0) (ug_1_0 l Z a0 hw [] b4 kb4 (nar .byte ((c0 >>> ((0 : Int32) &&& 31)).toInt8.toInt32)) (nar .byte ((c0 >>> ((8 : Int32) &&& 31)).toInt8.toInt32)) i_COMPACT_STRINGS v_SIOOBE_FORMATTER T4.heap n0 O4 vq4 WW) hZ (ww hw 99 rfl) (ww hw 43 rfl) (by decide) (by decide)) (g := (mkF m 32 #[rv a1, iv 0, iv 1, rv b1, iv 0, rv b4] [(.int 0), (.ref b4)])) rfl (by rw [hml]; rfl) (argsL := [(.ref b4), (.int (0 : Int32))]) (rest := []) (lenOf pd___BI_C rfl) rfl (by show 2 * 0 + _ ≤ _; exact Nat.le_of_eq rfl) (hb hby d7_32) (fun _ _ => ⟨rfl, rfl, (by decide : 2 + 0 ≤ _), (by decide : 3 + 0 ≤ _)⟩)
  dsimp only [Pt.U, Pt.locs, Pt.cells, Pt.slots] at X8 lq8 yq8 zz8 st8 hQ8
  subst lq8 yq8 zz8
  obtain ⟨rfl, Nq8, kq8⟩ := hQ8
  have N8 := Fr.app N4 Nq8
  refine Go.st (f' := (mkF m 35 #[rv a1, iv 0, iv 1, rv b1, iv 0, rv b4] [(.int (nar .char ((((((nar .byte ((c0 >>> ((0 : Int32) &&& 31)).toInt8.toInt32)) &&& (255 : Int32)) <<< ((0 : Int32) &&& 31)) ||| (((nar .byte ((c0 >>> ((8 : Int32) &&& 31)).toInt8.toInt32)) &&& (255 : Int32)) <<< ((8 : Int32) &&& 31))).toUInt32.toUInt16.toUInt32.toInt32))))])) (fun _ k => st8 _ k) ?_
  refine Go.st (f' := (mkF m 38 #[rv a1, iv 0, iv 1, rv b1, iv 0, rv b4] [(.int 255), (.int (nar .char ((((((nar .byte ((c0 >>> ((0 : Int32) &&& 31)).toInt8.toInt32)) &&& (255 : Int32)) <<< ((0 : Int32) &&& 31)) ||| (((nar .byte ((c0 >>> ((8 : Int32) &&& 31)).toInt8.toInt32)) &&& (255 : Int32)) <<< ((8 : Int32) &&& 31))).toUInt32.toUInt16.toUInt32.toInt32))))])) (fun _ k => XS.sipush X8.here hx rfl (hb hby d7_35) k) ?_
  refine Go.st (f' := (mkF m 54 #[rv a1, iv 0, iv 1, rv b1, iv 0, rv b4] [])) (fun _ k => XS.icmpYes X8.here hx rfl (pc0 := 38) (pc' := 54) rfl (hb hby d7_38) rfl (tlt (own_gt hk_c0 hc_c0)).2.2.1 (by decide) (by decide) k) ?_
  refine Go.st (f' := (mkF m 56 #[rv a1, iv 0, iv 1, rv b1, iv 0, rv b4] [(.ref b4)])) (fun _ k => XS.aload X8.here hx rfl (hb hby d7_54) rfl rfl k) ?_
  refine Go.retV X8 hlk hx (t := (.array .byte)) hret rfl (Or.inr (Or.inr (Or.inr (Or.inr ⟨rfl, rfl, rfl⟩)))) (hb hby d7_56) kq8 ?_ (by decide) (by decide)
  exact ⟨b4, kb4, rfl, N8, sz_b4, K4, vq4⟩
theorem u3_1_u (l : Launch) (Z : State) (a0 : Array Value) (hw : ∀ d ∈ tables_1, d.before a0 Z = true) (ws : List Jvm.Cond) (a1 : Addr) (k1 : ClassId) (c0 : Int32) (i_COMPACT_STRINGS : Int32) (v_SIOOBE_FORMATTER : Value) (h0 : Heap) (n0 : Nat) (O0 : Old Z n0 h0) (hu : (255 : Int32) < c0) (hk_c0 : 0 ≤ c0.toInt ∧ c0.toInt < 65536) (V_a1 : Arv Z h0 a1 k1 .char (1 : Int32) [(.int c0)] (.int 0)) (WW : World1 Z i_COMPACT_STRINGS v_SIOOBE_FORMATTER) :
    Con l Z (⟨"java/lang/StringUTF16", "compress", "([CII)[B"⟩ : MethodName) jdk_52_method_16_code 6 (some (.array .byte)) ws ({ frames := 3, cells := 2, slots := 3, locals := 40 } : Room) #[(.ref a1), (.int 0), (.int 1)] h0 (fun v h L => ∃ (b : Addr) (kb : ClassId), v = some (.ref b) ∧ Fr n0 L ∧ h0.size ≤ b ∧ Keep h0 h [] ∧ Arv Z h b kb .byte (2 : Int32) [(.int (nar .byte ((c0 >>> ((0 : Int32) &&& 31)).toInt8.toInt32))), (.int (nar .byte ((c0 >>> ((8 : Int32) &&& 31)).toInt8.toInt32)))] (.int 0)) := by
  by_cases q0 : (255 : Int32) < c0
  · exact u3_1_0 l Z a0 hw ws a1 k1 c0 i_COMPACT_STRINGS v_SIOOBE_FORMATTER h0 n0 O0  q0 hk_c0 V_a1 WW
  exact (fun z => absurd z q0) hu
set_option maxRecDepth 65536 in
set_option maxHeartbeats 40000000 in
theorem uv_1_u (l : Launch) (Z : State) (a0 : Array Value) (hw : ∀ d ∈ tables_1, d.before a0 Z = true) (ws : List Jvm.Cond) (a0b : Addr) (a1 : Addr) (k1 : ClassId) (c0 : Int32) (i_COMPACT_STRINGS : Int32) (v_SIOOBE_FORMATTER : Value) (h0 : Heap) (n0 : Nat) (O0 : Old Z n0 h0) (hu : (255 : Int32) < c0) (hk_c0 : 0 ≤ c0.toInt ∧ c0.toInt < 65536) (g_a0b : n0 ≤ a0b) (nb1 : a0b ≠ a1) (E_a0b : Exa Z h0 a0b "java/lang/String") (F_a0b_coder : Fld Z h0 a0b "java/lang/String" "coder" "B" (.int 0)) (F_a0b_value : Fld Z h0 a0b "java/lang/String" "value" "[B" .null) (V_a1 : Arv Z h0 a1 k1 .char (1 : Int32) [(.int c0)] (.int 0)) (WW : World1 Z i_COMPACT_STRINGS v_SIOOBE_FORMATTER) :
    Con l Z (⟨"java/lang/String", "<init>", "([CIILjava/lang/Void;)V"⟩ : MethodName) jdk_42_method_149_code 6 none ws ({ frames := 4, cells := 2, slots := 3, locals := 57 } : Room) #[(.ref a0b), (.ref a1), (.int 0), (.int 1), .null] h0 (fun v h L => v = none ∧ Fr n0 L ∧ Keep h0 h [a0b] ∧ Exa Z h a0b "java/lang/String" ∧ Fld Z h a0b "java/lang/String" "coder" "B" (.int 1) ∧ ∃ (t : Addr) (kt : ClassId), h0.size ≤ t ∧ Fld Z h a0b "java/lang/String" "value" "[B" (.ref t) ∧ Arv Z h t kt .byte (2 : Int32) [(.int (nar .byte ((c0 >>> ((0 : Int32) &&& 31)).toInt8.toInt32))), (.int (nar .byte ((c0 >>> ((8 : Int32) &&& 31)).toInt8.toInt32)))] (.int 0)) := by
  refine own_body (plainFor_of_name pn_java_lang_String) ?_
  intro p e s m below meth c s₁ hx hby hml hZ hown hnm hlk hret X0 e0
  have N0 := Fr.nil n0
  have K0 : Keep h0 h0 [a0b] := Keep.refl _ _
  refine Go.st (T' := s₁) (f' := (mkF m 0 #[rv a0b, rv a1, iv 0, iv 1, .val .null, .unset] [])) (fun _ k => castTop (by first | (simp [entryFrame, mkF, argsToLocals, Value.category]; done) | rfl) k) ?_
  have ⟨S_i_COMPACT_STRINGS, nz_i_COMPACT_STRINGS, S_v_SIOOBE_FORMATTER, r_v_SIOOBE_FORMATTER, S_i__assertionsDisabled, S_i_HI_BYTE_SHIFT, S_i_LO_BYTE_SHIFT⟩ := WW
  have lt_a0b := E_a0b.lt
  have lt_a1 := V_a1.lt
  refine Go.st (f' := (mkF m 1 #[rv a0b, rv a1, iv 0, iv 1, .val .null, .unset] [(.ref a0b)])) (fun _ k => XS.aloadN X0.here hx rfl (hb hby d2_0) rfl rfl k) ?_
  obtain ⟨T1, X1, e1, st1⟩ := initO X0 hx hZ hown (ww hw 20 rfl) (ww hw 21 rfl) (ww hw 22 rfl) e0 (g := (mkF m 1 #[rv a0b, rv a1, iv 0, iv 1, .val .null, .unset] [(.ref a0b)])) rfl (by rw [hml]; rfl) rfl (hb hby d2_1) (by decide) (W := 0) (by show 2 * 0 + _ ≤ _; exact Nat.le_of_eq rfl) (by decide)
  refine Go.st (f' := (mkF m 4 #[rv a0b, rv a1, iv 0, iv 1, .val .null, .unset] [])) (fun _ k => st1 _ k) ?_
  refine Go.st (f' := (mkF m 5 #[rv a0b, rv a1, iv 0, iv 1, .val .null, .unset] [(.int 1)])) (fun _ k => XS.iloadN X1.here hx rfl (hb hby d2_4) rfl k) ?_
  refine Go.st (f' := (mkF m 27 #[rv a0b, rv a1, iv 0, iv 1, .val .null, .unset] [])) (fun _ k => XS.ifYes X1.here hx rfl (pc0 := 5) (pc' := 27) rfl (hb hby d2_5) rfl (by decide) (by decide) (by decide) k) ?_
  obtain ⟨T2, X2, e2, st2⟩ := getS2 X1 hx hZ hown (host := "") (Or.inl (ww hw 40 rfl)) Via.refl e1 (S_i_COMPACT_STRINGS.ext O0.2) (g := (mkF m 27 #[rv a0b, rv a1, iv 0, iv 1, .val .null, .unset] [])) rfl (hb hby d2_27)
  refine Go.st (f' := (mkF m 30 #[rv a0b, rv a1, iv 0, iv 1, .val .null, .unset] [(.int i_COMPACT_STRINGS)])) (fun _ k => st2 _ k) ?_
  refine Go.st (f' := (mkF m 33 #[rv a0b, rv a1, iv 0, iv 1, .val .null, .unset] [])) (fun _ k => XS.ifNo X2.here hx rfl (hb hby d2_30) rfl ((if0 _ _).trans (feq nz_i_COMPACT_STRINGS).1) k) ?_
  refine Go.st (f' := (mkF m 34 #[rv a0b, rv a1, iv 0, iv 1, .val .null, .unset] [(.ref a1)])) (fun _ k => XS.aloadN X2.here hx rfl (hb hby d2_33) rfl rfl k) ?_
  refine Go.st (f' := (mkF m 35 #[rv a0b, rv a1, iv 0, iv 1, .val .null, .unset] [(.int 0), (.ref a1)])) (fun _ k => XS.iloadN X2.here hx rfl (hb hby d2_34) rfl k) ?_
  refine Go.st (f' := (mkF m 36 #[rv a0b, rv a1, iv 0, iv 1, .val .null, .unset] [(.int 1), (.int 0), (.ref a1)])) (fun _ k => XS.iloadN X2.here hx rfl (hb hby d2_35) rfl k) ?_
  obtain ⟨_, _, ⟨T3, L3, kk3, nn3⟩, -, X3, ⟨Lc3, hQ3, lq3, yq3, zz3⟩, st3⟩ := Jvm.LawKit.callS X2 hx (y := (⟨"java/lang/StringUTF16", "compress", "([CII)[B"⟩ : MethodName)) hown (mvT hZ (ww hw 41 rfl)) (mvT hZ (ww hw 42 rfl)) (mvT hZ (ww hw 43 rfl)) (mvT hZ (ww hw 44 rfl)) (by decide) (own_back (W := 0) (u3_1_u l Z a0 hw [] a1 k1 c0 i_COMPACT_STRINGS v_SIOOBE_FORMATTER h0 n0 O0 hu hk_c0 V_a1 WW) hZ (ww hw 44 rfl) (ww hw 43 rfl) (by decide) (by decide)) (g := (mkF m 36 #[rv a0b, rv a1, iv 0, iv 1, .val .null, .unset] [(.int 1), (.int 0), (.ref a1)])) rfl (by rw [hml]; rfl) (argsL := [(.ref a1), (.int (0 : Int32)), (.int (1 : Int32))]) (rest := []) (lenOf pd___CII__B rfl) rfl (by show 2 * 0 + _ ≤ _; exact Nat.le_of_eq rfl) (hb hby d2_36) (fun _ _ => ⟨rfl, e2, (by decide : 0 + 2 ≤ _), (by decide : 0 + 3 ≤ _)⟩)
  dsimp only [Pt.U, Pt.locs, Pt.cells, Pt.slots] at X3 lq3 yq3 zz3 st3 hQ3
  subst lq3 yq3 zz3
  obtain ⟨b3, kb3, rfl, Nq3, zq3, kq3, vq3⟩ := hQ3
  have N3 := Fr.app N0 Nq3
  have ne_a0b_b3 : a0b ≠ b3 := Nat.ne_of_lt (Nat.lt_of_lt_of_le lt_a0b zq3)
  have ne_a1_b3 : a1 ≠ b3 := Nat.ne_of_lt (Nat.lt_of_lt_of_le lt_a1 zq3)
  have g_b3 : n0 ≤ b3 := Nat.le_trans (O0.1 ▸ O0.2.1) zq3
  have sz_b3 : h0.size ≤ b3 := Nat.le_trans K0.1 zq3
  have O3 : Old Z n0 T3.heap := O0.keep kq3 all0
  have K3 : Keep h0 T3.heap [a0b] := K0.trans kq3 all0
  have lt_b3 := vq3.lt
  refine Go.st (f' := (mkF m 39 #[rv a0b, rv a1, iv 0, iv 1, .val .null, .unset] [(.ref b3)])) (fun _ k => st3 _ k) ?_
  refine Go.st (f' := (mkF m 41 #[rv a0b, rv a1, iv 0, iv 1, .val .null, rv b3] [])) (fun _ k => XS.astore X3.here hx rfl (hb hby d2_39) rfl rfl (l' := #[rv a0b, rv a1, iv 0, iv 1, .val .null, rv b3]) rfl k) ?_
  refine Go.st (f' := (mkF m 42 #[rv a0b, rv a1, iv 0, iv 1, .val .null, rv b3] [(.ref a0b)])) (fun _ k => XS.aloadN X3.here hx rfl (hb hby d2_41) rfl rfl k) ?_
  refine Go.st (f' := (mkF m 44 #[rv a0b, rv a1, iv 0, iv 1, .val .null, rv b3] [(.ref b3), (.ref a0b)])) (fun _ k => XS.aload X3.here hx rfl (hb hby d2_42) rfl rfl k) ?_
  refine Go.st (f' := (mkF m 45 #[rv a0b, rv a1, iv 0, iv 1, .val .null, rv b3] [(.int 1), (.ref b3), (.ref a0b)])) (fun _ k => XS.iloadN X3.here hx rfl (hb hby d2_44) rfl k) ?_
  obtain ⟨_, _, ⟨T4, L4, kk4, nn4⟩, -, X4, ⟨Lc4, hQ4, lq4, yq4, zz4⟩, st4⟩ := Jvm.LawKit.callS X3 hx (y := (⟨"java/lang/StringUTF16", "coderFromArrayLen", "([BI)B"⟩ : MethodName)) hown (mvT hZ (ww hw 48 rfl)) (mvT hZ (ww hw 49 rfl)) (mvT hZ (ww hw 43 rfl)) (mvT hZ (ww hw 50 rfl)) (by decide) (own_back (W := 1) (uc_1_2 l Z a0 hw [] b3 kb3 (nar .byte ((c0 >>> ((0 : Int32) &&& 31)).toInt8.toInt32)) (nar .byte ((c0 >>> ((8 : Int32) &&& 31)).toInt8.toInt32)) T3.heap n0 O3 vq3) hZ (ww hw 50 rfl) (ww hw 43 rfl) (by decide) (by decide)) (g := (mkF m 45 #[rv a0b, rv a1, iv 0, iv 1, .val .null, rv b3] [(.int 1), (.ref b3), (.ref a0b)])) rfl (by rw [hml]; rfl) (argsL := [(.ref b3), (.int (1 : Int32))]) (rest := [(.ref a0b)]) (lenOf pd___BI_B rfl) rfl (by show 2 * 0 + _ ≤ _; exact Nat.le_of_eq rfl) (hb hby d2_45) (fun _ _ => ⟨rfl, rfl, (by decide : 2 + 0 ≤ _), (by decide : 3 + 0 ≤ _)⟩)
  dsimp only [Pt.U, Pt.locs, Pt.cells, Pt.slots] at X4 lq4 yq4 zz4 st4 hQ4
  subst lq4 yq4 zz4
  obtain ⟨rfl, Nq4, kq4⟩ := hQ4
  have N4 := Fr.app N3 Nq4
  refine Go.st (f' := (mkF m 48 #[rv a0b, rv a1, iv 0, iv 1, .val .null, rv b3] [(.int 1), (.ref a0b)])) (fun _ k => st4 _ k) ?_
  have ft5 := (E_a0b.keep kq3)
  have ft6 := (F_a0b_coder.keep kq3 nin0)
  obtain ⟨T7, h7, X7, e7, W7, st7⟩ := putFN X4 hx hZ hown (ww hw 25 rfl) Via.refl kq4 ft6 ft5 (Or.inr ⟨(ww hw 7 rfl), rfl, hnm⟩) (ww hw 4 rfl) (ty := .byte) (v' := (.int (1 : Int32))) (by decide) rfl (by decide) (g := (mkF m 48 #[rv a0b, rv a1, iv 0, iv 1, .val .null, rv b3] [(.int 1), (.ref a0b)])) rfl rfl (hb hby d2_48)
  have N7 := Fr.snoc X7 N4 g_a0b
  have O7 : Old Z n0 h7 := O3.wr W7 g_a0b
  have K7 : Keep h0 h7 [a0b] := K3.wr W7 (Or.inl (List.mem_of_getElem? (i := 0) rfl))
  have Fw7 := ft6.same W7
  refine Go.st (f' := (mkF m 51 #[rv a0b, rv a1, iv 0, iv 1, .val .null, rv b3] [])) (fun _ k => st7 _ k) ?_
  refine Go.st (f' := (mkF m 52 #[rv a0b, rv a1, iv 0, iv 1, .val .null, rv b3] [(.ref a0b)])) (fun _ k => XS.aloadN X7.here hx rfl (hb hby d2_51) rfl rfl k) ?_
  refine Go.st (f' := (mkF m 54 #[rv a0b, rv a1, iv 0, iv 1, .val .null, rv b3] [(.ref b3), (.ref a0b)])) (fun _ k => XS.aload X7.here hx rfl (hb hby d2_52) rfl rfl k) ?_
  have ft8 := (ft5.wr W7)
  have ft9 := ((F_a0b_value.keep kq3 nin0).other W7 (Or.inr (slot_ne (Or.inr (ww hw 6 rfl)) (Or.inr (ww hw 7 rfl)) (by decide) (t := (.array .byte)) (t' := .byte) (by decide) (by decide))))
  obtain ⟨T10, h10, X10, e10, W10, st10⟩ := putF X7 hx hZ hown (host := "") (Or.inl (ww hw 24 rfl)) Via.refl e7 ft9 ft8 (Or.inr ⟨(ww hw 6 rfl), rfl, hnm⟩) (ww hw 4 rfl) (ty := (.array .byte)) (by decide) rfl rfl (g := (mkF m 54 #[rv a0b, rv a1, iv 0, iv 1, .val .null, rv b3] [(.ref b3), (.ref a0b)])) rfl rfl (hb hby d2_54)
  have N10 := Fr.snoc X10 N7 g_a0b
  have O10 : Old Z n0 h10 := O7.wr W10 g_a0b
  have K10 : Keep h0 h10 [a0b] := K7.wr W10 (Or.inl (List.mem_of_getElem? (i := 0) rfl))
  have Fw10 := ft9.same W10
  refine Go.st (f' := (mkF m 57 #[rv a0b, rv a1, iv 0, iv 1, .val .null, rv b3] [])) (fun _ k => st10 _ k) ?_
  refine Go.ret0 X10 hlk hx hret (hb hby d2_57) e10 ?_ (by decide) (by decide)
  have ft11 := (ft8.wr W10)
  have ft12 := (Fw7.other W10 (Or.inr (slot_ne (Or.inr (ww hw 7 rfl)) (Or.inr (ww hw 6 rfl)) (by decide) (t := .byte) (t' := (.array .byte)) (by decide) (by decide))))
  have ft13 := ((vq3.other W7 (Ne.symm ne_a0b_b3)).other W10 (Ne.symm ne_a0b_b3))
  exact ⟨rfl, N10, K10, ft11, ft12, b3, kb3, sz_b3, Fw10, ft13⟩
theorem d1_0 : decode jdk_42_method_3_code 0 = .ok (.aload_n 0, 1) := by decide +kernel
theorem d1_1 : decode jdk_42_method_3_code 1 = .ok (.aload_n 1, 1) := by decide +kernel
theorem d1_2 : decode jdk_42_method_3_code 2 = .ok (.iconst 0, 1) := by decide +kernel
theorem d1_3 : decode jdk_42_method_3_code 3 = .ok (.aload_n 1, 1) := by decide +kernel
theorem d1_4 : decode jdk_42_method_3_code 4 = .ok (.arraylength, 1) := by decide +kernel
theorem d1_5 : decode jdk_42_method_3_code 5 = .ok (.aconst_null, 1) := by decide +kernel
theorem d1_6 : decode jdk_42_method_3_code 6 = .ok (.invokespecial 27, 3) := by decide +kernel
theorem pd___CIILjava_lang_Void__V : parseMethodDescriptor "([CIILjava/lang/Void;)V" = some ⟨[(.array .char), .int, .int, (.object "java/lang/Void")], none⟩ := by decide +kernel
theorem d1_9 : decode jdk_42_method_3_code 9 = .ok (.return_, 1) := by decide +kernel
set_option maxRecDepth 65536 in
set_option maxHeartbeats 40000000 in
theorem u1_1_u (l : Launch) (Z : State) (a0 : Array Value) (hw : ∀ d ∈ tables_1, d.before a0 Z = true) (ws : List Jvm.Cond) (a0b : Addr) (a1 : Addr) (k1 : ClassId) (c0 : Int32) (i_COMPACT_STRINGS : Int32) (v_SIOOBE_FORMATTER : Value) (h0 : Heap) (n0 : Nat) (O0 : Old Z n0 h0) (hu : (255 : Int32) < c0) (hk_c0 : 0 ≤ c0.toInt ∧ c0.toInt < 65536) (g_a0b : n0 ≤ a0b) (nb1 : a0b ≠ a1) (E_a0b : Exa Z h0 a0b "java/lang/String") (F_a0b_coder : Fld Z h0 a0b "java/lang/String" "coder" "B" (.int 0)) (F_a0b_value : Fld Z h0 a0b "java/lang/String" "value" "[B" .null) (V_a1 : Arv Z h0 a1 k1 .char (1 : Int32) [(.int c0)] (.int 0)) (WW : World1 Z i_COMPACT_STRINGS v_SIOOBE_FORMATTER) :
    Con l Z (⟨"java/lang/String", "<init>", "([C)V"⟩ : MethodName) jdk_42_method_3_code 2 none ws ({ frames := 5, cells := 2, slots := 3, locals := 74 } : Room) #[(.ref a0b), (.ref a1)] h0 (fun v h L => v = none ∧ Fr n0 L ∧ Keep h0 h [a0b] ∧ Exa Z h a0b "java/lang/String" ∧ Fld Z h a0b "java/lang/String" "coder" "B" (.int 1) ∧ ∃ (t : Addr) (kt : ClassId), h0.size ≤ t ∧ Fld Z h a0b "java/lang/String" "value" "[B" (.ref t) ∧ Arv Z h t kt .byte (2 : Int32) [(.int (nar .byte ((c0 >>> ((0 : Int32) &&& 31)).toInt8.toInt32))), (.int (nar .byte ((c0 >>> ((8 : Int32) &&& 31)).toInt8.toInt32)))] (.int 0)) := by
  refine own_body (plainFor_of_name pn_java_lang_String) ?_
  intro p e s m below meth c s₁ hx hby hml hZ hown hnm hlk hret X0 e0
  have N0 := Fr.nil n0
  have K0 : Keep h0 h0 [a0b] := Keep.refl _ _
  refine Go.st (T' := s₁) (f' := (mkF m 0 #[rv a0b, rv a1] [])) (fun _ k => castTop (by first | (simp [entryFrame, mkF, argsToLocals, Value.category]; done) | rfl) k) ?_
  have ⟨S_i_COMPACT_STRINGS, nz_i_COMPACT_STRINGS, S_v_SIOOBE_FORMATTER, r_v_SIOOBE_FORMATTER, S_i__assertionsDisabled, S_i_HI_BYTE_SHIFT, S_i_LO_BYTE_SHIFT⟩ := WW
  have lt_a0b := E_a0b.lt
  have lt_a1 := V_a1.lt
  refine Go.st (f' := (mkF m 1 #[rv a0b, rv a1] [(.ref a0b)])) (fun _ k => XS.aloadN X0.here hx rfl (hb hby d1_0) rfl rfl k) ?_
  refine Go.st (f' := (mkF m 2 #[rv a0b, rv a1] [(.ref a1), (.ref a0b)])) (fun _ k => XS.aloadN X0.here hx rfl (hb hby d1_1) rfl rfl k) ?_
  refine Go.st (f' := (mkF m 3 #[rv a0b, rv a1] [(.int 0), (.ref a1), (.ref a0b)])) (fun _ k => XS.iconst X0.here hx rfl (hb hby d1_2) k) ?_
  refine Go.st (f' := (mkF m 4 #[rv a0b, rv a1] [(.ref a1), (.int 0), (.ref a1), (.ref a0b)])) (fun _ k => XS.aloadN X0.here hx rfl (hb hby d1_3) rfl rfl k) ?_
  obtain ⟨cl1, Ar1, -, S1, Nx1, -, -⟩ := id V_a1
  refine Go.st (T' := s₁) (f' := (mkF m 5 #[rv a0b, rv a1] [(.int 1), (.int 0), (.ref a1), (.ref a0b)])) (fun _ k => X0.arraylength hx (by rw [e0]; exact Ar1.1) (State.isArrayOf_alike hZ.alike Ar1.2.1) (g := (mkF m 4 #[rv a0b, rv a1] [(.ref a1), (.int 0), (.ref a1), (.ref a0b)])) rfl rfl (hb hby d1_4) _ (by rw [len_of S1 Nx1]; exact k)) ?_
  refine Go.st (f' := (mkF m 6 #[rv a0b, rv a1] [.null, (.int 1), (.int 0), (.ref a1), (.ref a0b)])) (fun _ k => XS.aconstNull X0.here hx rfl (hb hby d1_5) k) ?_
  obtain ⟨_, _, ⟨T2, L2, kk2, nn2⟩, -, X2, ⟨Lc2, hQ2, lq2, yq2, zz2⟩, st2⟩ := X0.specialBack hx (y := (⟨"java/lang/String", "<init>", "([CIILjava/lang/Void;)V"⟩ : MethodName)) rfl hown (mvT hZ (ww hw 16 rfl)) (mvT hZ (ww hw 17 rfl)) (mvT hZ (ww hw 19 rfl)) (by decide) (own_back (W := 0) (uv_1_u l Z a0 hw [] a0b a1 k1 c0 i_COMPACT_STRINGS v_SIOOBE_FORMATTER h0 n0 O0 hu hk_c0 g_a0b nb1 E_a0b F_a0b_coder F_a0b_value V_a1 WW) hZ (ww hw 19 rfl) (ww hw 3 rfl) (by decide) (by decide)) (g := (mkF m 6 #[rv a0b, rv a1] [.null, (.int 1), (.int 0), (.ref a1), (.ref a0b)])) rfl (by rw [hml]; rfl) (Steps.refl _) (a := a0b) (argsL := [(.ref a1), (.int (0 : Int32)), (.int (1 : Int32)), .null]) (rest := []) (lenOf pd___CIILjava_lang_Void__V rfl) rfl (by show 2 * 0 + _ ≤ _; exact Nat.le_of_eq rfl) (hb hby d1_6) (fun _ _ => ⟨rfl, e0, (by decide : 0 + 2 ≤ _), (by decide : 0 + 3 ≤ _)⟩)
  dsimp only [Pt.U, Pt.locs, Pt.cells, Pt.slots] at X2 lq2 yq2 zz2 st2 hQ2
  subst lq2 yq2 zz2
  obtain ⟨rfl, Nq2, kq2, eq2, cq2, tt2, kt2, zq2, fq2, vq2⟩ := hQ2
  have N2 := Fr.app N0 Nq2
  have ne_a0b_tt2 : a0b ≠ tt2 := Nat.ne_of_lt (Nat.lt_of_lt_of_le lt_a0b zq2)
  have ne_a1_tt2 : a1 ≠ tt2 := Nat.ne_of_lt (Nat.lt_of_lt_of_le lt_a1 zq2)
  have g_tt2 : n0 ≤ tt2 := Nat.le_trans (O0.1 ▸ O0.2.1) zq2
  have sz_tt2 : h0.size ≤ tt2 := Nat.le_trans K0.1 zq2
  have O2 : Old Z n0 T2.heap := O0.keep kq2 (allS g_a0b all0)
  have K2 : Keep h0 T2.heap [a0b] := K0.trans kq2 (allS (Or.inl (List.mem_of_getElem? (i := 0) rfl)) all0)
  have lt_tt2 := vq2.lt
  refine Go.tr (f' := (mkF m 9 #[rv a0b, rv a1] [])) st2 ?_
  refine Go.ret0 X2 hlk hx hret (hb hby d1_9) rfl ?_ (by decide) (by decide)
  exact ⟨rfl, N2, K2, eq2, cq2, tt2, kt2, sz_tt2, fq2, vq2⟩
set_option maxRecDepth 65536 in
set_option maxHeartbeats 40000000 in
theorem u1_1_1 (l : Launch) (Z : State) (a0 : Array Value) (hw : ∀ d ∈ tables_1, d.before a0 Z = true) (ws : List Jvm.Cond) (a0b : Addr) (a1 : Addr) (k1 : ClassId) (c0 : Int32) (i_COMPACT_STRINGS : Int32) (v_SIOOBE_FORMATTER : Value) (h0 : Heap) (n0 : Nat) (O0 : Old Z n0 h0) (hc_c0 : ¬ (255 : Int32) < c0) (g_a0b : n0 ≤ a0b) (nb1 : a0b ≠ a1) (E_a0b : Exa Z h0 a0b "java/lang/String") (F_a0b_coder : Fld Z h0 a0b "java/lang/String" "coder" "B" (.int 0)) (F_a0b_value : Fld Z h0 a0b "java/lang/String" "value" "[B" .null) (V_a1 : Arv Z h0 a1 k1 .char (1 : Int32) [(.int c0)] (.int 0)) (WW : World1 Z i_COMPACT_STRINGS v_SIOOBE_FORMATTER) :
    Con l Z (⟨"java/lang/String", "<init>", "([C)V"⟩ : MethodName) jdk_42_method_3_code 2 none ws ({ frames := 5, cells := 2, slots := 3, locals := 74 } : Room) #[(.ref a0b), (.ref a1)] h0 (fun v h L => v = none ∧ Fr n0 L ∧ Keep h0 h [a0b] ∧ Exa Z h a0b "java/lang/String" ∧ Fld Z h a0b "java/lang/String" "coder" "B" (.int 0) ∧ ∃ (t : Addr) (kt : ClassId), h0.size ≤ t ∧ Fld Z h a0b "java/lang/String" "value" "[B" (.ref t) ∧ Arv Z h t kt .byte (1 : Int32) [(.int (nar .byte (c0.toInt8.toInt32)))] (.int 0)) := by
  refine own_body (plainFor_of_name pn_java_lang_String) ?_
  intro p e s m below meth c s₁ hx hby hml hZ hown hnm hlk hret X0 e0
  have N0 := Fr.nil n0
  have K0 : Keep h0 h0 [a0b] := Keep.refl _ _
  refine Go.st (T' := s₁) (f' := (mkF m 0 #[rv a0b, rv a1] [])) (fun _ k => castTop (by first | (simp [entryFrame, mkF, argsToLocals, Value.category]; done) | rfl) k) ?_
  have ⟨S_i_COMPACT_STRINGS, nz_i_COMPACT_STRINGS, S_v_SIOOBE_FORMATTER, r_v_SIOOBE_FORMATTER, S_i__assertionsDisabled, S_i_HI_BYTE_SHIFT, S_i_LO_BYTE_SHIFT⟩ := WW
  have lt_a0b := E_a0b.lt
  have lt_a1 := V_a1.lt
  refine Go.st (f' := (mkF m 1 #[rv a0b, rv a1] [(.ref a0b)])) (fun _ k => XS.aloadN X0.here hx rfl (hb hby d1_0) rfl rfl k) ?_
  refine Go.st (f' := (mkF m 2 #[rv a0b, rv a1] [(.ref a1), (.ref a0b)])) (fun _ k => XS.aloadN X0.here hx rfl (hb hby d1_1) rfl rfl k) ?_
  refine Go.st (f' := (mkF m 3 #[rv a0b, rv a1] [(.int 0), (.ref a1), (.ref a0b)])) (fun _ k => XS.iconst X0.here hx rfl (hb hby d1_2) k) ?_
  refine Go.st (f' := (mkF m 4 #[rv a0b, rv a1] [(.ref a1), (.int 0), (.ref a1), (.ref a0b)])) (fun _ k => XS.aloadN X0.here hx rfl (hb hby d1_3) rfl rfl k) ?_
  obtain ⟨cl1, Ar1, -, S1, Nx1, -, -⟩ := id V_a1
  refine Go.st (T' := s₁) (f' := (mkF m 5 #[rv a0b, rv a1] [(.int 1), (.int 0), (.ref a1), (.ref a0b)])) (fun _ k => X0.arraylength hx (by rw [e0]; exact Ar1.1) (State.isArrayOf_alike hZ.alike Ar1.2.1) (g := (mkF m 4 #[rv a0b, rv a1] [(.ref a1), (.int 0), (.ref a1), (.ref a0b)])) rfl rfl (hb hby d1_4) _ (by rw [len_of S1 Nx1]; exact k)) ?_
  refine Go.st (f' := (mkF m 6 #[rv a0b, rv a1] [.null, (.int 1), (.int 0), (.ref a1), (.ref a0b)])) (fun _ k => XS.aconstNull X0.here hx rfl (hb hby d1_5) k) ?_
  obtain ⟨_, _, ⟨T2, L2, kk2, nn2⟩, -, X2, ⟨Lc2, hQ2, lq2, yq2, zz2⟩, st2⟩ := X0.specialBack hx (y := (⟨"java/lang/String", "<init>", "([CIILjava/lang/Void;)V"⟩ : MethodName)) rfl hown (mvT hZ (ww hw 16 rfl)) (mvT hZ (ww hw 17 rfl)) (mvT hZ (ww hw 19 rfl)) (by decide) (own_back (W := 0) (uv_1_1 l Z a0 hw [] a0b a1 k1 c0 i_COMPACT_STRINGS v_SIOOBE_FORMATTER h0 n0 O0 hc_c0 g_a0b nb1 E_a0b F_a0b_coder F_a0b_value V_a1 WW) hZ (ww hw 19 rfl) (ww hw 3 rfl) (by decide) (by decide)) (g := (mkF m 6 #[rv a0b, rv a1] [.null, (.int 1), (.int 0), (.ref a1), (.ref a0b)])) rfl (by rw [hml]; rfl) (Steps.refl _) (a := a0b) (argsL := [(.ref a1), (.int (0 : Int32)), (.int (1 : Int32)), .null]) (rest := []) (lenOf pd___CIILjava_lang_Void__V rfl) rfl (by show 2 * 0 + _ ≤ _; exact Nat.le_of_eq rfl) (hb hby d1_6) (fun _ _ => ⟨rfl, e0, (by decide : 0 + 1 ≤ _), (by decide : 0 + 1 ≤ _)⟩)
  dsimp only [Pt.U, Pt.locs, Pt.cells, Pt.slots] at X2 lq2 yq2 zz2 st2 hQ2
  subst lq2 yq2 zz2
  obtain ⟨rfl, Nq2, kq2, eq2, cq2, tt2, kt2, zq2, fq2, vq2⟩ := hQ2
  have N2 := Fr.app N0 Nq2
  have ne_a0b_tt2 : a0b ≠ tt2 := Nat.ne_of_lt (Nat.lt_of_lt_of_le lt_a0b zq2)
  have ne_a1_tt2 : a1 ≠ tt2 := Nat.ne_of_lt (Nat.lt_of_lt_of_le lt_a1 zq2)
  have g_tt2 : n0 ≤ tt2 := Nat.le_trans (O0.1 ▸ O0.2.1) zq2
  have sz_tt2 : h0.size ≤ tt2 := Nat.le_trans K0.1 zq2
  have O2 : Old Z n0 T2.heap := O0.keep kq2 (allS g_a0b all0)
  have K2 : Keep h0 T2.heap [a0b] := K0.trans kq2 (allS (Or.inl (List.mem_of_getElem? (i := 0) rfl)) all0)
  have lt_tt2 := vq2.lt
  refine Go.tr (f' := (mkF m 9 #[rv a0b, rv a1] [])) st2 ?_
  refine Go.ret0 X2 hlk hx hret (hb hby d1_9) rfl ?_ (by decide) (by decide)
  exact ⟨rfl, N2, K2, eq2, cq2, tt2, kt2, sz_tt2, fq2, vq2⟩
def Sx1 (Z : State) (h : Heap) (a0b t : Addr) (kt : ClassId) (c0 : Int32) : Prop := ((Fld Z h a0b "java/lang/String" "coder" "B" (.int (0 : Int32)) ∧ (¬ (255 : Int32) < c0) ∧ Arv Z h t kt .byte (1 : Int32) [(.int (nar .byte (c0.toInt8.toInt32)))] (.int (0 : Int32))) ∨ (Fld Z h a0b "java/lang/String" "coder" "B" (.int (1 : Int32)) ∧ Arv Z h t kt .byte (2 : Int32) [(.int (nar .byte ((c0 >>> ((0 : Int32) &&& 31)).toInt8.toInt32))), (.int (nar .byte ((c0 >>> ((8 : Int32) &&& 31)).toInt8.toInt32)))] (.int (0 : Int32))))
theorem uA_1 (l : Launch) (Z : State) (a0 : Array Value) (hw : ∀ d ∈ tables_1, d.before a0 Z = true) (ws : List Jvm.Cond) (a0b : Addr) (a1 : Addr) (k1 : ClassId) (c0 : Int32) (i_COMPACT_STRINGS : Int32) (v_SIOOBE_FORMATTER : Value) (h0 : Heap) (n0 : Nat) (O0 : Old Z n0 h0) (hk_c0 : 0 ≤ c0.toInt ∧ c0.toInt < 65536) (g_a0b : n0 ≤ a0b) (nb1 : a0b ≠ a1) (E_a0b : Exa Z h0 a0b "java/lang/String") (F_a0b_coder : Fld Z h0 a0b "java/lang/String" "coder" "B" (.int 0)) (F_a0b_value : Fld Z h0 a0b "java/lang/String" "value" "[B" .null) (V_a1 : Arv Z h0 a1 k1 .char (1 : Int32) [(.int c0)] (.int 0)) (WW : World1 Z i_COMPACT_STRINGS v_SIOOBE_FORMATTER) :
    Con l Z (⟨"java/lang/String", "<init>", "([C)V"⟩ : MethodName) jdk_42_method_3_code 2 none ws ({ frames := 5, cells := 2, slots := 3, locals := 74 } : Room) #[(.ref a0b), (.ref a1)] h0 (fun v h L => v = none ∧ Fr n0 L ∧ Keep h0 h [a0b] ∧ Exa Z h a0b "java/lang/String" ∧ ∃ (t : Addr) (kt : ClassId), h0.size ≤ t ∧ Fld Z h a0b "java/lang/String" "value" "[B" (.ref t) ∧ Sx1 Z h a0b t kt c0) := by
  by_cases q0 : (255 : Int32) < c0
  · exact Con.weaken (u1_1_u l Z a0 hw ws a0b a1 k1 c0 i_COMPACT_STRINGS v_SIOOBE_FORMATTER h0 n0 O0 (q0) hk_c0 g_a0b nb1 E_a0b F_a0b_coder F_a0b_value V_a1 WW) (fun _ _ _ ⟨z1, z2, z3, z4, z5, t, kt, z6, z7, z8⟩ => ⟨z1, z2, z3, z4, t, kt, z6, z7, Or.inr ⟨z5, z8⟩⟩)
  exact Con.weaken (u1_1_1 l Z a0 hw ws a0b a1 k1 c0 i_COMPACT_STRINGS v_SIOOBE_FORMATTER h0 n0 O0 q0 g_a0b nb1 E_a0b F_a0b_coder F_a0b_value V_a1 WW) (fun _ _ _ ⟨z1, z2, z3, z4, z5, t, kt, z6, z7, z8⟩ => ⟨z1, z2, z3, z4, t, kt, z6, z7, Or.inl ⟨z5, q0, z8⟩⟩)
set_option maxRecDepth 65536 in
set_option maxHeartbeats 40000000 in
theorem uc_2_2 (l : Launch) (Z : State) (a0 : Array Value) (hw : ∀ d ∈ tables_1, d.before a0 Z = true) (ws : List Jvm.Cond) (a1 : Addr) (k1 : ClassId) (x0 : Int32) (x1 : Int32) (h0 : Heap) (n0 : Nat) (O0 : Old Z n0 h0) (V_a1 : Arv Z h0 a1 k1 .byte (2 : Int32) [(.int x0), (.int x1)] (.int 0)) :
    Con l Z (⟨"java/lang/StringUTF16", "coderFromArrayLen", "([BI)B"⟩ : MethodName) jdk_52_method_15_code 2 (some .byte) ws ({ frames := 0, cells := 0, slots := 0, locals := 0 } : Room) #[(.ref a1), (.int 2)] h0 (fun v h L => v = some (.int 0) ∧ Fr n0 L ∧ h = h0) := by
  refine own_body (plainFor_of_name pn_java_lang_StringUTF16) ?_
  intro p e s m below meth c s₁ hx hby hml hZ hown hnm hlk hret X0 e0
  have N0 := Fr.nil n0
  refine Go.st (T' := s₁) (f' := (mkF m 0 #[rv a1, iv 2] [])) (fun _ k => castTop (by first | (simp [entryFrame, mkF, argsToLocals, Value.category]; done) | rfl) k) ?_
  have lt_a1 := V_a1.lt
  refine Go.st (f' := (mkF m 1 #[rv a1, iv 2] [(.int 2)])) (fun _ k => XS.iloadN X0.here hx rfl (hb hby d9_0) rfl k) ?_
  refine Go.st (f' := (mkF m 2 #[rv a1, iv 2] [(.ref a1), (.int 2)])) (fun _ k => XS.aloadN X0.here hx rfl (hb hby d9_1) rfl rfl k) ?_
  obtain ⟨cl1, Ar1, -, S1, Nx1, -, -⟩ := id V_a1
  refine Go.st (T' := s₁) (f' := (mkF m 3 #[rv a1, iv 2] [(.int 2), (.int 2)])) (fun _ k => X0.arraylength hx (by rw [e0]; exact Ar1.1) (State.isArrayOf_alike hZ.alike Ar1.2.1) (g := (mkF m 2 #[rv a1, iv 2] [(.ref a1), (.int 2)])) rfl rfl (hb hby d9_2) _ (by rw [len_of S1 Nx1]; exact k)) ?_
  refine Go.st (f' := (mkF m 4 #[rv a1, iv 2] [(.int 0)])) (fun _ k => XS.isub X0.here hx rfl (hb hby d9_3) rfl k) ?_
  refine Go.st (f' := (mkF m 6 #[rv a1, iv 2] [(.int 31), (.int 0)])) (fun _ k => XS.bipush X0.here hx rfl (hb hby d9_4) k) ?_
  refine Go.st (f' := (mkF m 7 #[rv a1, iv 2] [(.int 0)])) (fun _ k => XS.iushr X0.here hx rfl (hb hby d9_6) rfl k) ?_
  refine Go.st (f' := (mkF m 8 #[rv a1, iv 2] [(.int 0)])) (fun _ k => XS.i2b X0.here hx rfl (hb hby d9_7) rfl k) ?_
  refine Go.retB X0 hlk hx (t := .byte) hret (by simp) (hb hby d9_8) e0 ?_ (by decide) (by decide)
  exact ⟨rfl, N0, rfl⟩
set_option maxRecDepth 65536 in
set_option maxHeartbeats 40000000 in
theorem uc_2_4 (l : Launch) (Z : State) (a0 : Array Value) (hw : ∀ d ∈ tables_1, d.before a0 Z = true) (ws : List Jvm.Cond) (a1 : Addr) (k1 : ClassId) (x0 : Int32) (x1 : Int32) (x2 : Int32) (x3 : Int32) (h0 : Heap) (n0 : Nat) (O0 : Old Z n0 h0) (V_a1 : Arv Z h0 a1 k1 .byte (4 : Int32) [(.int x0), (.int x1), (.int x2), (.int x3)] (.int 0)) :
    Con l Z (⟨"java/lang/StringUTF16", "coderFromArrayLen", "([BI)B"⟩ : MethodName) jdk_52_method_15_code 2 (some .byte) ws ({ frames := 0, cells := 0, slots := 0, locals := 0 } : Room) #[(.ref a1), (.int 2)] h0 (fun v h L => v = some (.int 1) ∧ Fr n0 L ∧ h = h0) := by
  refine own_body (plainFor_of_name pn_java_lang_StringUTF16) ?_
  intro p e s m below meth c s₁ hx hby hml hZ hown hnm hlk hret X0 e0
  have N0 := Fr.nil n0
  refine Go.st (T' := s₁) (f' := (mkF m 0 #[rv a1, iv 2] [])) (fun _ k => castTop (by first | (simp [entryFrame, mkF, argsToLocals, Value.category]; done) | rfl) k) ?_
  have lt_a1 := V_a1.lt
  refine Go.st (f' := (mkF m 1 #[rv a1, iv 2] [(.int 2)])) (fun _ k => XS.iloadN X0.here hx rfl (hb hby d9_0) rfl k) ?_
  refine Go.st (f' := (mkF m 2 #[rv a1, iv 2] [(.ref a1), (.int 2)])) (fun _ k => XS.aloadN X0.here hx rfl (hb hby d9_1) rfl rfl k) ?_
  obtain ⟨cl1, Ar1, -, S1, Nx1, -, -⟩ := id V_a1
  refine Go.st (T' := s₁) (f' := (mkF m 3 #[rv a1, iv 2] [(.int 4), (.int 2)])) (fun _ k => X0.arraylength hx (by rw [e0]; exact Ar1.1) (State.isArrayOf_alike hZ.alike Ar1.2.1) (g := (mkF m 2 #[rv a1, iv 2] [(.ref a1), (.int 2)])) rfl rfl (hb hby d9_2) _ (by rw [len_of S1 Nx1]; exact k)) ?_
  refine Go.st (f' := (mkF m 4 #[rv a1, iv 2] [(.int (-2))])) (fun _ k => XS.isub X0.here hx rfl (hb hby d9_3) rfl k) ?_
  refine Go.st (f' := (mkF m 6 #[rv a1, iv 2] [(.int 31), (.int (-2))])) (fun _ k => XS.bipush X0.here hx rfl (hb hby d9_4) k) ?_
  refine Go.st (f' := (mkF m 7 #[rv a1, iv 2] [(.int 1)])) (fun _ k => XS.iushr X0.here hx rfl (hb hby d9_6) rfl k) ?_
  refine Go.st (f' := (mkF m 8 #[rv a1, iv 2] [(.int 1)])) (fun _ k => XS.i2b X0.here hx rfl (hb hby d9_7) rfl k) ?_
  refine Go.retB X0 hlk hx (t := .byte) hret (by simp) (hb hby d9_8) e0 ?_ (by decide) (by decide)
  exact ⟨rfl, N0, rfl⟩
set_option maxRecDepth 65536 in
set_option maxHeartbeats 40000000 in
theorem u5_2_0 (l : Launch) (Z : State) (a0 : Array Value) (hw : ∀ d ∈ tables_1, d.before a0 Z = true) (ws : List Jvm.Cond) (a2 : Addr) (k2 : ClassId) (a1 : Addr) (k1 : ClassId) (c0 : Int32) (c1 : Int32) (h0 : Heap) (n0 : Nat) (O0 : Old Z n0 h0) (hc_c0 : (255 : Int32) < c0) (hk_c0 : 0 ≤ c0.toInt ∧ c0.toInt < 65536) (ne12 : a1 ≠ a2) (g_a2 : n0 ≤ a2) (V_a1 : Arv Z h0 a1 k1 .char (2 : Int32) [(.int c0), (.int c1)] (.int 0)) (V_a2 : Arv Z h0 a2 k2 .byte (2 : Int32) [(.int 0), (.int 0)] (.int 0)) :
    Con l Z (⟨"java/lang/StringUTF16", "compress", "([CI[BII)I"⟩ : MethodName) jdk_52_method_21_code 7 (some .int) ws ({ frames := 0, cells := 0, slots := 0, locals := 0 } : Room) #[(.ref a1), (.int 0), (.ref a2), (.int 0), (.int 2)] h0 (fun v h L => v = some (.int 0) ∧ Fr n0 L ∧ Keep h0 h [a2] ∧ Arv Z h a2 k2 .byte (2 : Int32) [(.int 0), (.int 0)] (.int 0)) := by
  refine own_body (plainFor_of_name pn_java_lang_StringUTF16) ?_
  intro p e s m below meth c s₁ hx hby hml hZ hown hnm hlk hret X0 e0
  have N0 := Fr.nil n0
  have K0 : Keep h0 h0 [a2] := Keep.refl _ _
  refine Go.st (T' := s₁) (f' := (mkF m 0 #[rv a1, iv 0, rv a2, iv 0, iv 2, .unset, .unset] [])) (fun _ k => castTop (by first | (simp [entryFrame, mkF, argsToLocals, Value.category]; done) | rfl) k) ?_
  have lt_a1 := V_a1.lt
  have lt_a2 := V_a2.lt
  refine Go.st (f' := (mkF m 1 #[rv a1, iv 0, rv a2, iv 0, iv 2, .unset, .unset] [(.int 0)])) (fun _ k => XS.iconst X0.here hx rfl (hb hby d8_0) k) ?_
  refine Go.st (f' := (mkF m 3 #[rv a1, iv 0, rv a2, iv 0, iv 2, iv 0, .unset] [])) (fun _ k => XS.istore X0.here hx rfl (hb hby d8_1) rfl (l' := #[rv a1, iv 0, rv a2, iv 0, iv 2, iv 0, .unset]) rfl k) ?_
  refine Go.st (f' := (mkF m 5 #[rv a1, iv 0, rv a2, iv 0, iv 2, iv 0, .unset] [(.int 0)])) (fun _ k => XS.iload X0.here hx rfl (hb hby d8_3) rfl k) ?_
  refine Go.st (f' := (mkF m 7 #[rv a1, iv 0, rv a2, iv 0, iv 2, iv 0, .unset] [(.int 2), (.int 0)])) (fun _ k => XS.iload X0.here hx rfl (hb hby d8_5) rfl k) ?_
  refine Go.st (f' := (mkF m 10 #[rv a1, iv 0, rv a2, iv 0, iv 2, iv 0, .unset] [])) (fun _ k => XS.icmpNo X0.here hx rfl (hb hby d8_7) rfl (by decide) k) ?_
  refine Go.st (f' := (mkF m 11 #[rv a1, iv 0, rv a2, iv 0, iv 2, iv 0, .unset] [(.ref a1)])) (fun _ k => XS.aloadN X0.here hx rfl (hb hby d8_10) rfl rfl k) ?_
  refine Go.st (f' := (mkF m 12 #[rv a1, iv 0, rv a2, iv 0, iv 2, iv 0, .unset] [(.int 0), (.ref a1)])) (fun _ k => XS.iloadN X0.here hx rfl (hb hby d8_11) rfl k) ?_
  obtain ⟨cl1, Ar1, -, S1, -, H1, -⟩ := id V_a1
  have hin1 : ¬ ((0 : Int32) < 0 ∨ cl1.slots.size ≤ ((0 : Int32)).toNatClampNeg) := inb_of S1 ⟨by decide, by decide⟩
  have hat1 : cl1.slots[((0 : Int32)).toNatClampNeg]? = some (.int c0) := H1.at hin1 rfl
  refine Go.st (f' := (mkF m 13 #[rv a1, iv 0, rv a2, iv 0, iv 2, iv 0, .unset] [(.int c0)])) (fun _ k => X0.caload hx (j := (0 : Int32)) (v := (.int c0)) (by rw [e0]; exact Ar1.1) (State.isArrayOf_alike hZ.alike Ar1.2.1) Ar1.2.2 hin1 hat1 (g := (mkF m 12 #[rv a1, iv 0, rv a2, iv 0, iv 2, iv 0, .unset] [(.int 0), (.ref a1)])) rfl rfl (hb hby d8_12) _ k) ?_
  refine Go.st (f' := (mkF m 15 #[rv a1, iv 0, rv a2, iv 0, iv 2, iv 0, iv c0] [])) (fun _ k => XS.istore X0.here hx rfl (hb hby d8_13) rfl (l' := #[rv a1, iv 0, rv a2, iv 0, iv 2, iv 0, iv c0]) rfl k) ?_
  refine Go.st (f' := (mkF m 17 #[rv a1, iv 0, rv a2, iv 0, iv 2, iv 0, iv c0] [(.int c0)])) (fun _ k => XS.iload X0.here hx rfl (hb hby d8_15) rfl k) ?_
  refine Go.st (f' := (mkF m 20 #[rv a1, iv 0, rv a2, iv 0, iv 2, iv 0, iv c0] [(.int 255), (.int c0)])) (fun _ k => XS.sipush X0.here hx rfl (hb hby d8_17) k) ?_
  refine Go.st (f' := (mkF m 23 #[rv a1, iv 0, rv a2, iv 0, iv 2, iv 0, iv c0] [])) (fun _ k => XS.icmpNo X0.here hx rfl (hb hby d8_20) rfl (tlt hc_c0).2.2.2 k) ?_
  refine Go.st (f' := (mkF m 25 #[rv a1, iv 0, rv a2, iv 0, iv 2, iv 0, iv c0] [(.int 0)])) (fun _ k => XS.iload X0.here hx rfl (hb hby d8_23) rfl k) ?_
  refine Go.retV X0 hlk hx (t := .int) hret rfl (Or.inl ⟨rfl, Or.inl rfl, _, rfl⟩) (hb hby d8_25) e0 ?_ (by decide) (by decide)
  exact ⟨rfl, N0, K0, V_a2⟩
set_option maxRecDepth 65536 in
set_option maxHeartbeats 40000000 in
theorem u5_2_1 (l : Launch) (Z : State) (a0 : Array Value) (hw : ∀ d ∈ tables_1, d.before a0 Z = true) (ws : List Jvm.Cond) (a2 : Addr) (k2 : ClassId) (a1 : Addr) (k1 : ClassId) (c0 : Int32) (c1 : Int32) (h0 : Heap) (n0 : Nat) (O0 : Old Z n0 h0) (hc_c0 : ¬ (255 : Int32) < c0) (hc_c1 : (255 : Int32) < c1) (hk_c1 : 0 ≤ c1.toInt ∧ c1.toInt < 65536) (ne12 : a1 ≠ a2) (g_a2 : n0 ≤ a2) (V_a1 : Arv Z h0 a1 k1 .char (2 : Int32) [(.int c0), (.int c1)] (.int 0)) (V_a2 : Arv Z h0 a2 k2 .byte (2 : Int32) [(.int 0), (.int 0)] (.int 0)) :
    Con l Z (⟨"java/lang/StringUTF16", "compress", "([CI[BII)I"⟩ : MethodName) jdk_52_method_21_code 7 (some .int) ws ({ frames := 0, cells := 0, slots := 0, locals := 0 } : Room) #[(.ref a1), (.int 0), (.ref a2), (.int 0), (.int 2)] h0 (fun v h L => v = some (.int 1) ∧ Fr n0 L ∧ Keep h0 h [a2] ∧ Arv Z h a2 k2 .byte (2 : Int32) [(.int (nar .byte (c0.toInt8.toInt32))), (.int 0)] (.int 0)) := by
  refine own_body (plainFor_of_name pn_java_lang_StringUTF16) ?_
  intro p e s m below meth c s₁ hx hby hml hZ hown hnm hlk hret X0 e0
  have N0 := Fr.nil n0
  have K0 : Keep h0 h0 [a2] := Keep.refl _ _
  refine Go.st (T' := s₁) (f' := (mkF m 0 #[rv a1, iv 0, rv a2, iv 0, iv 2, .unset, .unset] [])) (fun _ k => castTop (by first | (simp [entryFrame, mkF, argsToLocals, Value.category]; done) | rfl) k) ?_
  have lt_a1 := V_a1.lt
  have lt_a2 := V_a2.lt
  refine Go.st (f' := (mkF m 1 #[rv a1, iv 0, rv a2, iv 0, iv 2, .unset, .unset] [(.int 0)])) (fun _ k => XS.iconst X0.here hx rfl (hb hby d8_0) k) ?_
  refine Go.st (f' := (mkF m 3 #[rv a1, iv 0, rv a2, iv 0, iv 2, iv 0, .unset] [])) (fun _ k => XS.istore X0.here hx rfl (hb hby d8_1) rfl (l' := #[rv a1, iv 0, rv a2, iv 0, iv 2, iv 0, .unset]) rfl k) ?_
  refine Go.st (f' := (mkF m 5 #[rv a1, iv 0, rv a2, iv 0, iv 2, iv 0, .unset] [(.int 0)])) (fun _ k => XS.iload X0.here hx rfl (hb hby d8_3) rfl k) ?_
  refine Go.st (f' := (mkF m 7 #[rv a1, iv 0, rv a2, iv 0, iv 2, iv 0, .unset] [(.int 2), (.int 0)])) (fun _ k => XS.iload X0.here hx rfl (hb hby d8_5) rfl k) ?_
  refine Go.st (f' := (mkF m 10 #[rv a1, iv 0, rv a2, iv 0, iv 2, iv 0, .unset] [])) (fun _ k => XS.icmpNo X0.here hx rfl (hb hby d8_7) rfl (by decide) k) ?_
  refine Go.st (f' := (mkF m 11 #[rv a1, iv 0, rv a2, iv 0, iv 2, iv 0, .unset] [(.ref a1)])) (fun _ k => XS.aloadN X0.here hx rfl (hb hby d8_10) rfl rfl k) ?_
  refine Go.st (f' := (mkF m 12 #[rv a1, iv 0, rv a2, iv 0, iv 2, iv 0, .unset] [(.int 0), (.ref a1)])) (fun _ k => XS.iloadN X0.here hx rfl (hb hby d8_11) rfl k) ?_
  obtain ⟨cl1, Ar1, -, S1, -, H1, -⟩ := id V_a1
  have hin1 : ¬ ((0 : Int32) < 0 ∨ cl1.slots.size ≤ ((0 : Int32)).toNatClampNeg) := inb_of S1 ⟨by decide, by decide⟩
  have hat1 : cl1.slots[((0 : Int32)).toNatClampNeg]? = some (.int c0) := H1.at hin1 rfl
  refine Go.st (f' := (mkF m 13 #[rv a1, iv 0, rv a2, iv 0, iv 2, iv 0, .unset] [(.int c0)])) (fun _ k => X0.caload hx (j := (0 : Int32)) (v := (.int c0)) (by rw [e0]; exact Ar1.1) (State.isArrayOf_alike hZ.alike Ar1.2.1) Ar1.2.2 hin1 hat1 (g := (mkF m 12 #[rv a1, iv 0, rv a2, iv 0, iv 2, iv 0, .unset] [(.int 0), (.ref a1)])) rfl rfl (hb hby d8_12) _ k) ?_
  refine Go.st (f' := (mkF m 15 #[rv a1, iv 0, rv a2, iv 0, iv 2, iv 0, iv c0] [])) (fun _ k => XS.istore X0.here hx rfl (hb hby d8_13) rfl (l' := #[rv a1, iv 0, rv a2, iv 0, iv 2, iv 0, iv c0]) rfl k) ?_
  refine Go.st (f' := (mkF m 17 #[rv a1, iv 0, rv a2, iv 0, iv 2, iv 0, iv c0] [(.int c0)])) (fun _ k => XS.iload X0.here hx rfl (hb hby d8_15) rfl k) ?_
  refine Go.st (f' := (mkF m 20 #[rv a1, iv 0, rv a2, iv 0, iv 2, iv 0, iv c0] [(.int 255), (.int c0)])) (fun _ k => XS.sipush X0.here hx rfl (hb hby d8_17) k) ?_
  refine Go.st (f' := (mkF m 26 #[rv a1, iv 0, rv a2, iv 0, iv 2, iv 0, iv c0] [])) (fun _ k => XS.icmpYes X0.here hx rfl (pc0 := 20) (pc' := 26) rfl (hb hby d8_20) rfl (flt hc_c0).2.2.2 (by decide) (by decide) k) ?_
  refine Go.st (f' := (mkF m 27 #[rv a1, iv 0, rv a2, iv 0, iv 2, iv 0, iv c0] [(.ref a2)])) (fun _ k => XS.aloadN X0.here hx rfl (hb hby d8_26) rfl rfl k) ?_
  refine Go.st (f' := (mkF m 28 #[rv a1, iv 0, rv a2, iv 0, iv 2, iv 0, iv c0] [(.int 0), (.ref a2)])) (fun _ k => XS.iloadN X0.here hx rfl (hb hby d8_27) rfl k) ?_
  refine Go.st (f' := (mkF m 30 #[rv a1, iv 0, rv a2, iv 0, iv 2, iv 0, iv c0] [(.int c0), (.int 0), (.ref a2)])) (fun _ k => XS.iload X0.here hx rfl (hb hby d8_28) rfl k) ?_
  refine Go.st (f' := (mkF m 31 #[rv a1, iv 0, rv a2, iv 0, iv 2, iv 0, iv c0] [(.int (c0.toInt8.toInt32)), (.int 0), (.ref a2)])) (fun _ k => XS.i2b X0.here hx rfl (hb hby d8_30) rfl k) ?_
  obtain ⟨cl2, Ar2, q2, S2, Nx2, H2, G2⟩ := id V_a2
  have hin2 : ¬ ((0 : Int32) < 0 ∨ cl2.slots.size ≤ ((0 : Int32)).toNatClampNeg) := inb_of S2 ⟨by decide, by decide⟩
  obtain ⟨T3, h3, X3, e3, W3, st3⟩ := stB X0 hx hZ e0 Ar2 (j := (0 : Int32)) hin2 (g := (mkF m 31 #[rv a1, iv 0, rv a2, iv 0, iv 2, iv 0, iv c0] [(.int (c0.toInt8.toInt32)), (.int 0), (.ref a2)])) rfl rfl (hb hby d8_31)
  have V_a2_3 : Arv Z h3 a2 k2 .byte (2 : Int32) [(.int (nar .byte (c0.toInt8.toInt32))), (.int (0 : Int32))] (.int (0 : Int32)) := Arv.set Ar2 q2 S2 Nx2 H2 G2 (fits_nar_byte _) W3 0 rfl (Nat.le_of_ble_eq_true rfl)
  have N3 := Fr.snoc X3 N0 g_a2
  have O3 : Old Z n0 h3 := O0.wr W3 g_a2
  have K3 : Keep h0 h3 [a2] := K0.wr W3 (Or.inl (List.mem_of_getElem? (i := 0) rfl))
  refine Go.st (f' := (mkF m 32 #[rv a1, iv 0, rv a2, iv 0, iv 2, iv 0, iv c0] [])) (fun _ k => st3 _ k) ?_
  refine Go.st (f' := (mkF m 35 #[rv a1, iv 1, rv a2, iv 0, iv 2, iv 0, iv c0] [])) (fun _ k => XS.iinc X3.here hx rfl (hb hby d8_32) rfl (l' := #[rv a1, iv 1, rv a2, iv 0, iv 2, iv 0, iv c0]) rfl k) ?_
  refine Go.st (f' := (mkF m 38 #[rv a1, iv 1, rv a2, iv 1, iv 2, iv 0, iv c0] [])) (fun _ k => XS.iinc X3.here hx rfl (hb hby d8_35) rfl (l' := #[rv a1, iv 1, rv a2, iv 1, iv 2, iv 0, iv c0]) rfl k) ?_
  refine Go.st (f' := (mkF m 41 #[rv a1, iv 1, rv a2, iv 1, iv 2, iv 1, iv c0] [])) (fun _ k => XS.iinc X3.here hx rfl (hb hby d8_38) rfl (l' := #[rv a1, iv 1, rv a2, iv 1, iv 2, iv 1, iv c0]) rfl k) ?_
  refine Go.st (f' := (mkF m 3 #[rv a1, iv 1, rv a2, iv 1, iv 2, iv 1, iv c0] [])) (fun _ k => XS.goto X3.here hx rfl (pc0 := 41) (pc' := 3) rfl (hb hby d8_41) (by decide) (by decide) k) ?_
  refine Go.st (f' := (mkF m 5 #[rv a1, iv 1, rv a2, iv 1, iv 2, iv 1, iv c0] [(.int 1)])) (fun _ k => XS.iload X3.here hx rfl (hb hby d8_3) rfl k) ?_
  refine Go.st (f' := (mkF m 7 #[rv a1, iv 1, rv a2, iv 1, iv 2, iv 1, iv c0] [(.int 2), (.int 1)])) (fun _ k => XS.iload X3.here hx rfl (hb hby d8_5) rfl k) ?_
  refine Go.st (f' := (mkF m 10 #[rv a1, iv 1, rv a2, iv 1, iv 2, iv 1, iv c0] [])) (fun _ k => XS.icmpNo X3.here hx rfl (hb hby d8_7) rfl (by decide) k) ?_
  refine Go.st (f' := (mkF m 11 #[rv a1, iv 1, rv a2, iv 1, iv 2, iv 1, iv c0] [(.ref a1)])) (fun _ k => XS.aloadN X3.here hx rfl (hb hby d8_10) rfl rfl k) ?_
  refine Go.st (f' := (mkF m 12 #[rv a1, iv 1, rv a2, iv 1, iv 2, iv 1, iv c0] [(.int 1), (.ref a1)])) (fun _ k => XS.iloadN X3.here hx rfl (hb hby d8_11) rfl k) ?_
  have ft5 := (V_a1.other W3 ne12)
  obtain ⟨cl4, Ar4, -, S4, -, H4, -⟩ := id ft5
  have hin4 : ¬ ((1 : Int32) < 0 ∨ cl4.slots.size ≤ ((1 : Int32)).toNatClampNeg) := inb_of S4 ⟨by decide, by decide⟩
  have hat4 : cl4.slots[((1 : Int32)).toNatClampNeg]? = some (.int c1) := H4.at hin4 rfl
  refine Go.st (f' := (mkF m 13 #[rv a1, iv 1, rv a2, iv 1, iv 2, iv 1, iv c0] [(.int c1)])) (fun _ k => X3.caload hx (j := (1 : Int32)) (v := (.int c1)) (by rw [e3]; exact Ar4.1) (State.isArrayOf_alike hZ.alike Ar4.2.1) Ar4.2.2 hin4 hat4 (g := (mkF m 12 #[rv a1, iv 1, rv a2, iv 1, iv 2, iv 1, iv c0] [(.int 1), (.ref a1)])) rfl rfl (hb hby d8_12) _ k) ?_
  refine Go.st (f' := (mkF m 15 #[rv a1, iv 1, rv a2, iv 1, iv 2, iv 1, iv c1] [])) (fun _ k => XS.istore X3.here hx rfl (hb hby d8_13) rfl (l' := #[rv a1, iv 1, rv a2, iv 1, iv 2, iv 1, iv c1]) rfl k) ?_
  refine Go.st (f' := (mkF m 17 #[rv a1, iv 1, rv a2, iv 1, iv 2, iv 1, iv c1] [(.int c1)])) (fun _ k => XS.iload X3.here hx rfl (hb hby d8_15) rfl k) ?_
  refine Go.st (f' := (mkF m 20 #[rv a1, iv 1, rv a2, iv 1, iv 2, iv 1, iv c1] [(.int 255), (.int c1)])) (fun _ k => XS.sipush X3.here hx rfl (hb hby d8_17) k) ?_
  refine Go.st (f' := (mkF m 23 #[rv a1, iv 1, rv a2, iv 1, iv 2, iv 1, iv c1] [])) (fun _ k => XS.icmpNo X3.here hx rfl (hb hby d8_20) rfl (tlt hc_c1).2.2.2 k) ?_
  refine Go.st (f' := (mkF m 25 #[rv a1, iv 1, rv a2, iv 1, iv 2, iv 1, iv c1] [(.int 1)])) (fun _ k => XS.iload X3.here hx rfl (hb hby d8_23) rfl k) ?_
  refine Go.retV X3 hlk hx (t := .int) hret rfl (Or.inl ⟨rfl, Or.inl rfl, _, rfl⟩) (hb hby d8_25) e3 ?_ (by decide) (by decide)
  exact ⟨rfl, N3, K3, V_a2_3⟩
set_option maxRecDepth 65536 in
set_option maxHeartbeats 40000000 in
theorem u5_2_2 (l : Launch) (Z : State) (a0 : Array Value) (hw : ∀ d ∈ tables_1, d.before a0 Z = true) (ws : List Jvm.Cond) (a2 : Addr) (k2 : ClassId) (a1 : Addr) (k1 : ClassId) (c0 : Int32) (c1 : Int32) (h0 : Heap) (n0 : Nat) (O0 : Old Z n0 h0) (hc_c0 : ¬ (255 : Int32) < c0) (hc_c1 : ¬ (255 : Int32) < c1) (ne12 : a1 ≠ a2) (g_a2 : n0 ≤ a2) (V_a1 : Arv Z h0 a1 k1 .char (2 : Int32) [(.int c0), (.int c1)] (.int 0)) (V_a2 : Arv Z h0 a2 k2 .byte (2 : Int32) [(.int 0), (.int 0)] (.int 0)) :
    Con l Z (⟨"java/lang/StringUTF16", "compress", "([CI[BII)I"⟩ : MethodName) jdk_52_method_21_code 7 (some .int) ws ({ frames := 0, cells := 0, slots := 0, locals := 0 } : Room) #[(.ref a1), (.int 0), (.ref a2), (.int 0), (.int 2)] h0 (fun v h L => v = some (.int 2) ∧ Fr n0 L ∧ Keep h0 h [a2] ∧ Arv Z h a2 k2 .byte (2 : Int32) [(.int (nar .byte (c0.toInt8.toInt32))), (.int (nar .byte (c1.toInt8.toInt32)))] (.int 0)) := by
  refine own_body (plainFor_of_name pn_java_lang_StringUTF16) ?_
  intro p e s m below meth c s₁ hx hby hml hZ hown hnm hlk hret X0 e0
  have N0 := Fr.nil n0
  have K0 : Keep h0 h0 [a2] := Keep.refl _ _
  refine Go.st (T' := s₁) (f' := (mkF m 0 #[rv a1, iv 0, rv a2, iv 0, iv 2, .unset, .unset] [])) (fun _ k => castTop (by first | (simp [entryFrame, mkF, argsToLocals, Value.category]; done) | rfl) k) ?_
  have lt_a1 := V_a1.lt
  have lt_a2 := V_a2.lt
  refine Go.st (f' := (mkF m 1 #[rv a1, iv 0, rv a2, iv 0, iv 2, .unset, .unset] [(.int 0)])) (fun _ k => XS.iconst X0.here hx rfl (hb hby d8_0) k) ?_
  refine Go.st (f' := (mkF m 3 #[rv a1, iv 0, rv a2, iv 0, iv 2, iv 0, .unset] [])) (fun _ k => XS.istore X0.here hx rfl (hb hby d8_1) rfl (l' := #[rv a1, iv 0, rv a2, iv 0, iv 2, iv 0, .unset]) rfl k) ?_
  refine Go.st (f' := (mkF m 5 #[rv a1, iv 0, rv a2, iv 0, iv 2, iv 0, .unset] [(.int 0)])) (fun _ k => XS.iload X0.here hx rfl (hb hby d8_3) rfl k) ?_
  refine Go.st (f' := (mkF m 7 #[rv a1, iv 0, rv a2, iv 0, iv 2, iv 0, .unset] [(.int 2), (.int 0)])) (fun _ k => XS.iload X0.here hx rfl (hb hby d8_5) rfl k) ?_
  refine Go.st (f' := (mkF m 10 #[rv a1, iv 0, rv a2, iv 0, iv 2, iv 0, .unset] [])) (fun _ k => XS.icmpNo X0.here hx rfl (hb hby d8_7) rfl (by decide) k) ?_
  refine Go.st (f' := (mkF m 11 #[rv a1, iv 0, rv a2, iv 0, iv 2, iv 0, .unset] [(.ref a1)])) (fun _ k => XS.aloadN X0.here hx rfl (hb hby d8_10) rfl rfl k) ?_
  refine Go.st (f' := (mkF m 12 #[rv a1, iv 0, rv a2, iv 0, iv 2, iv 0, .unset] [(.int 0), (.ref a1)])) (fun _ k => XS.iloadN X0.here hx rfl (hb hby d8_11) rfl k) ?_
  obtain ⟨cl1, Ar1, -, S1, -, H1, -⟩ := id V_a1
  have hin1 : ¬ ((0 : Int32) < 0 ∨ cl1.slots.size ≤ ((0 : Int32)).toNatClampNeg) := inb_of S1 ⟨by decide, by decide⟩
  have hat1 : cl1.slots[((0 : Int32)).toNatClampNeg]? = some (.int c0) := H1.at hin1 rfl
  refine Go.st (f' := (mkF m 13 #[rv a1, iv 0, rv a2, iv 0, iv 2, iv 0, .unset] [(.int c0)])) (fun _ k => X0.caload hx (j := (0 : Int32)) (v := (.int c0)) (by rw [e0]; exact Ar1.1) (State.isArrayOf_alike hZ.alike Ar1.2.1) Ar1.2.2 hin1 hat1 (g := (mkF m 12 #[rv a1, iv 0, rv a2, iv 0, iv 2, iv 0, .unset] [(.int 0), (.ref a1)])) rfl rfl (hb hby d8_12) _ k) ?_
  refine Go.st (f' := (mkF m 15 #[rv a1, iv 0, rv a2, iv 0, iv 2, iv 0, iv c0] [])) (fun _ k => XS.istore X0.here hx rfl (hb hby d8_13) rfl (l' := #[rv a1, iv 0, rv a2, iv 0, iv 2, iv 0, iv c0]) rfl k) ?_
  refine Go.st (f' := (mkF m 17 #[rv a1, iv 0, rv a2, iv 0, iv 2, iv 0, iv c0] [(.int c0)])) (fun _ k => XS.iload X0.here hx rfl (hb hby d8_15) rfl k) ?_
  refine Go.st (f' := (mkF m 20 #[rv a1, iv 0, rv a2, iv 0, iv 2, iv 0, iv c0] [(.int 255), (.int c0)])) (fun _ k => XS.sipush X0.here hx rfl (hb hby d8_17) k) ?_
  refine Go.st (f' := (mkF m 26 #[rv a1, iv 0, rv a2, iv 0, iv 2, iv 0, iv c0] [])) (fun _ k => XS.icmpYes X0.here hx rfl (pc0 := 20) (pc' := 26) rfl (hb hby d8_20) rfl (flt hc_c0).2.2.2 (by decide) (by decide) k) ?_
  refine Go.st (f' := (mkF m 27 #[rv a1, iv 0, rv a2, iv 0, iv 2, iv 0, iv c0] [(.ref a2)])) (fun _ k => XS.aloadN X0.here hx rfl (hb hby d8_26) rfl rfl k) ?_
  refine Go.st (f' := (mkF m 28 #[rv a1, iv 0, rv a2, iv 0, iv 2, iv 0, iv c0] [(.int 0), (.ref a2)])) (fun _ k => XS.iloadN X0.here hx rfl (hb hby d8_27) rfl k) ?_
  refine Go.st (f' := (mkF m 30 #[rv a1, iv 0, rv a2, iv 0, iv 2, iv 0, iv c0] [(.int c0), (.int 0), (.ref a2)])) (fun _ k => XS.iload X0.here hx rfl (hb hby d8_28) rfl k) ?_
  refine Go.st (f' := (mkF m 31 #[rv a1, iv 0, rv a2, iv 0, iv 2, iv 0, iv c0] [(.int (c0.toInt8.toInt32)), (.int 0), (.ref a2)])) (fun _ k => XS.i2b X0.here hx rfl (hb hby d8_30) rfl k) ?_
  obtain ⟨cl2, Ar2, q2, S2, Nx2, H2, G2⟩ := id V_a2
  have hin2 : ¬ ((0 : Int32) < 0 ∨ cl2.slots.size ≤ ((0 : Int32)).toNatClampNeg) := inb_of S2 ⟨by decide, by decide⟩
  obtain ⟨T3, h3, X3, e3, W3, st3⟩ := stB X0 hx hZ e0 Ar2 (j := (0 : Int32)) hin2 (g := (mkF m 31 #[rv a1, iv 0, rv a2, iv 0, iv 2, iv 0, iv c0] [(.int (c0.toInt8.toInt32)), (.int 0), (.ref a2)])) rfl rfl (hb hby d8_31)
  have V_a2_3 : Arv Z h3 a2 k2 .byte (2 : Int32) [(.int (nar .byte (c0.toInt8.toInt32))), (.int (0 : Int32))] (.int (0 : Int32)) := Arv.set Ar2 q2 S2 Nx2 H2 G2 (fits_nar_byte _) W3 0 rfl (Nat.le_of_ble_eq_true rfl)
  have N3 := Fr.snoc X3 N0 g_a2
  have O3 : Old Z n0 h3 := O0.wr W3 g_a2
  have K3 : Keep h0 h3 [a2] := K0.wr W3 (Or.inl (List.mem_of_getElem? (i := 0) rfl))
  refine Go.st (f' := (mkF m 32 #[rv a1, iv 0, rv a2, iv 0, iv 2, iv 0, iv c0] [])) (fun _ k => st3 _ k) ?_
  refine Go.st (f' := (mkF m 35 #[rv a1, iv 1, rv a2, iv 0, iv 2, iv 0, iv c0] [])) (fun _ k => XS.iinc X3.here hx rfl (hb hby d8_32) rfl (l' := #[rv a1, iv 1, rv a2, iv 0, iv 2, iv 0, iv c0]) rfl k) ?_
  refine Go.st (f' := (mkF m 38 #[rv a1, iv 1, rv a2, iv 1, iv 2, iv 0, iv c0] [])) (fun _ k => XS.iinc X3.here hx rfl (hb hby d8_35) rfl (l' := #[rv a1, iv 1, rv a2, iv 1, iv 2, iv 0, iv c0]) rfl k) ?_
  refine Go.st (f' := (mkF m 41 #[rv a1, iv 1, rv a2, iv 1, iv 2, iv 1, iv c0] [])) (fun _ k => XS.iinc X3.here hx rfl (hb hby d8_38) rfl (l' := #[rv a1, iv 1, rv a2, iv 1, iv 2, iv 1, iv c0]) rfl k) ?_
  refine Go.st (f' := (mkF m 3 #[rv a1, iv 1, rv a2, iv 1, iv 2, iv 1, iv c0] [])) (fun _ k => XS.goto X3.here hx rfl (pc0 := 41) (pc' := 3) rfl (hb hby d8_41) (by decide) (by decide) k) ?_
  refine Go.st (f' := (mkF m 5 #[rv a1, iv 1, rv a2, iv 1, iv 2, iv 1, iv c0] [(.int 1)])) (fun _ k => XS.iload X3.here hx rfl (hb hby d8_3) rfl k) ?_
  refine Go.st (f' := (mkF m 7 #[rv a1, iv 1, rv a2, iv 1, iv 2, iv 1, iv c0] [(.int 2), (.int 1)])) (fun _ k => XS.iload X3.here hx rfl (hb hby d8_5) rfl k) ?_
  refine Go.st (f' := (mkF m 10 #[rv a1, iv 1, rv a2, iv 1, iv 2, iv 1, iv c0] [])) (fun _ k => XS.icmpNo X3.here hx rfl (hb hby d8_7) rfl (by decide) k) ?_
  refine Go.st (f' := (mkF m 11 #[rv a1, iv 1, rv a2, iv 1, iv 2, iv 1, iv c0] [(.ref a1)])) (fun _ k => XS.aloadN X3.here hx rfl (hb hby d8_10) rfl rfl k) ?_
  refine Go.st (f' := (mkF m 12 #[rv a1, iv 1, rv a2, iv 1, iv 2, iv 1, iv c0] [(.int 1), (.ref a1)])) (fun _ k => XS.iloadN X3.here hx rfl (hb hby d8_11) rfl k) ?_
  have ft5 := (V_a1.other W3 ne12)
  obtain ⟨cl4, Ar4, -, S4, -, H4, -⟩ := id ft5
  have hin4 : ¬ ((1 : Int32) < 0 ∨ cl4.slots.size ≤ ((1 : Int32)).toNatClampNeg) := inb_of S4 ⟨by decide, by decide⟩
  have hat4 : cl4.slots[((1 : Int32)).toNatClampNeg]? = some (.int c1) := H4.at hin4 rfl
  refine Go.st (f' := (mkF m 13 #[rv a1, iv 1, rv a2, iv 1, iv 2, iv 1, iv c0] [(.int c1)])) (fun _ k => X3.caload hx (j := (1 : Int32)) (v := (.int c1)) (by rw [e3]; exact Ar4.1) (State.isArrayOf_alike hZ.alike Ar4.2.1) Ar4.2.2 hin4 hat4 (g := (mkF m 12 #[rv a1, iv 1, rv a2, iv 1, iv 2, iv 1, iv c0] [(.int 1), (.ref a1)])) rfl rfl (hb hby d8_12) _ k) ?_
  refine Go.st (f' := (mkF m 15 #[rv a1, iv 1, rv a2, iv 1, iv 2, iv 1, iv c1] [])) (fun _ k => XS.istore X3.here hx rfl (hb hby d8_13) rfl (l' := #[rv a1, iv 1, rv a2, iv 1, iv 2, iv 1, iv c1]) rfl k) ?_
  refine Go.st (f' := (mkF m 17 #[rv a1, iv 1, rv a2, iv 1, iv 2, iv 1, iv c1] [(.int c1)])) (fun _ k => XS.iload X3.here hx rfl (hb hby d8_15) rfl k) ?_
  refine Go.st (f' := (mkF m 20 #[rv a1, iv 1, rv a2, iv 1, iv 2, iv 1, iv c1] [(.int 255), (.int c1)])) (fun _ k => XS.sipush X3.here hx rfl (hb hby d8_17) k) ?_
  refine Go.st (f' := (mkF m 26 #[rv a1, iv 1, rv a2, iv 1, iv 2, iv 1, iv c1] [])) (fun _ k => XS.icmpYes X3.here hx rfl (pc0 := 20) (pc' := 26) rfl (hb hby d8_20) rfl (flt hc_c1).2.2.2 (by decide) (by decide) k) ?_
  refine Go.st (f' := (mkF m 27 #[rv a1, iv 1, rv a2, iv 1, iv 2, iv 1, iv c1] [(.ref a2)])) (fun _ k => XS.aloadN X3.here hx rfl (hb hby d8_26) rfl rfl k) ?_
  refine Go.st (f' := (mkF m 28 #[rv a1, iv 1, rv a2, iv 1, iv 2, iv 1, iv c1] [(.int 1), (.ref a2)])) (fun _ k => XS.iloadN X3.here hx rfl (hb hby d8_27) rfl k) ?_
  refine Go.st (f' := (mkF m 30 #[rv a1, iv 1, rv a2, iv 1, iv 2, iv 1, iv c1] [(.int c1), (.int 1), (.ref a2)])) (fun _ k => XS.iload X3.here hx rfl (hb hby d8_28) rfl k) ?_
  refine Go.st (f' := (mkF m 31 #[rv a1, iv 1, rv a2, iv 1, iv 2, iv 1, iv c1] [(.int (c1.toInt8.toInt32)), (.int 1), (.ref a2)])) (fun _ k => XS.i2b X3.here hx rfl (hb hby d8_30) rfl k) ?_
  obtain ⟨cl6, Ar6, q6, S6, Nx6, H6, G6⟩ := id V_a2_3
  have hin6 : ¬ ((1 : Int32) < 0 ∨ cl6.slots.size ≤ ((1 : Int32)).toNatClampNeg) := inb_of S6 ⟨by decide, by decide⟩
  obtain ⟨T7, h7, X7, e7, W7, st7⟩ := stB X3 hx hZ e3 Ar6 (j := (1 : Int32)) hin6 (g := (mkF m 31 #[rv a1, iv 1, rv a2, iv 1, iv 2, iv 1, iv c1] [(.int (c1.toInt8.toInt32)), (.int 1), (.ref a2)])) rfl rfl (hb hby d8_31)
  have V_a2_7 : Arv Z h7 a2 k2 .byte (2 : Int32) [(.int (nar .byte (c0.toInt8.toInt32))), (.int (nar .byte (c1.toInt8.toInt32)))] (.int (0 : Int32)) := Arv.set Ar6 q6 S6 Nx6 H6 G6 (fits_nar_byte _) W7 1 rfl (Nat.le_of_ble_eq_true rfl)
  have N7 := Fr.snoc X7 N3 g_a2
  have O7 : Old Z n0 h7 := O3.wr W7 g_a2
  have K7 : Keep h0 h7 [a2] := K3.wr W7 (Or.inl (List.mem_of_getElem? (i := 0) rfl))
  refine Go.st (f' := (mkF m 32 #[rv a1, iv 1, rv a2, iv 1, iv 2, iv 1, iv c1] [])) (fun _ k => st7 _ k) ?_
  refine Go.st (f' := (mkF m 35 #[rv a1, iv 2, rv a2, iv 1, iv 2, iv 1, iv c1] [])) (fun _ k => XS.iinc X7.here hx rfl (hb hby d8_32) rfl (l' := #[rv a1, iv 2, rv a2, iv 1, iv 2, iv 1, iv c1]) rfl k) ?_
  refine Go.st (f' := (mkF m 38 #[rv a1, iv 2, rv a2, iv 2, iv 2, iv 1, iv c1] [])) (fun _ k => XS.iinc X7.here hx rfl (hb hby d8_35) rfl (l' := #[rv a1, iv 2, rv a2, iv 2, iv 2, iv 1, iv c1]) rfl k) ?_
  refine Go.st (f' := (mkF m 41 #[rv a1, iv 2, rv a2, iv 2, iv 2, iv 2, iv c1] [])) (fun _ k => XS.iinc X7.here hx rfl (hb hby d8_38) rfl (l' := #[rv a1, iv 2, rv a2, iv 2, iv 2, iv 2, iv c1]) rfl k) ?_
  refine Go.st (f' := (mkF m 3 #[rv a1, iv 2, rv a2, iv 2, iv 2, iv 2, iv c1] [])) (fun _ k => XS.goto X7.here hx rfl (pc0 := 41) (pc' := 3) rfl (hb hby d8_41) (by decide) (by decide) k) ?_
  refine Go.st (f' := (mkF m 5 #[rv a1, iv 2, rv a2, iv 2, iv 2, iv 2, iv c1] [(.int 2)])) (fun _ k => XS.iload X7.here hx rfl (hb hby d8_3) rfl k) ?_
  refine Go.st (f' := (mkF m 7 #[rv a1, iv 2, rv a2, iv 2, iv 2, iv 2, iv c1] [(.int 2), (.int 2)])) (fun _ k => XS.iload X7.here hx rfl (hb hby d8_5) rfl k) ?_
  refine Go.st (f' := (mkF m 44 #[rv a1, iv 2, rv a2, iv 2, iv 2, iv 2, iv c1] [])) (fun _ k => XS.icmpYes X7.here hx rfl (pc0 := 7) (pc' := 44) rfl (hb hby d8_7) rfl (by decide) (by decide) (by decide) k) ?_
  refine Go.st (f' := (mkF m 46 #[rv a1, iv 2, rv a2, iv 2, iv 2, iv 2, iv c1] [(.int 2)])) (fun _ k => XS.iload X7.here hx rfl (hb hby d8_44) rfl k) ?_
  refine Go.retV X7 hlk hx (t := .int) hret rfl (Or.inl ⟨rfl, Or.inl rfl, _, rfl⟩) (hb hby d8_46) e7 ?_ (by decide) (by decide)
  exact ⟨rfl, N7, K7, V_a2_7⟩
set_option maxRecDepth 65536 in
set_option maxHeartbeats 40000000 in
theorem u3_2_2 (l : Launch) (Z : State) (a0 : Array Value) (hw : ∀ d ∈ tables_1, d.before a0 Z = true) (ws : List Jvm.Cond) (a1 : Addr) (k1 : ClassId) (c0 : Int32) (c1 : Int32) (i_COMPACT_STRINGS : Int32) (v_SIOOBE_FORMATTER : Value) (h0 : Heap) (n0 : Nat) (O0 : Old Z n0 h0) (hc_c0 : ¬ (255 : Int32) < c0) (hc_c1 : ¬ (255 : Int32) < c1) (V_a1 : Arv Z h0 a1 k1 .char (2 : Int32) [(.int c0), (.int c1)] (.int 0)) (WW : World1 Z i_COMPACT_STRINGS v_SIOOBE_FORMATTER) :
    Con l Z (⟨"java/lang/StringUTF16", "compress", "([CII)[B"⟩ : MethodName) jdk_52_method_16_code 6 (some (.array .byte)) ws ({ frames := 1, cells := 1, slots := 2, locals := 18 } : Room) #[(.ref a1), (.int 0), (.int 2)] h0 (fun v h L => ∃ (b : Addr) (kb : ClassId), v = some (.ref b) ∧ Fr n0 L ∧ h0.size ≤ b ∧ Keep h0 h [] ∧ Arv Z h b kb .byte (2 : Int32) [(.int (nar .byte (c0.toInt8.toInt32))), (.int (nar .byte (c1.toInt8.toInt32)))] (.int 0)) := by
  refine own_body (plainFor_of_name pn_java_lang_StringUTF16) ?_
  intro p e s m below meth c s₁ hx hby hml hZ hown hnm hlk hret X0 e0
  have N0 := Fr.nil n0
  have K0 : Keep h0 h0 [] := Keep.refl _ _
  refine Go.st (T' := s₁) (f' := (mkF m 0 #[rv a1, iv 0, iv 2, .unset, .unset, .unset] [])) (fun _ k => castTop (by first | (simp [entryFrame, mkF, argsToLocals, Value.category]; done) | rfl) k) ?_
  have ⟨S_i_COMPACT_STRINGS, nz_i_COMPACT_STRINGS, S_v_SIOOBE_FORMATTER, r_v_SIOOBE_FORMATTER, S_i__assertionsDisabled, S_i_HI_BYTE_SHIFT, S_i_LO_BYTE_SHIFT⟩ := WW
  have lt_a1 := V_a1.lt
  refine Go.st (f' := (mkF m 1 #[rv a1, iv 0, iv 2, .unset, .unset, .unset] [(.int 2)])) (fun _ k => XS.iloadN X0.here hx rfl (hb hby d7_0) rfl k) ?_
  obtain ⟨T1, h1, kc1, X1, e1, E1, A1, st1⟩ := newP X0 hx hZ (ww hw 5 rfl) e0 (g := (mkF m 1 #[rv a1, iv 0, iv 2, .unset, .unset, .unset] [(.int 2)])) rfl (hb hby d7_1) rfl (by decide) (cap := 2) (by decide) (by decide) (by decide) (by decide)
  obtain ⟨b1, g1⟩ : ∃ z, z = h0.size := ⟨_, rfl⟩
  rw [← g1] at A1 st1
  have ne_a1_b1 : a1 ≠ b1 := Nat.ne_of_lt (Nat.lt_of_lt_of_eq lt_a1 g1.symm)
  have g_b1 : n0 ≤ b1 := Nat.le_trans (O0.1 ▸ O0.2.1) (Nat.le_of_eq g1.symm)
  have O1 : Old Z n0 h1 := O0.ext E1
  have sz_b1 : h0.size ≤ b1 := Nat.le_trans K0.1 (Nat.le_of_eq g1.symm)
  have K1 : Keep h0 h1 [] := K0.ext E1
  have V_b1 : Arv Z h1 b1 kc1 .byte (2 : Int32) [(.int (0 : Int32)), (.int (0 : Int32))] (.int (0 : Int32)) := (Arv.new A1 (by decide)).pad (pad_rep [] (.int (0 : Int32)) 2)
  have lt_b1 := V_b1.lt
  refine Go.st (f' := (mkF m 3 #[rv a1, iv 0, iv 2, .unset, .unset, .unset] [(.ref b1)])) (fun _ k => st1 _ k) ?_
  refine Go.st (f' := (mkF m 4 #[rv a1, iv 0, iv 2, rv b1, .unset, .unset] [])) (fun _ k => XS.astoreN X1.here hx rfl (hb hby d7_3) rfl rfl (l' := #[rv a1, iv 0, iv 2, rv b1, .unset, .unset]) rfl k) ?_
  refine Go.st (f' := (mkF m 5 #[rv a1, iv 0, iv 2, rv b1, .unset, .unset] [(.ref a1)])) (fun _ k => XS.aloadN X1.here hx rfl (hb hby d7_4) rfl rfl k) ?_
  refine Go.st (f' := (mkF m 6 #[rv a1, iv 0, iv 2, rv b1, .unset, .unset] [(.int 0), (.ref a1)])) (fun _ k => XS.iloadN X1.here hx rfl (hb hby d7_5) rfl k) ?_
  refine Go.st (f' := (mkF m 7 #[rv a1, iv 0, iv 2, rv b1, .unset, .unset] [(.ref b1), (.int 0), (.ref a1)])) (fun _ k => XS.aloadN X1.here hx rfl (hb hby d7_6) rfl rfl k) ?_
  refine Go.st (f' := (mkF m 8 #[rv a1, iv 0, iv 2, rv b1, .unset, .unset] [(.int 0), (.ref b1), (.int 0), (.ref a1)])) (fun _ k => XS.iconst X1.here hx rfl (hb hby d7_7) k) ?_
  refine Go.st (f' := (mkF m 9 #[rv a1, iv 0, iv 2, rv b1, .unset, .unset] [(.int 2), (.int 0), (.ref b1), (.int 0), (.ref a1)])) (fun _ k => XS.iloadN X1.here hx rfl (hb hby d7_8) rfl k) ?_
  have ft3 := (V_a1.ext E1)
  obtain ⟨_, _, ⟨T2, L2, kk2, nn2⟩, -, X2, ⟨Lc2, hQ2, lq2, yq2, zz2⟩, st2⟩ := Jvm.LawKit.callS X1 hx (y := (⟨"java/lang/StringUTF16", "compress", "([CI[BII)I"⟩ : MethodName)) hown (mvT hZ (ww hw 45 rfl)) (mvT hZ (ww hw 46 rfl)) (mvT hZ (ww hw 43 rfl)) (mvT hZ (ww hw 47 rfl)) (by decide) (own_back (W := 0) (u5_2_2 l Z a0 hw [] b1 kc1 a1 k1 c0 c1 h1 n0 O1 hc_c0 hc_c1 ne_a1_b1 g_b1 ft3 V_b1) hZ (ww hw 47 rfl) (ww hw 43 rfl) (by decide) (by decide)) (g := (mkF m 9 #[rv a1, iv 0, iv 2, rv b1, .unset, .unset] [(.int 2), (.int 0), (.ref b1), (.int 0), (.ref a1)])) rfl (by rw [hml]; rfl) (argsL := [(.ref a1), (.int (0 : Int32)), (.ref b1), (.int (0 : Int32)), (.int (2 : Int32))]) (rest := []) (lenOf pd___CI_BII_I rfl) rfl (by show 2 * 0 + _ ≤ _; exact Nat.le_of_eq rfl) (hb hby d7_9) (fun _ _ => ⟨rfl, e1, (by decide : 1 + 0 ≤ _), (by decide : 2 + 0 ≤ _)⟩)
  dsimp only [Pt.U, Pt.locs, Pt.cells, Pt.slots] at X2 lq2 yq2 zz2 st2 hQ2
  subst lq2 yq2 zz2
  obtain ⟨rfl, Nq2, kq2, vq2⟩ := hQ2
  have N2 := Fr.app N0 Nq2
  have O2 : Old Z n0 T2.heap := O1.keep kq2 (allS g_b1 all0)
  have K2 : Keep h0 T2.heap [] := K1.trans kq2 (allS (Or.inr sz_b1) all0)
  refine Go.st (f' := (mkF m 12 #[rv a1, iv 0, iv 2, rv b1, .unset, .unset] [(.int 2)])) (fun _ k => st2 _ k) ?_
  refine Go.st (f' := (mkF m 14 #[rv a1, iv 0, iv 2, rv b1, iv 2, .unset] [])) (fun _ k => XS.istore X2.here hx rfl (hb hby d7_12) rfl (l' := #[rv a1, iv 0, iv 2, rv b1, iv 2, .unset]) rfl k) ?_
  refine Go.st (f' := (mkF m 16 #[rv a1, iv 0, iv 2, rv b1, iv 2, .unset] [(.int 2)])) (fun _ k => XS.iload X2.here hx rfl (hb hby d7_14) rfl k) ?_
  refine Go.st (f' := (mkF m 17 #[rv a1, iv 0, iv 2, rv b1, iv 2, .unset] [(.int 2), (.int 2)])) (fun _ k => XS.iloadN X2.here hx rfl (hb hby d7_16) rfl k) ?_
  refine Go.st (f' := (mkF m 57 #[rv a1, iv 0, iv 2, rv b1, iv 2, .unset] [])) (fun _ k => XS.icmpYes X2.here hx rfl (pc0 := 17) (pc' := 57) rfl (hb hby d7_17) rfl (by decide) (by decide) (by decide) k) ?_
  refine Go.st (f' := (mkF m 58 #[rv a1, iv 0, iv 2, rv b1, iv 2, .unset] [(.ref b1)])) (fun _ k => XS.aloadN X2.here hx rfl (hb hby d7_57) rfl rfl k) ?_
  refine Go.retV X2 hlk hx (t := (.array .byte)) hret rfl (Or.inr (Or.inr (Or.inr (Or.inr ⟨rfl, rfl, rfl⟩)))) (hb hby d7_58) rfl ?_ (by decide) (by decide)
  exact ⟨b1, kc1, rfl, N2, sz_b1, K2, vq2⟩
set_option maxRecDepth 65536 in
set_option maxHeartbeats 40000000 in
theorem uv_2_2 (l : Launch) (Z : State) (a0 : Array Value) (hw : ∀ d ∈ tables_1, d.before a0 Z = true) (ws : List Jvm.Cond) (a0b : Addr) (a1 : Addr) (k1 : ClassId) (c0 : Int32) (c1 : Int32) (i_COMPACT_STRINGS : Int32) (v_SIOOBE_FORMATTER : Value) (h0 : Heap) (n0 : Nat) (O0 : Old Z n0 h0) (hc_c0 : ¬ (255 : Int32) < c0) (hc_c1 : ¬ (255 : Int32) < c1) (g_a0b : n0 ≤ a0b) (nb1 : a0b ≠ a1) (E_a0b : Exa Z h0 a0b "java/lang/String") (F_a0b_coder : Fld Z h0 a0b "java/lang/String" "coder" "B" (.int 0)) (F_a0b_value : Fld Z h0 a0b "java/lang/String" "value" "[B" .null) (V_a1 : Arv Z h0 a1 k1 .char (2 : Int32) [(.int c0), (.int c1)] (.int 0)) (WW : World1 Z i_COMPACT_STRINGS v_SIOOBE_FORMATTER) :
    Con l Z (⟨"java/lang/String", "<init>", "([CIILjava/lang/Void;)V"⟩ : MethodName) jdk_42_method_149_code 6 none ws ({ frames := 2, cells := 1, slots := 2, locals := 35 } : Room) #[(.ref a0b), (.ref a1), (.int 0), (.int 2), .null] h0 (fun v h L => v = none ∧ Fr n0 L ∧ Keep h0 h [a0b] ∧ Exa Z h a0b "java/lang/String" ∧ Fld Z h a0b "java/lang/String" "coder" "B" (.int 0) ∧ ∃ (t : Addr) (kt : ClassId), h0.size ≤ t ∧ Fld Z h a0b "java/lang/String" "value" "[B" (.ref t) ∧ Arv Z h t kt .byte (2 : Int32) [(.int (nar .byte (c0.toInt8.toInt32))), (.int (nar .byte (c1.toInt8.toInt32)))] (.int 0)) := by
  refine own_body (plainFor_of_name pn_java_lang_String) ?_
  intro p e s m below meth c s₁ hx hby hml hZ hown hnm hlk hret X0 e0
  have N0 := Fr.nil n0
  have K0 : Keep h0 h0 [a0b] := Keep.refl _ _
  refine Go.st (T' := s₁) (f' := (mkF m 0 #[rv a0b, rv a1, iv 0, iv 2, .val .null, .unset] [])) (fun _ k => castTop (by first | (simp [entryFrame, mkF, argsToLocals, Value.category]; done) | rfl) k) ?_
  have ⟨S_i_COMPACT_STRINGS, nz_i_COMPACT_STRINGS, S_v_SIOOBE_FORMATTER, r_v_SIOOBE_FORMATTER, S_i__assertionsDisabled, S_i_HI_BYTE_SHIFT, S_i_LO_BYTE_SHIFT⟩ := WW
  have lt_a0b := E_a0b.lt
  have lt_a1 := V_a1.lt
  refine Go.st (f' := (mkF m 1 #[rv a0b, rv a1, iv 0, iv 2, .val .null, .unset] [(.ref a0b)])) (fun _ k => XS.aloadN X0.here hx rfl (hb hby d2_0) rfl rfl k) ?_
  obtain ⟨T1, X1, e1, st1⟩ := initO X0 hx hZ hown (ww hw 20 rfl) (ww hw 21 rfl) (ww hw 22 rfl) e0 (g := (mkF m 1 #[rv a0b, rv a1, iv 0, iv 2, .val .null, .unset] [(.ref a0b)])) rfl (by rw [hml]; rfl) rfl (hb hby d2_1) (by decide) (W := 0) (by show 2 * 0 + _ ≤ _; exact Nat.le_of_eq rfl) (by decide)
  refine Go.st (f' := (mkF m 4 #[rv a0b, rv a1, iv 0, iv 2, .val .null, .unset] [])) (fun _ k => st1 _ k) ?_
  refine Go.st (f' := (mkF m 5 #[rv a0b, rv a1, iv 0, iv 2, .val .null, .unset] [(.int 2)])) (fun _ k => XS.iloadN X1.here hx rfl (hb hby d2_4) rfl k) ?_
  refine Go.st (f' := (mkF m 27 #[rv a0b, rv a1, iv 0, iv 2, .val .null, .unset] [])) (fun _ k => XS.ifYes X1.here hx rfl (pc0 := 5) (pc' := 27) rfl (hb hby d2_5) rfl (by decide) (by decide) (by decide) k) ?_
  obtain ⟨T2, X2, e2, st2⟩ := getS2 X1 hx hZ hown (host := "") (Or.inl (ww hw 40 rfl)) Via.refl e1 (S_i_COMPACT_STRINGS.ext O0.2) (g := (mkF m 27 #[rv a0b, rv a1, iv 0, iv 2, .val .null, .unset] [])) rfl (hb hby d2_27)
  refine Go.st (f' := (mkF m 30 #[rv a0b, rv a1, iv 0, iv 2, .val .null, .unset] [(.int i_COMPACT_STRINGS)])) (fun _ k => st2 _ k) ?_
  refine Go.st (f' := (mkF m 33 #[rv a0b, rv a1, iv 0, iv 2, .val .null, .unset] [])) (fun _ k => XS.ifNo X2.here hx rfl (hb hby d2_30) rfl ((if0 _ _).trans (feq nz_i_COMPACT_STRINGS).1) k) ?_
  refine Go.st (f' := (mkF m 34 #[rv a0b, rv a1, iv 0, iv 2, .val .null, .unset] [(.ref a1)])) (fun _ k => XS.aloadN X2.here hx rfl (hb hby d2_33) rfl rfl k) ?_
  refine Go.st (f' := (mkF m 35 #[rv a0b, rv a1, iv 0, iv 2, .val .null, .unset] [(.int 0), (.ref a1)])) (fun _ k => XS.iloadN X2.here hx rfl (hb hby d2_34) rfl k) ?_
  refine Go.st (f' := (mkF m 36 #[rv a0b, rv a1, iv 0, iv 2, .val .null, .unset] [(.int 2), (.int 0), (.ref a1)])) (fun _ k => XS.iloadN X2.here hx rfl (hb hby d2_35) rfl k) ?_
  obtain ⟨_, _, ⟨T3, L3, kk3, nn3⟩, -, X3, ⟨Lc3, hQ3, lq3, yq3, zz3⟩, st3⟩ := Jvm.LawKit.callS X2 hx (y := (⟨"java/lang/StringUTF16", "compress", "([CII)[B"⟩ : MethodName)) hown (mvT hZ (ww hw 41 rfl)) (mvT hZ (ww hw 42 rfl)) (mvT hZ (ww hw 43 rfl)) (mvT hZ (ww hw 44 rfl)) (by decide) (own_back (W := 0) (u3_2_2 l Z a0 hw [] a1 k1 c0 c1 i_COMPACT_STRINGS v_SIOOBE_FORMATTER h0 n0 O0 hc_c0 hc_c1 V_a1 WW) hZ (ww hw 44 rfl) (ww hw 43 rfl) (by decide) (by decide)) (g := (mkF m 36 #[rv a0b, rv a1, iv 0, iv 2, .val .null, .unset] [(.int 2), (.int 0), (.ref a1)])) rfl (by rw [hml]; rfl) (argsL := [(.ref a1), (.int (0 : Int32)), (.int (2 : Int32))]) (rest := []) (lenOf pd___CII__B rfl) rfl (by show 2 * 0 + _ ≤ _; exact Nat.le_of_eq rfl) (hb hby d2_36) (fun _ _ => ⟨rfl, e2, (by decide : 0 + 1 ≤ _), (by decide : 0 + 2 ≤ _)⟩)
  dsimp only [Pt.U, Pt.locs, Pt.cells, Pt.slots] at X3 lq3 yq3 zz3 st3 hQ3
  subst lq3 yq3 zz3
  obtain ⟨b3, kb3, rfl, Nq3, zq3, kq3, vq3⟩ := hQ3
  have N3 := Fr.app N0 Nq3
  have ne_a0b_b3 : a0b ≠ b3 := Nat.ne_of_lt (Nat.lt_of_lt_of_le lt_a0b zq3)
  have ne_a1_b3 : a1 ≠ b3 := Nat.ne_of_lt (Nat.lt_of_lt_of_le lt_a1 zq3)
  have g_b3 : n0 ≤ b3 := Nat.le_trans (O0.1 ▸ O0.2.1) zq3
  have sz_b3 : h0.size ≤ b3 := Nat.le_trans K0.1 zq3
  have O3 : Old Z n0 T3.heap := O0.keep kq3 all0
  have K3 : Keep h0 T3.heap [a0b] := K0.trans kq3 all0
  have lt_b3 := vq3.lt
  refine Go.st (f' := (mkF m 39 #[rv a0b, rv a1, iv 0, iv 2, .val .null, .unset] [(.ref b3)])) (fun _ k => st3 _ k) ?_
  refine Go.st (f' := (mkF m 41 #[rv a0b, rv a1, iv 0, iv 2, .val .null, rv b3] [])) (fun _ k => XS.astore X3.here hx rfl (hb hby d2_39) rfl rfl (l' := #[rv a0b, rv a1, iv 0, iv 2, .val .null, rv b3]) rfl k) ?_
  refine Go.st (f' := (mkF m 42 #[rv a0b, rv a1, iv 0, iv 2, .val .null, rv b3] [(.ref a0b)])) (fun _ k => XS.aloadN X3.here hx rfl (hb hby d2_41) rfl rfl k) ?_
  refine Go.st (f' := (mkF m 44 #[rv a0b, rv a1, iv 0, iv 2, .val .null, rv b3] [(.ref b3), (.ref a0b)])) (fun _ k => XS.aload X3.here hx rfl (hb hby d2_42) rfl rfl k) ?_
  refine Go.st (f' := (mkF m 45 #[rv a0b, rv a1, iv 0, iv 2, .val .null, rv b3] [(.int 2), (.ref b3), (.ref a0b)])) (fun _ k => XS.iloadN X3.here hx rfl (hb hby d2_44) rfl k) ?_
  obtain ⟨_, _, ⟨T4, L4, kk4, nn4⟩, -, X4, ⟨Lc4, hQ4, lq4, yq4, zz4⟩, st4⟩ := Jvm.LawKit.callS X3 hx (y := (⟨"java/lang/StringUTF16", "coderFromArrayLen", "([BI)B"⟩ : MethodName)) hown (mvT hZ (ww hw 48 rfl)) (mvT hZ (ww hw 49 rfl)) (mvT hZ (ww hw 43 rfl)) (mvT hZ (ww hw 50 rfl)) (by decide) (own_back (W := 1) (uc_2_2 l Z a0 hw [] b3 kb3 (nar .byte (c0.toInt8.toInt32)) (nar .byte (c1.toInt8.toInt32)) T3.heap n0 O3 vq3) hZ (ww hw 50 rfl) (ww hw 43 rfl) (by decide) (by decide)) (g := (mkF m 45 #[rv a0b, rv a1, iv 0, iv 2, .val .null, rv b3] [(.int 2), (.ref b3), (.ref a0b)])) rfl (by rw [hml]; rfl) (argsL := [(.ref b3), (.int (2 : Int32))]) (rest := [(.ref a0b)]) (lenOf pd___BI_B rfl) rfl (by show 2 * 0 + _ ≤ _; exact Nat.le_of_eq rfl) (hb hby d2_45) (fun _ _ => ⟨rfl, rfl, (by decide : 1 + 0 ≤ _), (by decide : 2 + 0 ≤ _)⟩)
  dsimp only [Pt.U, Pt.locs, Pt.cells, Pt.slots] at X4 lq4 yq4 zz4 st4 hQ4
  subst lq4 yq4 zz4
  obtain ⟨rfl, Nq4, kq4⟩ := hQ4
  have N4 := Fr.app N3 Nq4
  refine Go.st (f' := (mkF m 48 #[rv a0b, rv a1, iv 0, iv 2, .val .null, rv b3] [(.int 0), (.ref a0b)])) (fun _ k => st4 _ k) ?_
  have ft5 := (E_a0b.keep kq3)
  have ft6 := (F_a0b_coder.keep kq3 nin0)
  obtain ⟨T7, h7, X7, e7, W7, st7⟩ := putFN X4 hx hZ hown (ww hw 25 rfl) Via.refl kq4 ft6 ft5 (Or.inr ⟨(ww hw 7 rfl), rfl, hnm⟩) (ww hw 4 rfl) (ty := .byte) (v' := (.int (0 : Int32))) (by decide) rfl (by decide) (g := (mkF m 48 #[rv a0b, rv a1, iv 0, iv 2, .val .null, rv b3] [(.int 0), (.ref a0b)])) rfl rfl (hb hby d2_48)
  have N7 := Fr.snoc X7 N4 g_a0b
  have O7 : Old Z n0 h7 := O3.wr W7 g_a0b
  have K7 : Keep h0 h7 [a0b] := K3.wr W7 (Or.inl (List.mem_of_getElem? (i := 0) rfl))
  have Fw7 := ft6.same W7
  refine Go.st (f' := (mkF m 51 #[rv a0b, rv a1, iv 0, iv 2, .val .null, rv b3] [])) (fun _ k => st7 _ k) ?_
  refine Go.st (f' := (mkF m 52 #[rv a0b, rv a1, iv 0, iv 2, .val .null, rv b3] [(.ref a0b)])) (fun _ k => XS.aloadN X7.here hx rfl (hb hby d2_51) rfl rfl k) ?_
  refine Go.st (f' := (mkF m 54 #[rv a0b, rv a1, iv 0, iv 2, .val .null, rv b3] [(.ref b3), (.ref a0b)])) (fun _ k => XS.aload X7.here hx rfl (hb hby d2_52) rfl rfl k) ?_
  have ft8 := (ft5.wr W7)
  have ft9 := ((F_a0b_value.keep kq3 nin0).other W7 (Or.inr (slot_ne (Or.inr (ww hw 6 rfl)) (Or.inr (ww hw 7 rfl)) (by decide) (t := (.array .byte)) (t' := .byte) (by decide) (by decide))))
  obtain ⟨T10, h10, X10, e10, W10, st10⟩ := putF X7 hx hZ hown (host := "") (Or.inl (ww hw 24 rfl)) Via.refl e7 ft9 ft8 (Or.inr ⟨(ww hw 6 rfl), rfl, hnm⟩) (ww hw 4 rfl) (ty := (.array .byte)) (by decide) rfl rfl (g := (mkF m 54 #[rv a0b, rv a1, iv 0, iv 2, .val .null, rv b3] [(.ref b3), (.ref a0b)])) rfl rfl (hb hby d2_54)
  have N10 := Fr.snoc X10 N7 g_a0b
  have O10 : Old Z n0 h10 := O7.wr W10 g_a0b
  have K10 : Keep h0 h10 [a0b] := K7.wr W10 (Or.inl (List.mem_of_getElem? (i := 0) rfl))
  have Fw10 := ft9.same W10
  refine Go.st (f' := (mkF m 57 #[rv a0b, rv a1, iv 0, iv 2, .val .null, rv b3] [])) (fun _ k => st10 _ k) ?_
  refine Go.ret0 X10 hlk hx hret (hb hby d2_57) e10 ?_ (by decide) (by decide)
  have ft11 := (ft8.wr W10)
  have ft12 := (Fw7.other W10 (Or.inr (slot_ne (Or.inr (ww hw 7 rfl)) (Or.inr (ww hw 6 rfl)) (by decide) (t := .byte) (t' := (.array .byte)) (by decide) (by decide))))
  have ft13 := ((vq3.other W7 (Ne.symm ne_a0b_b3)).other W10 (Ne.symm ne_a0b_b3))
  exact ⟨rfl, N10, K10, ft11, ft12, b3, kb3, sz_b3, Fw10, ft13⟩
set_option maxRecDepth 65536 in
set_option maxHeartbeats 40000000 in
theorem u3_2_0 (l : Launch) (Z : State) (a0 : Array Value) (hw : ∀ d ∈ tables_1, d.before a0 Z = true) (ws : List Jvm.Cond) (a1 : Addr) (k1 : ClassId) (c0 : Int32) (c1 : Int32) (i_COMPACT_STRINGS : Int32) (v_SIOOBE_FORMATTER : Value) (h0 : Heap) (n0 : Nat) (O0 : Old Z n0 h0) (hc_c0 : (255 : Int32) < c0) (hk_c0 : 0 ≤ c0.toInt ∧ c0.toInt < 65536) (V_a1 : Arv Z h0 a1 k1 .char (2 : Int32) [(.int c0), (.int c1)] (.int 0)) (WW : World1 Z i_COMPACT_STRINGS v_SIOOBE_FORMATTER) :
    Con l Z (⟨"java/lang/StringUTF16", "compress", "([CII)[B"⟩ : MethodName) jdk_52_method_16_code 6 (some (.array .byte)) ws ({ frames := 3, cells := 2, slots := 6, locals := 40 } : Room) #[(.ref a1), (.int 0), (.int 2)] h0 (fun v h L => ∃ (b : Addr) (kb : ClassId), v = some (.ref b) ∧ Fr n0 L ∧ h0.size ≤ b ∧ Keep h0 h [] ∧ Arv Z h b kb .byte (4 : Int32) [(.int (nar .byte ((c0 >>> ((0 : Int32) &&& 31)).toInt8.toInt32))), (.int (nar .byte ((c0 >>> ((8 : Int32) &&& 31)).toInt8.toInt32))), (.int (nar .byte ((c1 >>> ((0 : Int32) &&& 31)).toInt8.toInt32))), (.int (nar .byte ((c1 >>> ((8 : Int32) &&& 31)).toInt8.toInt32)))] (.int 0)) := by
  refine own_body (plainFor_of_name pn_java_lang_StringUTF16) ?_
  intro p e s m below meth c s₁ hx hby hml hZ hown hnm hlk hret X0 e0
  have N0 := Fr.nil n0
  have K0 : Keep h0 h0 [] := Keep.refl _ _
  refine Go.st (T' := s₁) (f' := (mkF m 0 #[rv a1, iv 0, iv 2, .unset, .unset, .unset] [])) (fun _ k => castTop (by first | (simp [entryFrame, mkF, argsToLocals, Value.category]; done) | rfl) k) ?_
  have ⟨S_i_COMPACT_STRINGS, nz_i_COMPACT_STRINGS, S_v_SIOOBE_FORMATTER, r_v_SIOOBE_FORMATTER, S_i__assertionsDisabled, S_i_HI_BYTE_SHIFT, S_i_LO_BYTE_SHIFT⟩ := WW
  have lt_a1 := V_a1.lt
  refine Go.st (f' := (mkF m 1 #[rv a1, iv 0, iv 2, .unset, .unset, .unset] [(.int 2)])) (fun _ k => XS.iloadN X0.here hx rfl (hb hby d7_0) rfl k) ?_
  obtain ⟨T1, h1, kc1, X1, e1, E1, A1, st1⟩ := newP X0 hx hZ (ww hw 5 rfl) e0 (g := (mkF m 1 #[rv a1, iv 0, iv 2, .unset, .unset, .unset] [(.int 2)])) rfl (hb hby d7_1) rfl (by decide) (cap := 2) (by decide) (by decide) (by decide) (by decide)
  obtain ⟨b1, g1⟩ : ∃ z, z = h0.size := ⟨_, rfl⟩
  rw [← g1] at A1 st1
  have ne_a1_b1 : a1 ≠ b1 := Nat.ne_of_lt (Nat.lt_of_lt_of_eq lt_a1 g1.symm)
  have g_b1 : n0 ≤ b1 := Nat.le_trans (O0.1 ▸ O0.2.1) (Nat.le_of_eq g1.symm)
  have O1 : Old Z n0 h1 := O0.ext E1
  have sz_b1 : h0.size ≤ b1 := Nat.le_trans K0.1 (Nat.le_of_eq g1.symm)
  have K1 : Keep h0 h1 [] := K0.ext E1
  have V_b1 : Arv Z h1 b1 kc1 .byte (2 : Int32) [(.int (0 : Int32)), (.int (0 : Int32))] (.int (0 : Int32)) := (Arv.new A1 (by decide)).pad (pad_rep [] (.int (0 : Int32)) 2)
  have lt_b1 := V_b1.lt
  refine Go.st (f' := (mkF m 3 #[rv a1, iv 0, iv 2, .unset, .unset, .unset] [(.ref b1)])) (fun _ k => st1 _ k) ?_
  refine Go.st (f' := (mkF m 4 #[rv a1, iv 0, iv 2, rv b1, .unset, .unset] [])) (fun _ k => XS.astoreN X1.here hx rfl (hb hby d7_3) rfl rfl (l' := #[rv a1, iv 0, iv 2, rv b1, .unset, .unset]) rfl k) ?_
  refine Go.st (f' := (mkF m 5 #[rv a1, iv 0, iv 2, rv b1, .unset, .unset] [(.ref a1)])) (fun _ k => XS.aloadN X1.here hx rfl (hb hby d7_4) rfl rfl k) ?_
  refine Go.st (f' := (mkF m 6 #[rv a1, iv 0, iv 2, rv b1, .unset, .unset] [(.int 0), (.ref a1)])) (fun _ k => XS.iloadN X1.here hx rfl (hb hby d7_5) rfl k) ?_
  refine Go.st (f' := (mkF m 7 #[rv a1, iv 0, iv 2, rv b1, .unset, .unset] [(.ref b1), (.int 0), (.ref a1)])) (fun _ k => XS.aloadN X1.here hx rfl (hb hby d7_6) rfl rfl k) ?_
  refine Go.st (f' := (mkF m 8 #[rv a1, iv 0, iv 2, rv b1, .unset, .unset] [(.int 0), (.ref b1), (.int 0), (.ref a1)])) (fun _ k => XS.iconst X1.here hx rfl (hb hby d7_7) k) ?_
  refine Go.st (f' := (mkF m 9 #[rv a1, iv 0, iv 2, rv b1, .unset, .unset] [(.int 2), (.int 0), (.ref b1), (.int 0), (.ref a1)])) (fun _ k => XS.iloadN X1.here hx rfl (hb hby d7_8) rfl k) ?_
  have ft3 := (V_a1.ext E1)
  obtain ⟨_, _, ⟨T2, L2, kk2, nn2⟩, -, X2, ⟨Lc2, hQ2, lq2, yq2, zz2⟩, st2⟩ := Jvm.LawKit.callS X1 hx (y := (⟨"java/lang/StringUTF16", "compress", "([CI[BII)I"⟩ : MethodName)) hown (mvT hZ (ww hw 45 rfl)) (mvT hZ (ww hw 46 rfl)) (mvT hZ (ww hw 43 rfl)) (mvT hZ (ww hw 47 rfl)) (by decide) (own_back (W := 0) (u5_2_0 l Z a0 hw [] b1 kc1 a1 k1 c0 c1 h1 n0 O1 hc_c0 hk_c0 ne_a1_b1 g_b1 ft3 V_b1) hZ (ww hw 47 rfl) (ww hw 43 rfl) (by decide) (by decide)) (g := (mkF m 9 #[rv a1, iv 0, iv 2, rv b1, .unset, .unset] [(.int 2), (.int 0), (.ref b1), (.int 0), (.ref a1)])) rfl (by rw [hml]; rfl) (argsL := [(.ref a1), (.int (0 : Int32)), (.ref b1), (.int (0 : Int32)), (.int (2 : Int32))]) (rest := []) (lenOf pd___CI_BII_I rfl) rfl (by show 2 * 0 + _ ≤ _; exact Nat.le_of_eq rfl) (hb hby d7_9) (fun _ _ => ⟨rfl, e1, (by decide : 1 + 0 ≤ _), (by decide : 2 + 0 ≤ _)⟩)
  dsimp only [Pt.U, Pt.locs, Pt.cells, Pt.slots] at X2 lq2 yq2 zz2 st2 hQ2
  subst lq2 yq2 zz2
  obtain ⟨rfl, Nq2, kq2, vq2⟩ := hQ2
  have N2 := Fr.app N0 Nq2
  have O2 : Old Z n0 T2.heap := O1.keep kq2 (allS g_b1 all0)
  have K2 : Keep h0 T2.heap [] := K1.trans kq2 (allS (Or.inr sz_b1) all0)
  refine Go.st (f' := (mkF m 12 #[rv a1, iv 0, iv 2, rv b1, .unset, .unset] [(.int 0)])) (fun _ k => st2 _ k) ?_
  refine Go.st (f' := (mkF m 14 #[rv a1, iv 0, iv 2, rv b1, iv 0, .unset] [])) (fun _ k => XS.istore X2.here hx rfl (hb hby d7_12) rfl (l' := #[rv a1, iv 0, iv 2, rv b1, iv 0, .unset]) rfl k) ?_
  refine Go.st (f' := (mkF m 16 #[rv a1, iv 0, iv 2, rv b1, iv 0, .unset] [(.int 0)])) (fun _ k => XS.iload X2.here hx rfl (hb hby d7_14) rfl k) ?_
  refine Go.st (f' := (mkF m 17 #[rv a1, iv 0, iv 2, rv b1, iv 0, .unset] [(.int 2), (.int 0)])) (fun _ k => XS.iloadN X2.here hx rfl (hb hby d7_16) rfl k) ?_
  refine Go.st (f' := (mkF m 20 #[rv a1, iv 0, iv 2, rv b1, iv 0, .unset] [])) (fun _ k => XS.icmpNo X2.here hx rfl (hb hby d7_17) rfl (by decide) k) ?_
  refine Go.st (f' := (mkF m 21 #[rv a1, iv 0, iv 2, rv b1, iv 0, .unset] [(.ref a1)])) (fun _ k => XS.aloadN X2.here hx rfl (hb hby d7_20) rfl rfl k) ?_
  refine Go.st (f' := (mkF m 22 #[rv a1, iv 0, iv 2, rv b1, iv 0, .unset] [(.int 0), (.ref a1)])) (fun _ k => XS.iloadN X2.here hx rfl (hb hby d7_21) rfl k) ?_
  refine Go.st (f' := (mkF m 23 #[rv a1, iv 0, iv 2, rv b1, iv 0, .unset] [(.int 2), (.int 0), (.ref a1)])) (fun _ k => XS.iloadN X2.here hx rfl (hb hby d7_22) rfl k) ?_
  have ft5 := (ft3.keep kq2 (ninS ne_a1_b1 nin0))
  obtain ⟨_, _, ⟨T4, L4, kk4, nn4⟩, -, X4, ⟨Lc4, hQ4, lq4, yq4, zz4⟩, st4⟩ := Jvm.LawKit.callS X2 hx (y := (⟨"java/lang/StringUTF16", "toBytes", "([CII)[B"⟩ : MethodName)) hown (mvT hZ (ww hw 81 rfl)) (mvT hZ (ww hw 82 rfl)) (mvT hZ (ww hw 43 rfl)) (mvT hZ (ww hw 83 rfl)) (by decide) (own_back (W := 0) (ut_2 l Z a0 hw [] a1 k1 c0 c1 i_COMPACT_STRINGS v_SIOOBE_FORMATTER T2.heap n0 O2 ft5 WW) hZ (ww hw 83 rfl) (ww hw 43 rfl) (by decide) (by decide)) (g := (mkF m 23 #[rv a1, iv 0, iv 2, rv b1, iv 0, .unset] [(.int 2), (.int 0), (.ref a1)])) rfl (by rw [hml]; rfl) (argsL := [(.ref a1), (.int (0 : Int32)), (.int (2 : Int32))]) (rest := []) (lenOf pd___CII__B rfl) rfl (by show 2 * 0 + _ ≤ _; exact Nat.le_of_eq rfl) (hb hby d7_23) (fun _ _ => ⟨rfl, rfl, (by decide : 1 + 1 ≤ _), (by decide : 2 + 4 ≤ _)⟩)
  dsimp only [Pt.U, Pt.locs, Pt.cells, Pt.slots] at X4 lq4 yq4 zz4 st4 hQ4
  subst lq4 yq4 zz4
  obtain ⟨b4, kb4, rfl, Nq4, zq4, kq4, vq4⟩ := hQ4
  have N4 := Fr.app N2 Nq4
  have ft6 := (Nat.lt_of_lt_of_le (Nat.lt_of_lt_of_le lt_a1 E1.1) kq2.1)
  have ne_a1_b4 : a1 ≠ b4 := Nat.ne_of_lt (Nat.lt_of_lt_of_le ft6 zq4)
  have ft7 := (Nat.lt_of_lt_of_le lt_b1 kq2.1)
  have ne_b1_b4 : b1 ≠ b4 := Nat.ne_of_lt (Nat.lt_of_lt_of_le ft7 zq4)
  have g_b4 : n0 ≤ b4 := Nat.le_trans (O2.1 ▸ O2.2.1) zq4
  have sz_b4 : h0.size ≤ b4 := Nat.le_trans K2.1 zq4
  have O4 : Old Z n0 T4.heap := O2.keep kq4 all0
  have K4 : Keep h0 T4.heap [] := K2.trans kq4 all0
  have lt_b4 := vq4.lt
  refine Go.st (f' := (mkF m 26 #[rv a1, iv 0, iv 2, rv b1, iv 0, .unset] [(.ref b4)])) (fun _ k => st4 _ k) ?_
  refine Go.st (f' := (mkF m 28 #[rv a1, iv 0, iv 2, rv b1, iv 0, rv b4] [])) (fun _ k => XS.astore X4.here hx rfl (hb hby d7_26) rfl rfl (l' := #[rv a1, iv 0, iv 2, rv b1, iv 0, rv b4]) rfl k) ?_
  refine Go.st (f' := (mkF m 30 #[rv a1, iv 0, iv 2, rv b1, iv 0, rv b4] [(.ref b4)])) (fun _ k => XS.aload X4.here hx rfl (hb hby d7_28) rfl rfl k) ?_
  refine Go.st (f' := (mkF m 32 #[rv a1, iv 0, iv 2, rv b1, iv 0, rv b4] [(.int 0), (.ref b4)])) (fun _ k => XS.iload X4.here hx rfl (hb hby d7_30) rfl k) ?_
  obtain ⟨_, _, ⟨T8, L8, kk8, nn8⟩, -, X8, ⟨Lc8, hQ8, lq8, yq8, zz8⟩, st8⟩ := Jvm.LawKit.callS X4 hx (y := (⟨"java/lang/StringUTF16", "getChar", "([BI)C"⟩ : MethodName)) hown (mvT hZ (ww hw 97 rfl)) (mvT hZ (ww hw 98 rfl)) (mvT hZ (ww hw 43 rfl)) (mvT hZ (ww hw 99 rfl)) (by decide) (own_back (W := 0) (ug_2_0 l Z a0 hw [] b4 kb4 (nar .byte ((c0 >>> ((0 : Int32) &&& 31)).toInt8.toInt32)) (nar .byte ((c0 >>> ((8 : Int32) &&& 31)).toInt8.toInt32)) (nar .byte ((c1 >>> ((0 : Int32) &&& 31)).toInt8.toInt32)) (nar .byte ((c1 >>> ((8 : Int32) &&& 31)).toInt8.toInt32)) i_COMPACT_STRINGS v_SIOOBE_FORMATTER T4.heap n0 O4 vq4 WW) hZ (ww hw 99 rfl) (ww hw 43 rfl) (by decide) (by decide)) (g := (mkF m 32 #[rv a1, iv 0, iv 2, rv b1, iv 0, rv b4] [(.int 0), (.ref b4)])) rfl (by rw [hml]; rfl) (argsL := [(.ref b4), (.int (0 : Int32))]) (rest := []) (lenOf pd___BI_C rfl) rfl (by show 2 * 0 + _ ≤ _; exact Nat.le_of_eq rfl) (hb hby d7_32) (fun _ _ => ⟨rfl, rfl, (by decide : 2 + 0 ≤ _), (by decide : 6 + 0 ≤ _)⟩)
  dsimp only [Pt.U, Pt.locs, Pt.cells, Pt.slots] at X8 lq8 yq8 zz8 st8 hQ8
  subst lq8 yq8 zz8
  obtain ⟨rfl, Nq8, kq8⟩ := hQ8
  have N8 := Fr.app N4 Nq8
  refine Go.st (f' := (mkF m 35 #[rv a1, iv 0, iv 2, rv b1, iv 0, rv b4] [(.int (nar .char ((((((nar .byte ((c0 >>> ((0 : Int32) &&& 31)).toInt8.toInt32)) &&& (255 : Int32)) <<< ((0 : Int32) &&& 31)) ||| (((nar .byte ((c0 >>> ((8 : Int32) &&& 31)).toInt8.toInt32)) &&& (255 : Int32)) <<< ((8 : Int32) &&& 31))).toUInt32.toUInt16.toUInt32.toInt32))))])) (fun _ k => st8 _ k) ?_
  refine Go.st (f' := (mkF m 38 #[rv a1, iv 0, iv 2, rv b1, iv 0, rv b4] [(.int 255), (.int (nar .char ((((((nar .byte ((c0 >>> ((0 : Int32) &&& 31)).toInt8.toInt32)) &&& (255 : Int32)) <<< ((0 : Int32) &&& 31)) ||| (((nar .byte ((c0 >>> ((8 : Int32) &&& 31)).toInt8.toInt32)) &&& (255 : Int32)) <<< ((8 : Int32) &&& 31))).toUInt32.toUInt16.toUInt32.toInt32))))])) (fun _ k => XS.sipush X8.here hx rfl (hb hby d7_35) k) ?_
  refine Go.st (f' := (mkF m 54 #[rv a1, iv 0, iv 2, rv b1, iv 0, rv b4] [])) (fun _ k => XS.icmpYes X8.here hx rfl (pc0 := 38) (pc' := 54) rfl (hb hby d7_38) rfl (tlt (own_gt hk_c0 hc_c0)).2.2.1 (by decide) (by decide) k) ?_
  refine Go.st (f' := (mkF m 56 #[rv a1, iv 0, iv 2, rv b1, iv 0, rv b4] [(.ref b4)])) (fun _ k => XS.aload X8.here hx rfl (hb hby d7_54) rfl rfl k) ?_
  refine Go.retV X8 hlk hx (t := (.array .byte)) hret rfl (Or.inr (Or.inr (Or.inr (Or.inr ⟨rfl, rfl, rfl⟩)))) (hb hby d7_56) kq8 ?_ (by decide) (by decide)
  exact ⟨b4, kb4, rfl, N8, sz_b4, K4, vq4⟩
set_option maxRecDepth 65536 in
set_option maxHeartbeats 40000000 in
theorem u3_2_1 (l : Launch) (Z : State) (a0 : Array Value) (hw : ∀ d ∈ tables_1, d.before a0 Z = true) (ws : List Jvm.Cond) (a1 : Addr) (k1 : ClassId) (c0 : Int32) (c1 : Int32) (i_COMPACT_STRINGS : Int32) (v_SIOOBE_FORMATTER : Value) (h0 : Heap) (n0 : Nat) (O0 : Old Z n0 h0) (hc_c0 : ¬ (255 : Int32) < c0) (hc_c1 : (255 : Int32) < c1) (hk_c1 : 0 ≤ c1.toInt ∧ c1.toInt < 65536) (V_a1 : Arv Z h0 a1 k1 .char (2 : Int32) [(.int c0), (.int c1)] (.int 0)) (WW : World1 Z i_COMPACT_STRINGS v_SIOOBE_FORMATTER) :
    Con l Z (⟨"java/lang/StringUTF16", "compress", "([CII)[B"⟩ : MethodName) jdk_52_method_16_code 6 (some (.array .byte)) ws ({ frames := 3, cells := 2, slots := 6, locals := 40 } : Room) #[(.ref a1), (.int 0), (.int 2)] h0 (fun v h L => ∃ (b : Addr) (kb : ClassId), v = some (.ref b) ∧ Fr n0 L ∧ h0.size ≤ b ∧ Keep h0 h [] ∧ Arv Z h b kb .byte (4 : Int32) [(.int (nar .byte ((c0 >>> ((0 : Int32) &&& 31)).toInt8.toInt32))), (.int (nar .byte ((c0 >>> ((8 : Int32) &&& 31)).toInt8.toInt32))), (.int (nar .byte ((c1 >>> ((0 : Int32) &&& 31)).toInt8.toInt32))), (.int (nar .byte ((c1 >>> ((8 : Int32) &&& 31)).toInt8.toInt32)))] (.int 0)) := by
  refine own_body (plainFor_of_name pn_java_lang_StringUTF16) ?_
  intro p e s m below meth c s₁ hx hby hml hZ hown hnm hlk hret X0 e0
  have N0 := Fr.nil n0
  have K0 : Keep h0 h0 [] := Keep.refl _ _
  refine Go.st (T' := s₁) (f' := (mkF m 0 #[rv a1, iv 0, iv 2, .unset, .unset, .unset] [])) (fun _ k => castTop (by first | (simp [entryFrame, mkF, argsToLocals, Value.category]; done) | rfl) k) ?_
  have ⟨S_i_COMPACT_STRINGS, nz_i_COMPACT_STRINGS, S_v_SIOOBE_FORMATTER, r_v_SIOOBE_FORMATTER, S_i__assertionsDisabled, S_i_HI_BYTE_SHIFT, S_i_LO_BYTE_SHIFT⟩ := WW
  have lt_a1 := V_a1.lt
  refine Go.st (f' := (mkF m 1 #[rv a1, iv 0, iv 2, .unset, .unset, .unset] [(.int 2)])) (fun _ k => XS.iloadN X0.here hx rfl (hb hby d7_0) rfl k) ?_
  obtain ⟨T1, h1, kc1, X1, e1, E1, A1, st1⟩ := newP X0 hx hZ (ww hw 5 rfl) e0 (g := (mkF m 1 #[rv a1, iv 0, iv 2, .unset, .unset, .unset] [(.int 2)])) rfl (hb hby d7_1) rfl (by decide) (cap := 2) (by decide) (by decide) (by decide) (by decide)
  obtain ⟨b1, g1⟩ : ∃ z, z = h0.size := ⟨_, rfl⟩
  rw [← g1] at A1 st1
  have ne_a1_b1 : a1 ≠ b1 := Nat.ne_of_lt (Nat.lt_of_lt_of_eq lt_a1 g1.symm)
  have g_b1 : n0 ≤ b1 := Nat.le_trans (O0.1 ▸ O0.2.1) (Nat.le_of_eq g1.symm)
  have O1 : Old Z n0 h1 := O0.ext E1
  have sz_b1 : h0.size ≤ b1 := Nat.le_trans K0.1 (Nat.le_of_eq g1.symm)
  have K1 : Keep h0 h1 [] := K0.ext E1
  have V_b1 : Arv Z h1 b1 kc1 .byte (2 : Int32) [(.int (0 : Int32)), (.int (0 : Int32))] (.int (0 : Int32)) := (Arv.new A1 (by decide)).pad (pad_rep [] (.int (0 : Int32)) 2)
  have lt_b1 := V_b1.lt
  refine Go.st (f' := (mkF m 3 #[rv a1, iv 0, iv 2, .unset, .unset, .unset] [(.ref b1)])) (fun _ k => st1 _ k) ?_
  refine Go.st (f' := (mkF m 4 #[rv a1, iv 0, iv 2, rv b1, .unset, .unset] [])) (fun _ k => XS.astoreN X1.here hx rfl (hb hby d7_3) rfl rfl (l' := #[rv a1, iv 0, iv 2, rv b1, .unset, .unset]) rfl k) ?_
  refine Go.st (f' := (mkF m 5 #[rv a1, iv 0, iv 2, rv b1, .unset, .unset] [(.ref a1)])) (fun _ k => XS.aloadN X1.here hx rfl (hb hby d7_4) rfl rfl k) ?_
  refine Go.st (f' := (mkF m 6 #[rv a1, iv 0, iv 2, rv b1, .unset, .unset] [(.int 0), (.ref a1)])) (fun _ k => XS.iloadN X1.here hx rfl (hb hby d7_5) rfl k) ?_
  refine Go.st (f' := (mkF m 7 #[rv a1, iv 0, iv 2, rv b1, .unset, .unset] [(.ref b1), (.int 0), (.ref a1)])) (fun _ k => XS.aloadN X1.here hx rfl (hb hby d7_6) rfl rfl k) ?_
  refine Go.st (f' := (mkF m 8 #[rv a1, iv 0, iv 2, rv b1, .unset, .unset] [(.int 0), (.ref b1), (.int 0), (.ref a1)])) (fun _ k => XS.iconst X1.here hx rfl (hb hby d7_7) k) ?_
  refine Go.st (f' := (mkF m 9 #[rv a1, iv 0, iv 2, rv b1, .unset, .unset] [(.int 2), (.int 0), (.ref b1), (.int 0), (.ref a1)])) (fun _ k => XS.iloadN X1.here hx rfl (hb hby d7_8) rfl k) ?_
  have ft3 := (V_a1.ext E1)
  obtain ⟨_, _, ⟨T2, L2, kk2, nn2⟩, -, X2, ⟨Lc2, hQ2, lq2, yq2, zz2⟩, st2⟩ := Jvm.LawKit.callS X1 hx (y := (⟨"java/lang/StringUTF16", "compress", "([CI[BII)I"⟩ : MethodName)) hown (mvT hZ (ww hw 45 rfl)) (mvT hZ (ww hw 46 rfl)) (mvT hZ (ww hw 43 rfl)) (mvT hZ (ww hw 47 rfl)) (by decide) (own_back (W := 0) (u5_2_1 l Z a0 hw [] b1 kc1 a1 k1 c0 c1 h1 n0 O1 hc_c0 hc_c1 hk_c1 ne_a1_b1 g_b1 ft3 V_b1) hZ (ww hw 47 rfl) (ww hw 43 rfl) (by decide) (by decide)) (g := (mkF m 9 #[rv a1, iv 0, iv 2, rv b1, .unset, .unset] [(.int 2), (.int 0), (.ref b1), (.int 0), (.ref a1)])) rfl (by rw [hml]; rfl) (argsL := [(.ref a1), (.int (0 : Int32)), (.ref b1), (.int (0 : Int32)), (.int (2 : Int32))]) (rest := []) (lenOf pd___CI_BII_I rfl) rfl (by show 2 * 0 + _ ≤ _; exact Nat.le_of_eq rfl) (hb hby d7_9) (fun _ _ => ⟨rfl, e1, (by decide : 1 + 0 ≤ _), (by decide : 2 + 0 ≤ _)⟩)
  dsimp only [Pt.U, Pt.locs, Pt.cells, Pt.slots] at X2 lq2 yq2 zz2 st2 hQ2
  subst lq2 yq2 zz2
  obtain ⟨rfl, Nq2, kq2, vq2⟩ := hQ2
  have N2 := Fr.app N0 Nq2
  have O2 : Old Z n0 T2.heap := O1.keep kq2 (allS g_b1 all0)
  have K2 : Keep h0 T2.heap [] := K1.trans kq2 (allS (Or.inr sz_b1) all0)
  refine Go.st (f' := (mkF m 12 #[rv a1, iv 0, iv 2, rv b1, .unset, .unset] [(.int 1)])) (fun _ k => st2 _ k) ?_
  refine Go.st (f' := (mkF m 14 #[rv a1, iv 0, iv 2, rv b1, iv 1, .unset] [])) (fun _ k => XS.istore X2.here hx rfl (hb hby d7_12) rfl (l' := #[rv a1, iv 0, iv 2, rv b1, iv 1, .unset]) rfl k) ?_
  refine Go.st (f' := (mkF m 16 #[rv a1, iv 0, iv 2, rv b1, iv 1, .unset] [(.int 1)])) (fun _ k => XS.iload X2.here hx rfl (hb hby d7_14) rfl k) ?_
  refine Go.st (f' := (mkF m 17 #[rv a1, iv 0, iv 2, rv b1, iv 1, .unset] [(.int 2), (.int 1)])) (fun _ k => XS.iloadN X2.here hx rfl (hb hby d7_16) rfl k) ?_
  refine Go.st (f' := (mkF m 20 #[rv a1, iv 0, iv 2, rv b1, iv 1, .unset] [])) (fun _ k => XS.icmpNo X2.here hx rfl (hb hby d7_17) rfl (by decide) k) ?_
  refine Go.st (f' := (mkF m 21 #[rv a1, iv 0, iv 2, rv b1, iv 1, .unset] [(.ref a1)])) (fun _ k => XS.aloadN X2.here hx rfl (hb hby d7_20) rfl rfl k) ?_
  refine Go.st (f' := (mkF m 22 #[rv a1, iv 0, iv 2, rv b1, iv 1, .unset] [(.int 0), (.ref a1)])) (fun _ k => XS.iloadN X2.here hx rfl (hb hby d7_21) rfl k) ?_
  refine Go.st (f' := (mkF m 23 #[rv a1, iv 0, iv 2, rv b1, iv 1, .unset] [(.int 2), (.int 0), (.ref a1)])) (fun _ k => XS.iloadN X2.here hx rfl (hb hby d7_22) rfl k) ?_
  have ft5 := (ft3.keep kq2 (ninS ne_a1_b1 nin0))
  obtain ⟨_, _, ⟨T4, L4, kk4, nn4⟩, -, X4, ⟨Lc4, hQ4, lq4, yq4, zz4⟩, st4⟩ := Jvm.LawKit.callS X2 hx (y := (⟨"java/lang/StringUTF16", "toBytes", "([CII)[B"⟩ : MethodName)) hown (mvT hZ (ww hw 81 rfl)) (mvT hZ (ww hw 82 rfl)) (mvT hZ (ww hw 43 rfl)) (mvT hZ (ww hw 83 rfl)) (by decide) (own_back (W := 0) (ut_2 l Z a0 hw [] a1 k1 c0 c1 i_COMPACT_STRINGS v_SIOOBE_FORMATTER T2.heap n0 O2 ft5 WW) hZ (ww hw 83 rfl) (ww hw 43 rfl) (by decide) (by decide)) (g := (mkF m 23 #[rv a1, iv 0, iv 2, rv b1, iv 1, .unset] [(.int 2), (.int 0), (.ref a1)])) rfl (by rw [hml]; rfl) (argsL := [(.ref a1), (.int (0 : Int32)), (.int (2 : Int32))]) (rest := []) (lenOf pd___CII__B rfl) rfl (by show 2 * 0 + _ ≤ _; exact Nat.le_of_eq rfl) (hb hby d7_23) (fun _ _ => ⟨rfl, rfl, (by decide : 1 + 1 ≤ _), (by decide : 2 + 4 ≤ _)⟩)
  dsimp only [Pt.U, Pt.locs, Pt.cells, Pt.slots] at X4 lq4 yq4 zz4 st4 hQ4
  subst lq4 yq4 zz4
  obtain ⟨b4, kb4, rfl, Nq4, zq4, kq4, vq4⟩ := hQ4
  have N4 := Fr.app N2 Nq4
  have ft6 := (Nat.lt_of_lt_of_le (Nat.lt_of_lt_of_le lt_a1 E1.1) kq2.1)
  have ne_a1_b4 : a1 ≠ b4 := Nat.ne_of_lt (Nat.lt_of_lt_of_le ft6 zq4)
  have ft7 := (Nat.lt_of_lt_of_le lt_b1 kq2.1)
  have ne_b1_b4 : b1 ≠ b4 := Nat.ne_of_lt (Nat.lt_of_lt_of_le ft7 zq4)
  have g_b4 : n0 ≤ b4 := Nat.le_trans (O2.1 ▸ O2.2.1) zq4
  have sz_b4 : h0.size ≤ b4 := Nat.le_trans K2.1 zq4
  have O4 : Old Z n0 T4.heap := O2.keep kq4 all0
  have K4 : Keep h0 T4.heap [] := K2.trans kq4 all0
  have lt_b4 := vq4.lt
  refine Go.st (f' := (mkF m 26 #[rv a1, iv 0, iv 2, rv b1, iv 1, .unset] [(.ref b4)])) (fun _ k => st4 _ k) ?_
  refine Go.st (f' := (mkF m 28 #[rv a1, iv 0, iv 2, rv b1, iv 1, rv b4] [])) (fun _ k => XS.astore X4.here hx rfl (hb hby d7_26) rfl rfl (l' := #[rv a1, iv 0, iv 2, rv b1, iv 1, rv b4]) rfl k) ?_
  refine Go.st (f' := (mkF m 30 #[rv a1, iv 0, iv 2, rv b1, iv 1, rv b4] [(.ref b4)])) (fun _ k => XS.aload X4.here hx rfl (hb hby d7_28) rfl rfl k) ?_
  refine Go.st (f' := (mkF m 32 #[rv a1, iv 0, iv 2, rv b1, iv 1, rv b4] [(.int 1), (.ref b4)])) (fun _ k => XS.iload X4.here hx rfl (hb hby d7_30) rfl k) ?_
  obtain ⟨_, _, ⟨T8, L8, kk8, nn8⟩, -, X8, ⟨Lc8, hQ8, lq8, yq8, zz8⟩, st8⟩ := Jvm.LawKit.callS X4 hx (y := (⟨"java/lang/StringUTF16", "getChar", "([BI)C"⟩ : MethodName)) hown (mvT hZ (ww hw 97 rfl)) (mvT hZ (ww hw 98 rfl)) (mvT hZ (ww hw 43 rfl)) (mvT hZ (ww hw 99 rfl)) (by decide) (own_back (W := 0) (ug_2_1 l Z a0 hw [] b4 kb4 (nar .byte ((c0 >>> ((0 : Int32) &&& 31)).toInt8.toInt32)) (nar .byte ((c0 >>> ((8 : Int32) &&& 31)).toInt8.toInt32)) (nar .byte ((c1 >>> ((0 : Int32) &&& 31)).toInt8.toInt32)) (nar .byte ((c1 >>> ((8 : Int32) &&& 31)).toInt8.toInt32)) i_COMPACT_STRINGS v_SIOOBE_FORMATTER T4.heap n0 O4 vq4 WW) hZ (ww hw 99 rfl) (ww hw 43 rfl) (by decide) (by decide)) (g := (mkF m 32 #[rv a1, iv 0, iv 2, rv b1, iv 1, rv b4] [(.int 1), (.ref b4)])) rfl (by rw [hml]; rfl) (argsL := [(.ref b4), (.int (1 : Int32))]) (rest := []) (lenOf pd___BI_C rfl) rfl (by show 2 * 0 + _ ≤ _; exact Nat.le_of_eq rfl) (hb hby d7_32) (fun _ _ => ⟨rfl, rfl, (by decide : 2 + 0 ≤ _), (by decide : 6 + 0 ≤ _)⟩)
  dsimp only [Pt.U, Pt.locs, Pt.cells, Pt.slots] at X8 lq8 yq8 zz8 st8 hQ8
  subst lq8 yq8 zz8
  obtain ⟨rfl, Nq8, kq8⟩ := hQ8
  have N8 := Fr.app N4 Nq8
  refine Go.st (f' := (mkF m 35 #[rv a1, iv 0, iv 2, rv b1, iv 1, rv b4] [(.int (nar .char ((((((nar .byte ((c1 >>> ((0 : Int32) &&& 31)).toInt8.toInt32)) &&& (255 : Int32)) <<< ((0 : Int32) &&& 31)) ||| (((nar .byte ((c1 >>> ((8 : Int32) &&& 31)).toInt8.toInt32)) &&& (255 : Int32)) <<< ((8 : Int32) &&& 31))).toUInt32.toUInt16.toUInt32.toInt32))))])) (fun _ k => st8 _ k) ?_
  refine Go.st (f' := (mkF m 38 #[rv a1, iv 0, iv 2, rv b1, iv 1, rv b4] [(.int 255), (.int (nar .char ((((((nar .byte ((c1 >>> ((0 : Int32) &&& 31)).toInt8.toInt32)) &&& (255 : Int32)) <<< ((0 : Int32) &&& 31)) ||| (((nar .byte ((c1 >>> ((8 : Int32) &&& 31)).toInt8.toInt32)) &&& (255 : Int32)) <<< ((8 : Int32) &&& 31))).toUInt32.toUInt16.toUInt32.toInt32))))])) (fun _ k => XS.sipush X8.here hx rfl (hb hby d7_35) k) ?_
  refine Go.st (f' := (mkF m 54 #[rv a1, iv 0, iv 2, rv b1, iv 1, rv b4] [])) (fun _ k => XS.icmpYes X8.here hx rfl (pc0 := 38) (pc' := 54) rfl (hb hby d7_38) rfl (tlt (own_gt hk_c1 hc_c1)).2.2.1 (by decide) (by decide) k) ?_
  refine Go.st (f' := (mkF m 56 #[rv a1, iv 0, iv 2, rv b1, iv 1, rv b4] [(.ref b4)])) (fun _ k => XS.aload X8.here hx rfl (hb hby d7_54) rfl rfl k) ?_
  refine Go.retV X8 hlk hx (t := (.array .byte)) hret rfl (Or.inr (Or.inr (Or.inr (Or.inr ⟨rfl, rfl, rfl⟩)))) (hb hby d7_56) kq8 ?_ (by decide) (by decide)
  exact ⟨b4, kb4, rfl, N8, sz_b4, K4, vq4⟩
theorem u3_2_u (l : Launch) (Z : State) (a0 : Array Value) (hw : ∀ d ∈ tables_1, d.before a0 Z = true) (ws : List Jvm.Cond) (a1 : Addr) (k1 : ClassId) (c0 : Int32) (c1 : Int32) (i_COMPACT_STRINGS : Int32) (v_SIOOBE_FORMATTER : Value) (h0 : Heap) (n0 : Nat) (O0 : Old Z n0 h0) (hu : (255 : Int32) < c0 ∨ (255 : Int32) < c1) (hk_c0 : 0 ≤ c0.toInt ∧ c0.toInt < 65536) (hk_c1 : 0 ≤ c1.toInt ∧ c1.toInt < 65536) (V_a1 : Arv Z h0 a1 k1 .char (2 : Int32) [(.int c0), (.int c1)] (.int 0)) (WW : World1 Z i_COMPACT_STRINGS v_SIOOBE_FORMATTER) :
    Con l Z (⟨"java/lang/StringUTF16", "compress", "([CII)[B"⟩ : MethodName) jdk_52_method_16_code 6 (some (.array .byte)) ws ({ frames := 3, cells := 2, slots := 6, locals := 40 } : Room) #[(.ref a1), (.int 0), (.int 2)] h0 (fun v h L => ∃ (b : Addr) (kb : ClassId), v = some (.ref b) ∧ Fr n0 L ∧ h0.size ≤ b ∧ Keep h0 h [] ∧ Arv Z h b kb .byte (4 : Int32) [(.int (nar .byte ((c0 >>> ((0 : Int32) &&& 31)).toInt8.toInt32))), (.int (nar .byte ((c0 >>> ((8 : Int32) &&& 31)).toInt8.toInt32))), (.int (nar .byte ((c1 >>> ((0 : Int32) &&& 31)).toInt8.toInt32))), (.int (nar .byte ((c1 >>> ((8 : Int32) &&& 31)).toInt8.toInt32)))] (.int 0)) := by
  by_cases q0 : (255 : Int32) < c0
  · exact u3_2_0 l Z a0 hw ws a1 k1 c0 c1 i_COMPACT_STRINGS v_SIOOBE_FORMATTER h0 n0 O0  q0 hk_c0 V_a1 WW
  by_cases q1 : (255 : Int32) < c1
  · exact u3_2_1 l Z a0 hw ws a1 k1 c0 c1 i_COMPACT_STRINGS v_SIOOBE_FORMATTER h0 n0 O0 q0 q1 hk_c1 V_a1 WW
  exact (fun z => z.elim (fun y => absurd y q0) (fun z => absurd z q1)) hu
set_option maxRecDepth 65536 in
set_option maxHeartbeats 40000000 in
theorem uv_2_u (l : Launch) (Z : State) (a0 : Array Value) (hw : ∀ d ∈ tables_1, d.before a0 Z = true) (ws : List Jvm.Cond) (a0b : Addr) (a1 : Addr) (k1 : ClassId) (c0 : Int32) (c1 : Int32) (i_COMPACT_STRINGS : Int32) (v_SIOOBE_FORMATTER : Value) (h0 : Heap) (n0 : Nat) (O0 : Old Z n0 h0) (hu : (255 : Int32) < c0 ∨ (255 : Int32) < c1) (hk_c0 : 0 ≤ c0.toInt ∧ c0.toInt < 65536) (hk_c1 : 0 ≤ c1.toInt ∧ c1.toInt < 65536) (g_a0b : n0 ≤ a0b) (nb1 : a0b ≠ a1) (E_a0b : Exa Z h0 a0b "java/lang/String") (F_a0b_coder : Fld Z h0 a0b "java/lang/String" "coder" "B" (.int 0)) (F_a0b_value : Fld Z h0 a0b "java/lang/String" "value" "[B" .null) (V_a1 : Arv Z h0 a1 k1 .char (2 : Int32) [(.int c0), (.int c1)] (.int 0)) (WW : World1 Z i_COMPACT_STRINGS v_SIOOBE_FORMATTER) :
    Con l Z (⟨"java/lang/String", "<init>", "([CIILjava/lang/Void;)V"⟩ : MethodName) jdk_42_method_149_code 6 none ws ({ frames := 4, cells := 2, slots := 6, locals := 57 } : Room) #[(.ref a0b), (.ref a1), (.int 0), (.int 2), .null] h0 (fun v h L => v = none ∧ Fr n0 L ∧ Keep h0 h [a0b] ∧ Exa Z h a0b "java/lang/String" ∧ Fld Z h a0b "java/lang/String" "coder" "B" (.int 1) ∧ ∃ (t : Addr) (kt : ClassId), h0.size ≤ t ∧ Fld Z h a0b "java/lang/String" "value" "[B" (.ref t) ∧ Arv Z h t kt .byte (4 : Int32) [(.int (nar .byte ((c0 >>> ((0 : Int32) &&& 31)).toInt8.toInt32))), (.int (nar .byte ((c0 >>> ((8 : Int32) &&& 31)).toInt8.toInt32))), (.int (nar .byte ((c1 >>> ((0 : Int32) &&& 31)).toInt8.toInt32))), (.int (nar .byte ((c1 >>> ((8 : Int32) &&& 31)).toInt8.toInt32)))] (.int 0)) := by
  refine own_body (plainFor_of_name pn_java_lang_String) ?_
  intro p e s m below meth c s₁ hx hby hml hZ hown hnm hlk hret X0 e0
  have N0 := Fr.nil n0
  have K0 : Keep h0 h0 [a0b] := Keep.refl _ _
  refine Go.st (T' := s₁) (f' := (mkF m 0 #[rv a0b, rv a1, iv 0, iv 2, .val .null, .unset] [])) (fun _ k => castTop (by first | (simp [entryFrame, mkF, argsToLocals, Value.category]; done) | rfl) k) ?_
  have ⟨S_i_COMPACT_STRINGS, nz_i_COMPACT_STRINGS, S_v_SIOOBE_FORMATTER, r_v_SIOOBE_FORMATTER, S_i__assertionsDisabled, S_i_HI_BYTE_SHIFT, S_i_LO_BYTE_SHIFT⟩ := WW
  have lt_a0b := E_a0b.lt
  have lt_a1 := V_a1.lt
  refine Go.st (f' := (mkF m 1 #[rv a0b, rv a1, iv 0, iv 2, .val .null, .unset] [(.ref a0b)])) (fun _ k => XS.aloadN X0.here hx rfl (hb hby d2_0) rfl rfl k) ?_
  obtain ⟨T1, X1, e1, st1⟩ := initO X0 hx hZ hown (ww hw 20 rfl) (ww hw 21 rfl) (ww hw 22 rfl) e0 (g := (mkF m 1 #[rv a0b, rv a1, iv 0, iv 2, .val .null, .unset] [(.ref a0b)])) rfl (by rw [hml]; rfl) rfl (hb hby d2_1) (by decide) (W := 0) (by show 2 * 0 + _ ≤ _; exact Nat.le_of_eq rfl) (by decide)
  refine Go.st (f' := (mkF m 4 #[rv a0b, rv a1, iv 0, iv 2, .val .null, .unset] [])) (fun _ k => st1 _ k) ?_
  refine Go.st (f' := (mkF m 5 #[rv a0b, rv a1, iv 0, iv 2, .val .null, .unset] [(.int 2)])) (fun _ k => XS.iloadN X1.here hx rfl (hb hby d2_4) rfl k) ?_
  refine Go.st (f' := (mkF m 27 #[rv a0b, rv a1, iv 0, iv 2, .val .null, .unset] [])) (fun _ k => XS.ifYes X1.here hx rfl (pc0 := 5) (pc' := 27) rfl (hb hby d2_5) rfl (by decide) (by decide) (by decide) k) ?_
  obtain ⟨T2, X2, e2, st2⟩ := getS2 X1 hx hZ hown (host := "") (Or.inl (ww hw 40 rfl)) Via.refl e1 (S_i_COMPACT_STRINGS.ext O0.2) (g := (mkF m 27 #[rv a0b, rv a1, iv 0, iv 2, .val .null, .unset] [])) rfl (hb hby d2_27)
  refine Go.st (f' := (mkF m 30 #[rv a0b, rv a1, iv 0, iv 2, .val .null, .unset] [(.int i_COMPACT_STRINGS)])) (fun _ k => st2 _ k) ?_
  refine Go.st (f' := (mkF m 33 #[rv a0b, rv a1, iv 0, iv 2, .val .null, .unset] [])) (fun _ k => XS.ifNo X2.here hx rfl (hb hby d2_30) rfl ((if0 _ _).trans (feq nz_i_COMPACT_STRINGS).1) k) ?_
  refine Go.st (f' := (mkF m 34 #[rv a0b, rv a1, iv 0, iv 2, .val .null, .unset] [(.ref a1)])) (fun _ k => XS.aloadN X2.here hx rfl (hb hby d2_33) rfl rfl k) ?_
  refine Go.st (f' := (mkF m 35 #[rv a0b, rv a1, iv 0, iv 2, .val .null, .unset] [(.int 0), (.ref a1)])) (fun _ k => XS.iloadN X2.here hx rfl (hb hby d2_34) rfl k) ?_
  refine Go.st (f' := (mkF m 36 #[rv a0b, rv a1, iv 0, iv 2, .val .null, .unset] [(.int 2), (.int 0), (.ref a1)])) (fun _ k => XS.iloadN X2.here hx rfl (hb hby d2_35) rfl k) ?_
  obtain ⟨_, _, ⟨T3, L3, kk3, nn3⟩, -, X3, ⟨Lc3, hQ3, lq3, yq3, zz3⟩, st3⟩ := Jvm.LawKit.callS X2 hx (y := (⟨"java/lang/StringUTF16", "compress", "([CII)[B"⟩ : MethodName)) hown (mvT hZ (ww hw 41 rfl)) (mvT hZ (ww hw 42 rfl)) (mvT hZ (ww hw 43 rfl)) (mvT hZ (ww hw 44 rfl)) (by decide) (own_back (W := 0) (u3_2_u l Z a0 hw [] a1 k1 c0 c1 i_COMPACT_STRINGS v_SIOOBE_FORMATTER h0 n0 O0 hu hk_c0 hk_c1 V_a1 WW) hZ (ww hw 44 rfl) (ww hw 43 rfl) (by decide) (by decide)) (g := (mkF m 36 #[rv a0b, rv a1, iv 0, iv 2, .val .null, .unset] [(.int 2), (.int 0), (.ref a1)])) rfl (by rw [hml]; rfl) (argsL := [(.ref a1), (.int (0 : Int32)), (.int (2 : Int32))]) (rest := []) (lenOf pd___CII__B rfl) rfl (by show 2 * 0 + _ ≤ _; exact Nat.le_of_eq rfl) (hb hby d2_36) (fun _ _ => ⟨rfl, e2, (by decide : 0 + 2 ≤ _), (by decide : 0 + 6 ≤ _)⟩)
  dsimp only [Pt.U, Pt.locs, Pt.cells, Pt.slots] at X3 lq3 yq3 zz3 st3 hQ3
  subst lq3 yq3 zz3
  obtain ⟨b3, kb3, rfl, Nq3, zq3, kq3, vq3⟩ := hQ3
  have N3 := Fr.app N0 Nq3
  have ne_a0b_b3 : a0b ≠ b3 := Nat.ne_of_lt (Nat.lt_of_lt_of_le lt_a0b zq3)
  have ne_a1_b3 : a1 ≠ b3 := Nat.ne_of_lt (Nat.lt_of_lt_of_le lt_a1 zq3)
  have g_b3 : n0 ≤ b3 := Nat.le_trans (O0.1 ▸ O0.2.1) zq3
  have sz_b3 : h0.size ≤ b3 := Nat.le_trans K0.1 zq3
  have O3 : Old Z n0 T3.heap := O0.keep kq3 all0
  have K3 : Keep h0 T3.heap [a0b] := K0.trans kq3 all0
  have lt_b3 := vq3.lt
  refine Go.st (f' := (mkF m 39 #[rv a0b, rv a1, iv 0, iv 2, .val .null, .unset] [(.ref b3)])) (fun _ k => st3 _ k) ?_
  refine Go.st (f' := (mkF m 41 #[rv a0b, rv a1, iv 0, iv 2, .val .null, rv b3] [])) (fun _ k => XS.astore X3.here hx rfl (hb hby d2_39) rfl rfl (l' := #[rv a0b, rv a1, iv 0, iv 2, .val .null, rv b3]) rfl k) ?_
  refine Go.st (f' := (mkF m 42 #[rv a0b, rv a1, iv 0, iv 2, .val .null, rv b3] [(.ref a0b)])) (fun _ k => XS.aloadN X3.here hx rfl (hb hby d2_41) rfl rfl k) ?_
  refine Go.st (f' := (mkF m 44 #[rv a0b, rv a1, iv 0, iv 2, .val .null, rv b3] [(.ref b3), (.ref a0b)])) (fun _ k => XS.aload X3.here hx rfl (hb hby d2_42) rfl rfl k) ?_
  refine Go.st (f' := (mkF m 45 #[rv a0b, rv a1, iv 0, iv 2, .val .null, rv b3] [(.int 2), (.ref b3), (.ref a0b)])) (fun _ k => XS.iloadN X3.here hx rfl (hb hby d2_44) rfl k) ?_
  obtain ⟨_, _, ⟨T4, L4, kk4, nn4⟩, -, X4, ⟨Lc4, hQ4, lq4, yq4, zz4⟩, st4⟩ := Jvm.LawKit.callS X3 hx (y := (⟨"java/lang/StringUTF16", "coderFromArrayLen", "([BI)B"⟩ : MethodName)) hown (mvT hZ (ww hw 48 rfl)) (mvT hZ (ww hw 49 rfl)) (mvT hZ (ww hw 43 rfl)) (mvT hZ (ww hw 50 rfl)) (by decide) (own_back (W := 1) (uc_2_4 l Z a0 hw [] b3 kb3 (nar .byte ((c0 >>> ((0 : Int32) &&& 31)).toInt8.toInt32)) (nar .byte ((c0 >>> ((8 : Int32) &&& 31)).toInt8.toInt32)) (nar .byte ((c1 >>> ((0 : Int32) &&& 31)).toInt8.toInt32)) (nar .byte ((c1 >>> ((8 : Int32) &&& 31)).toInt8.toInt32)) T3.heap n0 O3 vq3) hZ (ww hw 50 rfl) (ww hw 43 rfl) (by decide) (by decide)) (g := (mkF m 45 #[rv a0b, rv a1, iv 0, iv 2, .val .null, rv b3] [(.int 2), (.ref b3), (.ref a0b)])) rfl (by rw [hml]; rfl) (argsL := [(.ref b3), (.int (2 : Int32))]) (rest := [(.ref a0b)]) (lenOf pd___BI_B rfl) rfl (by show 2 * 0 + _ ≤ _; exact Nat.le_of_eq rfl) (hb hby d2_45) (fun _ _ => ⟨rfl, rfl, (by decide : 2 + 0 ≤ _), (by decide : 6 + 0 ≤ _)⟩)
  dsimp only [Pt.U, Pt.locs, Pt.cells, Pt.slots] at X4 lq4 yq4 zz4 st4 hQ4
  subst lq4 yq4 zz4
  obtain ⟨rfl, Nq4, kq4⟩ := hQ4
  have N4 := Fr.app N3 Nq4
  refine Go.st (f' := (mkF m 48 #[rv a0b, rv a1, iv 0, iv 2, .val .null, rv b3] [(.int 1), (.ref a0b)])) (fun _ k => st4 _ k) ?_
  have ft5 := (E_a0b.keep kq3)
  have ft6 := (F_a0b_coder.keep kq3 nin0)
  obtain ⟨T7, h7, X7, e7, W7, st7⟩ := putFN X4 hx hZ hown (ww hw 25 rfl) Via.refl kq4 ft6 ft5 (Or.inr ⟨(ww hw 7 rfl), rfl, hnm⟩) (ww hw 4 rfl) (ty := .byte) (v' := (.int (1 : Int32))) (by decide) rfl (by decide) (g := (mkF m 48 #[rv a0b, rv a1, iv 0, iv 2, .val .null, rv b3] [(.int 1), (.ref a0b)])) rfl rfl (hb hby d2_48)
  have N7 := Fr.snoc X7 N4 g_a0b
  have O7 : Old Z n0 h7 := O3.wr W7 g_a0b
  have K7 : Keep h0 h7 [a0b] := K3.wr W7 (Or.inl (List.mem_of_getElem? (i := 0) rfl))
  have Fw7 := ft6.same W7
  refine Go.st (f' := (mkF m 51 #[rv a0b, rv a1, iv 0, iv 2, .val .null, rv b3] [])) (fun _ k => st7 _ k) ?_
  refine Go.st (f' := (mkF m 52 #[rv a0b, rv a1, iv 0, iv 2, .val .null, rv b3] [(.ref a0b)])) (fun _ k => XS.aloadN X7.here hx rfl (hb hby d2_51) rfl rfl k) ?_
  refine Go.st (f' := (mkF m 54 #[rv a0b, rv a1, iv 0, iv 2, .val .null, rv b3] [(.ref b3), (.ref a0b)])) (fun _ k => XS.aload X7.here hx rfl (hb hby d2_52) rfl rfl k) ?_
  have ft8 := (ft5.wr W7)
  have ft9 := ((F_a0b_value.keep kq3 nin0).other W7 (Or.inr (slot_ne (Or.inr (ww hw 6 rfl)) (Or.inr (ww hw 7 rfl)) (by decide) (t := (.array .byte)) (t' := .byte) (by decide) (by decide))))
  obtain ⟨T10, h10, X10, e10, W10, st10⟩ := putF X7 hx hZ hown (host := "") (Or.inl (ww hw 24 rfl)) Via.refl e7 ft9 ft8 (Or.inr ⟨(ww hw 6 rfl), rfl, hnm⟩) (ww hw 4 rfl) (ty := (.array .byte)) (by decide) rfl rfl (g := (mkF m 54 #[rv a0b, rv a1, iv 0, iv 2, .val .null, rv b3] [(.ref b3), (.ref a0b)])) rfl rfl (hb hby d2_54)
  have N10 := Fr.snoc X10 N7 g_a0b
  have O10 : Old Z n0 h10 := O7.wr W10 g_a0b
  have K10 : Keep h0 h10 [a0b] := K7.wr W10 (Or.inl (List.mem_of_getElem? (i := 0) rfl))
  have Fw10 := ft9.same W10
  refine Go.st (f' := (mkF m 57 #[rv a0b, rv a1, iv 0, iv 2, .val .null, rv b3] [])) (fun _ k => st10 _ k) ?_
  refine Go.ret0 X10 hlk hx hret (hb hby d2_57) e10 ?_ (by decide) (by decide)
  have ft11 := (ft8.wr W10)
  have ft12 := (Fw7.other W10 (Or.inr (slot_ne (Or.inr (ww hw 7 rfl)) (Or.inr (ww hw 6 rfl)) (by decide) (t := .byte) (t' := (.array .byte)) (by decide) (by decide))))
  have ft13 := ((vq3.other W7 (Ne.symm ne_a0b_b3)).other W10 (Ne.symm ne_a0b_b3))
  exact ⟨rfl, N10, K10, ft11, ft12, b3, kb3, sz_b3, Fw10, ft13⟩
set_option maxRecDepth 65536 in
set_option maxHeartbeats 40000000 in
theorem u1_2_u (l : Launch) (Z : State) (a0 : Array Value) (hw : ∀ d ∈ tables_1, d.before a0 Z = true) (ws : List Jvm.Cond) (a0b : Addr) (a1 : Addr) (k1 : ClassId) (c0 : Int32) (c1 : Int32) (i_COMPACT_STRINGS : Int32) (v_SIOOBE_FORMATTER : Value) (h0 : Heap) (n0 : Nat) (O0 : Old Z n0 h0) (hu : (255 : Int32) < c0 ∨ (255 : Int32) < c1) (hk_c0 : 0 ≤ c0.toInt ∧ c0.toInt < 65536) (hk_c1 : 0 ≤ c1.toInt ∧ c1.toInt < 65536) (g_a0b : n0 ≤ a0b) (nb1 : a0b ≠ a1) (E_a0b : Exa Z h0 a0b "java/lang/String") (F_a0b_coder : Fld Z h0 a0b "java/lang/String" "coder" "B" (.int 0)) (F_a0b_value : Fld Z h0 a0b "java/lang/String" "value" "[B" .null) (V_a1 : Arv Z h0 a1 k1 .char (2 : Int32) [(.int c0), (.int c1)] (.int 0)) (WW : World1 Z i_COMPACT_STRINGS v_SIOOBE_FORMATTER) :
    Con l Z (⟨"java/lang/String", "<init>", "([C)V"⟩ : MethodName) jdk_42_method_3_code 2 none ws ({ frames := 5, cells := 2, slots := 6, locals := 74 } : Room) #[(.ref a0b), (.ref a1)] h0 (fun v h L => v = none ∧ Fr n0 L ∧ Keep h0 h [a0b] ∧ Exa Z h a0b "java/lang/String" ∧ Fld Z h a0b "java/lang/String" "coder" "B" (.int 1) ∧ ∃ (t : Addr) (kt : ClassId), h0.size ≤ t ∧ Fld Z h a0b "java/lang/String" "value" "[B" (.ref t) ∧ Arv Z h t kt .byte (4 : Int32) [(.int (nar .byte ((c0 >>> ((0 : Int32) &&& 31)).toInt8.toInt32))), (.int (nar .byte ((c0 >>> ((8 : Int32) &&& 31)).toInt8.toInt32))), (.int (nar .byte ((c1 >>> ((0 : Int32) &&& 31)).toInt8.toInt32))), (.int (nar .byte ((c1 >>> ((8 : Int32) &&& 31)).toInt8.toInt32)))] (.int 0)) := by
  refine own_body (plainFor_of_name pn_java_lang_String) ?_
  intro p e s m below meth c s₁ hx hby hml hZ hown hnm hlk hret X0 e0
  have N0 := Fr.nil n0
  have K0 : Keep h0 h0 [a0b] := Keep.refl _ _
  refine Go.st (T' := s₁) (f' := (mkF m 0 #[rv a0b, rv a1] [])) (fun _ k => castTop (by first | (simp [entryFrame, mkF, argsToLocals, Value.category]; done) | rfl) k) ?_
  have ⟨S_i_COMPACT_STRINGS, nz_i_COMPACT_STRINGS, S_v_SIOOBE_FORMATTER, r_v_SIOOBE_FORMATTER, S_i__assertionsDisabled, S_i_HI_BYTE_SHIFT, S_i_LO_BYTE_SHIFT⟩ := WW
  have lt_a0b := E_a0b.lt
  have lt_a1 := V_a1.lt
  refine Go.st (f' := (mkF m 1 #[rv a0b, rv a1] [(.ref a0b)])) (fun _ k => XS.aloadN X0.here hx rfl (hb hby d1_0) rfl rfl k) ?_
  refine Go.st (f' := (mkF m 2 #[rv a0b, rv a1] [(.ref a1), (.ref a0b)])) (fun _ k => XS.aloadN X0.here hx rfl (hb hby d1_1) rfl rfl k) ?_
  refine Go.st (f' := (mkF m 3 #[rv a0b, rv a1] [(.int 0), (.ref a1), (.ref a0b)])) (fun _ k => XS.iconst X0.here hx rfl (hb hby d1_2) k) ?_
  refine Go.st (f' := (mkF m 4 #[rv a0b, rv a1] [(.ref a1), (.int 0), (.ref a1), (.ref a0b)])) (fun _ k => XS.aloadN X0.here hx rfl (hb hby d1_3) rfl rfl k) ?_
  obtain ⟨cl1, Ar1, -, S1, Nx1, -, -⟩ := id V_a1
  refine Go.st (T' := s₁) (f' := (mkF m 5 #[rv a0b, rv a1] [(.int 2), (.int 0), (.ref a1), (.ref a0b)])) (fun _ k => X0.arraylength hx (by rw [e0]; exact Ar1.1) (State.isArrayOf_alike hZ.alike Ar1.2.1) (g := (mkF m 4 #[rv a0b, rv a1] [(.ref a1), (.int 0), (.ref a1), (.ref a0b)])) rfl rfl (hb hby d1_4) _ (by rw [len_of S1 Nx1]; exact k)) ?_
  refine Go.st (f' := (mkF m 6 #[rv a0b, rv a1] [.null, (.int 2), (.int 0), (.ref a1), (.ref a0b)])) (fun _ k => XS.aconstNull X0.here hx rfl (hb hby d1_5) k) ?_
  obtain ⟨_, _, ⟨T2, L2, kk2, nn2⟩, -, X2, ⟨Lc2, hQ2, lq2, yq2, zz2⟩, st2⟩ := X0.specialBack hx (y := (⟨"java/lang/String", "<init>", "([CIILjava/lang/Void;)V"⟩ : MethodName)) rfl hown (mvT hZ (ww hw 16 rfl)) (mvT hZ (ww hw 17 rfl)) (mvT hZ (ww hw 19 rfl)) (by decide) (own_back (W := 0) (uv_2_u l Z a0 hw [] a0b a1 k1 c0 c1 i_COMPACT_STRINGS v_SIOOBE_FORMATTER h0 n0 O0 hu hk_c0 hk_c1 g_a0b nb1 E_a0b F_a0b_coder F_a0b_value V_a1 WW) hZ (ww hw 19 rfl) (ww hw 3 rfl) (by decide) (by decide)) (g := (mkF m 6 #[rv a0b, rv a1] [.null, (.int 2), (.int 0), (.ref a1), (.ref a0b)])) rfl (by rw [hml]; rfl) (Steps.refl _) (a := a0b) (argsL := [(.ref a1), (.int (0 : Int32)), (.int (2 : Int32)), .null]) (rest := []) (lenOf pd___CIILjava_lang_Void__V rfl) rfl (by show 2 * 0 + _ ≤ _; exact Nat.le_of_eq rfl) (hb hby d1_6) (fun _ _ => ⟨rfl, e0, (by decide : 0 + 2 ≤ _), (by decide : 0 + 6 ≤ _)⟩)
  dsimp only [Pt.U, Pt.locs, Pt.cells, Pt.slots] at X2 lq2 yq2 zz2 st2 hQ2
  subst lq2 yq2 zz2
  obtain ⟨rfl, Nq2, kq2, eq2, cq2, tt2, kt2, zq2, fq2, vq2⟩ := hQ2
  have N2 := Fr.app N0 Nq2
  have ne_a0b_tt2 : a0b ≠ tt2 := Nat.ne_of_lt (Nat.lt_of_lt_of_le lt_a0b zq2)
  have ne_a1_tt2 : a1 ≠ tt2 := Nat.ne_of_lt (Nat.lt_of_lt_of_le lt_a1 zq2)
  have g_tt2 : n0 ≤ tt2 := Nat.le_trans (O0.1 ▸ O0.2.1) zq2
  have sz_tt2 : h0.size ≤ tt2 := Nat.le_trans K0.1 zq2
  have O2 : Old Z n0 T2.heap := O0.keep kq2 (allS g_a0b all0)
  have K2 : Keep h0 T2.heap [a0b] := K0.trans kq2 (allS (Or.inl (List.mem_of_getElem? (i := 0) rfl)) all0)
  have lt_tt2 := vq2.lt
  refine Go.tr (f' := (mkF m 9 #[rv a0b, rv a1] [])) st2 ?_
  refine Go.ret0 X2 hlk hx hret (hb hby d1_9) rfl ?_ (by decide) (by decide)
  exact ⟨rfl, N2, K2, eq2, cq2, tt2, kt2, sz_tt2, fq2, vq2⟩
set_option maxRecDepth 65536 in
set_option maxHeartbeats 40000000 in
theorem u1_2_2 (l : Launch) (Z : State) (a0 : Array Value) (hw : ∀ d ∈ tables_1, d.before a0 Z = true) (ws : List Jvm.Cond) (a0b : Addr) (a1 : Addr) (k1 : ClassId) (c0 : Int32) (c1 : Int32) (i_COMPACT_STRINGS : Int32) (v_SIOOBE_FORMATTER : Value) (h0 : Heap) (n0 : Nat) (O0 : Old Z n0 h0) (hc_c0 : ¬ (255 : Int32) < c0) (hc_c1 : ¬ (255 : Int32) < c1) (g_a0b : n0 ≤ a0b) (nb1 : a0b ≠ a1) (E_a0b : Exa Z h0 a0b "java/lang/String") (F_a0b_coder : Fld Z h0 a0b "java/lang/String" "coder" "B" (.int 0)) (F_a0b_value : Fld Z h0 a0b "java/lang/String" "value" "[B" .null) (V_a1 : Arv Z h0 a1 k1 .char (2 : Int32) [(.int c0), (.int c1)] (.int 0)) (WW : World1 Z i_COMPACT_STRINGS v_SIOOBE_FORMATTER) :
    Con l Z (⟨"java/lang/String", "<init>", "([C)V"⟩ : MethodName) jdk_42_method_3_code 2 none ws ({ frames := 5, cells := 2, slots := 6, locals := 74 } : Room) #[(.ref a0b), (.ref a1)] h0 (fun v h L => v = none ∧ Fr n0 L ∧ Keep h0 h [a0b] ∧ Exa Z h a0b "java/lang/String" ∧ Fld Z h a0b "java/lang/String" "coder" "B" (.int 0) ∧ ∃ (t : Addr) (kt : ClassId), h0.size ≤ t ∧ Fld Z h a0b "java/lang/String" "value" "[B" (.ref t) ∧ Arv Z h t kt .byte (2 : Int32) [(.int (nar .byte (c0.toInt8.toInt32))), (.int (nar .byte (c1.toInt8.toInt32)))] (.int 0)) := by
  refine own_body (plainFor_of_name pn_java_lang_String) ?_
  intro p e s m below meth c s₁ hx hby hml hZ hown hnm hlk hret X0 e0
  have N0 := Fr.nil n0
  have K0 : Keep h0 h0 [a0b] := Keep.refl _ _
  refine Go.st (T' := s₁) (f' := (mkF m 0 #[rv a0b, rv a1] [])) (fun _ k => castTop (by first | (simp [entryFrame, mkF, argsToLocals, Value.category]; done) | rfl) k) ?_
  have ⟨S_i_COMPACT_STRINGS, nz_i_COMPACT_STRINGS, S_v_SIOOBE_FORMATTER, r_v_SIOOBE_FORMATTER, S_i__assertionsDisabled, S_i_HI_BYTE_SHIFT, S_i_LO_BYTE_SHIFT⟩ := WW
  have lt_a0b := E_a0b.lt
  have lt_a1 := V_a1.lt
  refine Go.st (f' := (mkF m 1 #[rv a0b, rv a1] [(.ref a0b)])) (fun _ k => XS.aloadN X0.here hx rfl (hb hby d1_0) rfl rfl k) ?_
  refine Go.st (f' := (mkF m 2 #[rv a0b, rv a1] [(.ref a1), (.ref a0b)])) (fun _ k => XS.aloadN X0.here hx rfl (hb hby d1_1) rfl rfl k) ?_
  refine Go.st (f' := (mkF m 3 #[rv a0b, rv a1] [(.int 0), (.ref a1), (.ref a0b)])) (fun _ k => XS.iconst X0.here hx rfl (hb hby d1_2) k) ?_
  refine Go.st (f' := (mkF m 4 #[rv a0b, rv a1] [(.ref a1), (.int 0), (.ref a1), (.ref a0b)])) (fun _ k => XS.aloadN X0.here hx rfl (hb hby d1_3) rfl rfl k) ?_
  obtain ⟨cl1, Ar1, -, S1, Nx1, -, -⟩ := id V_a1
  refine Go.st (T' := s₁) (f' := (mkF m 5 #[rv a0b, rv a1] [(.int 2), (.int 0), (.ref a1), (.ref a0b)])) (fun _ k => X0.arraylength hx (by rw [e0]; exact Ar1.1) (State.isArrayOf_alike hZ.alike Ar1.2.1) (g := (mkF m 4 #[rv a0b, rv a1] [(.ref a1), (.int 0), (.ref a1), (.ref a0b)])) rfl rfl (hb hby d1_4) _ (by rw [len_of S1 Nx1]; exact k)) ?_
  refine Go.st (f' := (mkF m 6 #[rv a0b, rv a1] [.null, (.int 2), (.int 0), (.ref a1), (.ref a0b)])) (fun _ k => XS.aconstNull X0.here hx rfl (hb hby d1_5) k) ?_
  obtain ⟨_, _, ⟨T2, L2, kk2, nn2⟩, -, X2, ⟨Lc2, hQ2, lq2, yq2, zz2⟩, st2⟩ := X0.specialBack hx (y := (⟨"java/lang/String", "<init>", "([CIILjava/lang/Void;)V"⟩ : MethodName)) rfl hown (mvT hZ (ww hw 16 rfl)) (mvT hZ (ww hw 17 rfl)) (mvT hZ (ww hw 19 rfl)) (by decide) (own_back (W := 0) (uv_2_2 l Z a0 hw [] a0b a1 k1 c0 c1 i_COMPACT_STRINGS v_SIOOBE_FORMATTER h0 n0 O0 hc_c0 hc_c1 g_a0b nb1 E_a0b F_a0b_coder F_a0b_value V_a1 WW) hZ (ww hw 19 rfl) (ww hw 3 rfl) (by decide) (by decide)) (g := (mkF m 6 #[rv a0b, rv a1] [.null, (.int 2), (.int 0), (.ref a1), (.ref a0b)])) rfl (by rw [hml]; rfl) (Steps.refl _) (a := a0b) (argsL := [(.ref a1), (.int (0 : Int32)), (.int (2 : Int32)), .null]) (rest := []) (lenOf pd___CIILjava_lang_Void__V rfl) rfl (by show 2 * 0 + _ ≤ _; exact Nat.le_of_eq rfl) (hb hby d1_6) (fun _ _ => ⟨rfl, e0, (by decide : 0 + 1 ≤ _), (by decide : 0 + 2 ≤ _)⟩)
  dsimp only [Pt.U, Pt.locs, Pt.cells, Pt.slots] at X2 lq2 yq2 zz2 st2 hQ2
  subst lq2 yq2 zz2
  obtain ⟨rfl, Nq2, kq2, eq2, cq2, tt2, kt2, zq2, fq2, vq2⟩ := hQ2
  have N2 := Fr.app N0 Nq2
  have ne_a0b_tt2 : a0b ≠ tt2 := Nat.ne_of_lt (Nat.lt_of_lt_of_le lt_a0b zq2)
  have ne_a1_tt2 : a1 ≠ tt2 := Nat.ne_of_lt (Nat.lt_of_lt_of_le lt_a1 zq2)
  have g_tt2 : n0 ≤ tt2 := Nat.le_trans (O0.1 ▸ O0.2.1) zq2
  have sz_tt2 : h0.size ≤ tt2 := Nat.le_trans K0.1 zq2
  have O2 : Old Z n0 T2.heap := O0.keep kq2 (allS g_a0b all0)
  have K2 : Keep h0 T2.heap [a0b] := K0.trans kq2 (allS (Or.inl (List.mem_of_getElem? (i := 0) rfl)) all0)
  have lt_tt2 := vq2.lt
  refine Go.tr (f' := (mkF m 9 #[rv a0b, rv a1] [])) st2 ?_
  refine Go.ret0 X2 hlk hx hret (hb hby d1_9) rfl ?_ (by decide) (by decide)
  exact ⟨rfl, N2, K2, eq2, cq2, tt2, kt2, sz_tt2, fq2, vq2⟩
def Sx2 (Z : State) (h : Heap) (a0b t : Addr) (kt : ClassId) (c0 c1 : Int32) : Prop := ((Fld Z h a0b "java/lang/String" "coder" "B" (.int (0 : Int32)) ∧ (¬ (255 : Int32) < c0 ∧ ¬ (255 : Int32) < c1) ∧ Arv Z h t kt .byte (2 : Int32) [(.int (nar .byte (c0.toInt8.toInt32))), (.int (nar .byte (c1.toInt8.toInt32)))] (.int (0 : Int32))) ∨ (Fld Z h a0b "java/lang/String" "coder" "B" (.int (1 : Int32)) ∧ Arv Z h t kt .byte (4 : Int32) [(.int (nar .byte ((c0 >>> ((0 : Int32) &&& 31)).toInt8.toInt32))), (.int (nar .byte ((c0 >>> ((8 : Int32) &&& 31)).toInt8.toInt32))), (.int (nar .byte ((c1 >>> ((0 : Int32) &&& 31)).toInt8.toInt32))), (.int (nar .byte ((c1 >>> ((8 : Int32) &&& 31)).toInt8.toInt32)))] (.int (0 : Int32))))
theorem uA_2 (l : Launch) (Z : State) (a0 : Array Value) (hw : ∀ d ∈ tables_1, d.before a0 Z = true) (ws : List Jvm.Cond) (a0b : Addr) (a1 : Addr) (k1 : ClassId) (c0 : Int32) (c1 : Int32) (i_COMPACT_STRINGS : Int32) (v_SIOOBE_FORMATTER : Value) (h0 : Heap) (n0 : Nat) (O0 : Old Z n0 h0) (hk_c0 : 0 ≤ c0.toInt ∧ c0.toInt < 65536) (hk_c1 : 0 ≤ c1.toInt ∧ c1.toInt < 65536) (g_a0b : n0 ≤ a0b) (nb1 : a0b ≠ a1) (E_a0b : Exa Z h0 a0b "java/lang/String") (F_a0b_coder : Fld Z h0 a0b "java/lang/String" "coder" "B" (.int 0)) (F_a0b_value : Fld Z h0 a0b "java/lang/String" "value" "[B" .null) (V_a1 : Arv Z h0 a1 k1 .char (2 : Int32) [(.int c0), (.int c1)] (.int 0)) (WW : World1 Z i_COMPACT_STRINGS v_SIOOBE_FORMATTER) :
    Con l Z (⟨"java/lang/String", "<init>", "([C)V"⟩ : MethodName) jdk_42_method_3_code 2 none ws ({ frames := 5, cells := 2, slots := 6, locals := 74 } : Room) #[(.ref a0b), (.ref a1)] h0 (fun v h L => v = none ∧ Fr n0 L ∧ Keep h0 h [a0b] ∧ Exa Z h a0b "java/lang/String" ∧ ∃ (t : Addr) (kt : ClassId), h0.size ≤ t ∧ Fld Z h a0b "java/lang/String" "value" "[B" (.ref t) ∧ Sx2 Z h a0b t kt c0 c1) := by
  by_cases q0 : (255 : Int32) < c0
  · exact Con.weaken (u1_2_u l Z a0 hw ws a0b a1 k1 c0 c1 i_COMPACT_STRINGS v_SIOOBE_FORMATTER h0 n0 O0 (Or.inl q0) hk_c0 hk_c1 g_a0b nb1 E_a0b F_a0b_coder F_a0b_value V_a1 WW) (fun _ _ _ ⟨z1, z2, z3, z4, z5, t, kt, z6, z7, z8⟩ => ⟨z1, z2, z3, z4, t, kt, z6, z7, Or.inr ⟨z5, z8⟩⟩)
  by_cases q1 : (255 : Int32) < c1
  · exact Con.weaken (u1_2_u l Z a0 hw ws a0b a1 k1 c0 c1 i_COMPACT_STRINGS v_SIOOBE_FORMATTER h0 n0 O0 (Or.inr (q1)) hk_c0 hk_c1 g_a0b nb1 E_a0b F_a0b_coder F_a0b_value V_a1 WW) (fun _ _ _ ⟨z1, z2, z3, z4, z5, t, kt, z6, z7, z8⟩ => ⟨z1, z2, z3, z4, t, kt, z6, z7, Or.inr ⟨z5, z8⟩⟩)
  exact Con.weaken (u1_2_2 l Z a0 hw ws a0b a1 k1 c0 c1 i_COMPACT_STRINGS v_SIOOBE_FORMATTER h0 n0 O0 q0 q1 g_a0b nb1 E_a0b F_a0b_coder F_a0b_value V_a1 WW) (fun _ _ _ ⟨z1, z2, z3, z4, z5, t, kt, z6, z7, z8⟩ => ⟨z1, z2, z3, z4, t, kt, z6, z7, Or.inl ⟨z5, ⟨q0, q1⟩, z8⟩⟩)
set_option maxRecDepth 65536 in
set_option maxHeartbeats 40000000 in
theorem uc_3_3 (l : Launch) (Z : State) (a0 : Array Value) (hw : ∀ d ∈ tables_1, d.before a0 Z = true) (ws : List Jvm.Cond) (a1 : Addr) (k1 : ClassId) (x0 : Int32) (x1 : Int32) (x2 : Int32) (h0 : Heap) (n0 : Nat) (O0 : Old Z n0 h0) (V_a1 : Arv Z h0 a1 k1 .byte (3 : Int32) [(.int x0), (.int x1), (.int x2)] (.int 0)) :
    Con l Z (⟨"java/lang/StringUTF16", "coderFromArrayLen", "([BI)B"⟩ : MethodName) jdk_52_method_15_code 2 (some .byte) ws ({ frames := 0, cells := 0, slots := 0, locals := 0 } : Room) #[(.ref a1), (.int 3)] h0 (fun v h L => v = some (.int 0) ∧ Fr n0 L ∧ h = h0) := by
  refine own_body (plainFor_of_name pn_java_lang_StringUTF16) ?_
  intro p e s m below meth c s₁ hx hby hml hZ hown hnm hlk hret X0 e0
  have N0 := Fr.nil n0
  refine Go.st (T' := s₁) (f' := (mkF m 0 #[rv a1, iv 3] [])) (fun _ k => castTop (by first | (simp [entryFrame, mkF, argsToLocals, Value.category]; done) | rfl) k) ?_
  have lt_a1 := V_a1.lt
  refine Go.st (f' := (mkF m 1 #[rv a1, iv 3] [(.int 3)])) (fun _ k => XS.iloadN X0.here hx rfl (hb hby d9_0) rfl k) ?_
  refine Go.st (f' := (mkF m 2 #[rv a1, iv 3] [(.ref a1), (.int 3)])) (fun _ k => XS.aloadN X0.here hx rfl (hb hby d9_1) rfl rfl k) ?_
  obtain ⟨cl1, Ar1, -, S1, Nx1, -, -⟩ := id V_a1
  refine Go.st (T' := s₁) (f' := (mkF m 3 #[rv a1, iv 3] [(.int 3), (.int 3)])) (fun _ k => X0.arraylength hx (by rw [e0]; exact Ar1.1) (State.isArrayOf_alike hZ.alike Ar1.2.1) (g := (mkF m 2 #[rv a1, iv 3] [(.ref a1), (.int 3)])) rfl rfl (hb hby d9_2) _ (by rw [len_of S1 Nx1]; exact k)) ?_
  refine Go.st (f' := (mkF m 4 #[rv a1, iv 3] [(.int 0)])) (fun _ k => XS.isub X0.here hx rfl (hb hby d9_3) rfl k) ?_
  refine Go.st (f' := (mkF m 6 #[rv a1, iv 3] [(.int 31), (.int 0)])) (fun _ k => XS.bipush X0.here hx rfl (hb hby d9_4) k) ?_
  refine Go.st (f' := (mkF m 7 #[rv a1, iv 3] [(.int 0)])) (fun _ k => XS.iushr X0.here hx rfl (hb hby d9_6) rfl k) ?_
  refine Go.st (f' := (mkF m 8 #[rv a1, iv 3] [(.int 0)])) (fun _ k => XS.i2b X0.here hx rfl (hb hby d9_7) rfl k) ?_
  refine Go.retB X0 hlk hx (t := .byte) hret (by simp) (hb hby d9_8) e0 ?_ (by decide) (by decide)
  exact ⟨rfl, N0, rfl⟩
set_option maxRecDepth 65536 in
set_option maxHeartbeats 40000000 in
theorem uc_3_6 (l : Launch) (Z : State) (a0 : Array Value) (hw : ∀ d ∈ tables_1, d.before a0 Z = true) (ws : List Jvm.Cond) (a1 : Addr) (k1 : ClassId) (x0 : Int32) (x1 : Int32) (x2 : Int32) (x3 : Int32) (x4 : Int32) (x5 : Int32) (h0 : Heap) (n0 : Nat) (O0 : Old Z n0 h0) (V_a1 : Arv Z h0 a1 k1 .byte (6 : Int32) [(.int x0), (.int x1), (.int x2), (.int x3), (.int x4), (.int x5)] (.int 0)) :
    Con l Z (⟨"java/lang/StringUTF16", "coderFromArrayLen", "([BI)B"⟩ : MethodName) jdk_52_method_15_code 2 (some .byte) ws ({ frames := 0, cells := 0, slots := 0, locals := 0 } : Room) #[(.ref a1), (.int 3)] h0 (fun v h L => v = some (.int 1) ∧ Fr n0 L ∧ h = h0) := by
  refine own_body (plainFor_of_name pn_java_lang_StringUTF16) ?_
  intro p e s m below meth c s₁ hx hby hml hZ hown hnm hlk hret X0 e0
  have N0 := Fr.nil n0
  refine Go.st (T' := s₁) (f' := (mkF m 0 #[rv a1, iv 3] [])) (fun _ k => castTop (by first | (simp [entryFrame, mkF, argsToLocals, Value.category]; done) | rfl) k) ?_
  have lt_a1 := V_a1.lt
  refine Go.st (f' := (mkF m 1 #[rv a1, iv 3] [(.int 3)])) (fun _ k => XS.iloadN X0.here hx rfl (hb hby d9_0) rfl k) ?_
  refine Go.st (f' := (mkF m 2 #[rv a1, iv 3] [(.ref a1), (.int 3)])) (fun _ k => XS.aloadN X0.here hx rfl (hb hby d9_1) rfl rfl k) ?_
  obtain ⟨cl1, Ar1, -, S1, Nx1, -, -⟩ := id V_a1
  refine Go.st (T' := s₁) (f' := (mkF m 3 #[rv a1, iv 3] [(.int 6), (.int 3)])) (fun _ k => X0.arraylength hx (by rw [e0]; exact Ar1.1) (State.isArrayOf_alike hZ.alike Ar1.2.1) (g := (mkF m 2 #[rv a1, iv 3] [(.ref a1), (.int 3)])) rfl rfl (hb hby d9_2) _ (by rw [len_of S1 Nx1]; exact k)) ?_
  refine Go.st (f' := (mkF m 4 #[rv a1, iv 3] [(.int (-3))])) (fun _ k => XS.isub X0.here hx rfl (hb hby d9_3) rfl k) ?_
  refine Go.st (f' := (mkF m 6 #[rv a1, iv 3] [(.int 31), (.int (-3))])) (fun _ k => XS.bipush X0.here hx rfl (hb hby d9_4) k) ?_
  refine Go.st (f' := (mkF m 7 #[rv a1, iv 3] [(.int 1)])) (fun _ k => XS.iushr X0.here hx rfl (hb hby d9_6) rfl k) ?_
  refine Go.st (f' := (mkF m 8 #[rv a1, iv 3] [(.int 1)])) (fun _ k => XS.i2b X0.here hx rfl (hb hby d9_7) rfl k) ?_
  refine Go.retB X0 hlk hx (t := .byte) hret (by simp) (hb hby d9_8) e0 ?_ (by decide) (by decide)
  exact ⟨rfl, N0, rfl⟩
set_option maxRecDepth 65536 in
set_option maxHeartbeats 40000000 in
theorem u5_3_0 (l : Launch) (Z : State) (a0 : Array Value) (hw : ∀ d ∈ tables_1, d.before a0 Z = true) (ws : List Jvm.Cond) (a2 : Addr) (k2 : ClassId) (a1 : Addr) (k1 : ClassId) (c0 : Int32) (c1 : Int32) (c2 : Int32) (h0 : Heap) (n0 : Nat) (O0 : Old Z n0 h0) (hc_c0 : (255 : Int32) < c0) (hk_c0 : 0 ≤ c0.toInt ∧ c0.toInt < 65536) (ne12 : a1 ≠ a2) (g_a2 : n0 ≤ a2) (V_a1 : Arv Z h0 a1 k1 .char (3 : Int32) [(.int c0), (.int c1), (.int c2)] (.int 0)) (V_a2 : Arv Z h0 a2 k2 .byte (3 : Int32) [(.int 0), (.int 0), (.int 0)] (.int 0)) :
    Con l Z (⟨"java/lang/StringUTF16", "compress", "([CI[BII)I"⟩ : MethodName) jdk_52_method_21_code 7 (some .int) ws ({ frames := 0, cells := 0, slots := 0, locals := 0 } : Room) #[(.ref a1), (.int 0), (.ref a2), (.int 0), (.int 3)] h0 (fun v h L => v = some (.int 0) ∧ Fr n0 L ∧ Keep h0 h [a2] ∧ Arv Z h a2 k2 .byte (3 : Int32) [(.int 0), (.int 0), (.int 0)] (.int 0)) := by
  refine own_body (plainFor_of_name pn_java_lang_StringUTF16) ?_
  intro p e s m below meth c s₁ hx hby hml hZ hown hnm hlk hret X0 e0
  have N0 := Fr.nil n0
  have K0 : Keep h0 h0 [a2] := Keep.refl _ _
  refine Go.st (T' := s₁) (f' := (mkF m 0 #[rv a1, iv 0, rv a2, iv 0, iv 3, .unset, .unset] [])) (fun _ k => castTop (by first | (simp [entryFrame, mkF, argsToLocals, Value.category]; done) | rfl) k) ?_
  have lt_a1 := V_a1.lt
  have lt_a2 := V_a2.lt
  refine Go.st (f' := (mkF m 1 #[rv a1, iv 0, rv a2, iv 0, iv 3, .unset, .unset] [(.int 0)])) (fun _ k => XS.iconst X0.here hx rfl (hb hby d8_0) k) ?_
  refine Go.st (f' := (mkF m 3 #[rv a1, iv 0, rv a2, iv 0, iv 3, iv 0, .unset] [])) (fun _ k => XS.istore X0.here hx rfl (hb hby d8_1) rfl (l' := #[rv a1, iv 0, rv a2, iv 0, iv 3, iv 0, .unset]) rfl k) ?_
  refine Go.st (f' := (mkF m 5 #[rv a1, iv 0, rv a2, iv 0, iv 3, iv 0, .unset] [(.int 0)])) (fun _ k => XS.iload X0.here hx rfl (hb hby d8_3) rfl k) ?_
  refine Go.st (f' := (mkF m 7 #[rv a1, iv 0, rv a2, iv 0, iv 3, iv 0, .unset] [(.int 3), (.int 0)])) (fun _ k => XS.iload X0.here hx rfl (hb hby d8_5) rfl k) ?_
  refine Go.st (f' := (mkF m 10 #[rv a1, iv 0, rv a2, iv 0, iv 3, iv 0, .unset] [])) (fun _ k => XS.icmpNo X0.here hx rfl (hb hby d8_7) rfl (by decide) k) ?_
  refine Go.st (f' := (mkF m 11 #[rv a1, iv 0, rv a2, iv 0, iv 3, iv 0, .unset] [(.ref a1)])) (fun _ k => XS.aloadN X0.here hx rfl (hb hby d8_10) rfl rfl k) ?_
  refine Go.st (f' := (mkF m 12 #[rv a1, iv 0, rv a2, iv 0, iv 3, iv 0, .unset] [(.int 0), (.ref a1)])) (fun _ k => XS.iloadN X0.here hx rfl (hb hby d8_11) rfl k) ?_
  obtain ⟨cl1, Ar1, -, S1, -, H1, -⟩ := id V_a1
  have hin1 : ¬ ((0 : Int32) < 0 ∨ cl1.slots.size ≤ ((0 : Int32)).toNatClampNeg) := inb_of S1 ⟨by decide, by decide⟩
  have hat1 : cl1.slots[((0 : Int32)).toNatClampNeg]? = some (.int c0) := H1.at hin1 rfl
  refine Go.st (f' := (mkF m 13 #[rv a1, iv 0, rv a2, iv 0, iv 3, iv 0, .unset] [(.int c0)])) (fun _ k => X0.caload hx (j := (0 : Int32)) (v := (.int c0)) (by rw [e0]; exact Ar1.1) (State.isArrayOf_alike hZ.alike Ar1.2.1) Ar1.2.2 hin1 hat1 (g := (mkF m 12 #[rv a1, iv 0, rv a2, iv 0, iv 3, iv 0, .unset] [(.int 0), (.ref a1)])) rfl rfl (hb hby d8_12) _ k) ?_
  refine Go.st (f' := (mkF m 15 #[rv a1, iv 0, rv a2, iv 0, iv 3, iv 0, iv c0] [])) (fun _ k => XS.istore X0.here hx rfl (hb hby d8_13) rfl (l' := #[rv a1, iv 0, rv a2, iv 0, iv 3, iv 0, iv c0]) rfl k) ?_
  refine Go.st (f' := (mkF m 17 #[rv a1, iv 0, rv a2, iv 0, iv 3, iv 0, iv c0] [(.int c0)])) (fun _ k => XS.iload X0.here hx rfl (hb hby d8_15) rfl k) ?_
  refine Go.st (f' := (mkF m 20 #[rv a1, iv 0, rv a2, iv 0, iv 3, iv 0, iv c0] [(.int 255), (.int c0)])) (fun _ k => XS.sipush X0.here hx rfl (hb hby d8_17) k) ?_
  refine Go.st (f' := (mkF m 23 #[rv a1, iv 0, rv a2, iv 0, iv 3, iv 0, iv c0] [])) (fun _ k => XS.icmpNo X0.here hx rfl (hb hby d8_20) rfl (tlt hc_c0).2.2.2 k) ?_
  refine Go.st (f' := (mkF m 25 #[rv a1, iv 0, rv a2, iv 0, iv 3, iv 0, iv c0] [(.int 0)])) (fun _ k => XS.iload X0.here hx rfl (hb hby d8_23) rfl k) ?_
  refine Go.retV X0 hlk hx (t := .int) hret rfl (Or.inl ⟨rfl, Or.inl rfl, _, rfl⟩) (hb hby d8_25) e0 ?_ (by decide) (by decide)
  exact ⟨rfl, N0, K0, V_a2⟩
set_option maxRecDepth 65536 in
set_option maxHeartbeats 40000000 in
theorem u5_3_1 (l : Launch) (Z : State) (a0 : Array Value) (hw : ∀ d ∈ tables_1, d.before a0 Z = true) (ws : List Jvm.Cond) (a2 : Addr) (k2 : ClassId) (a1 : Addr) (k1 : ClassId) (c0 : Int32) (c1 : Int32) (c2 : Int32) (h0 : Heap) (n0 : Nat) (O0 : Old Z n0 h0) (hc_c0 : ¬ (255 : Int32) < c0) (hc_c1 : (255 : Int32) < c1) (hk_c1 : 0 ≤ c1.toInt ∧ c1.toInt < 65536) (ne12 : a1 ≠ a2) (g_a2 : n0 ≤ a2) (V_a1 : Arv Z h0 a1 k1 .char (3 : Int32) [(.int c0), (.int c1), (.int c2)] (.int 0)) (V_a2 : Arv Z h0 a2 k2 .byte (3 : Int32) [(.int 0), (.int 0), (.int 0)] (.int 0)) :
    Con l Z (⟨"java/lang/StringUTF16", "compress", "([CI[BII)I"⟩ : MethodName) jdk_52_method_21_code 7 (some .int) ws ({ frames := 0, cells := 0, slots := 0, locals := 0 } : Room) #[(.ref a1), (.int 0), (.ref a2), (.int 0), (.int 3)] h0 (fun v h L => v = some (.int 1) ∧ Fr n0 L ∧ Keep h0 h [a2] ∧ Arv Z h a2 k2 .byte (3 : Int32) [(.int (nar .byte (c0.toInt8.toInt32))), (.int 0), (.int 0)] (.int 0)) := by
  refine own_body (plainFor_of_name pn_java_lang_StringUTF16) ?_
  intro p e s m below meth c s₁ hx hby hml hZ hown hnm hlk hret X0 e0
  have N0 := Fr.nil n0
  have K0 : Keep h0 h0 [a2] := Keep.refl _ _
  refine Go.st (T' := s₁) (f' := (mkF m 0 #[rv a1, iv 0, rv a2, iv 0, iv 3, .unset, .unset] [])) (fun _ k => castTop (by first | (simp [entryFrame, mkF, argsToLocals, Value.category]; done) | rfl) k) ?_
  have lt_a1 := V_a1.lt
  have lt_a2 := V_a2.lt
  refine Go.st (f' := (mkF m 1 #[rv a1, iv 0, rv a2, iv 0, iv 3, .unset, .unset] [(.int 0)])) (fun _ k => XS.iconst X0.here hx rfl (hb hby d8_0) k) ?_
  refine Go.st (f' := (mkF m 3 #[rv a1, iv 0, rv a2, iv 0, iv 3, iv 0, .unset] [])) (fun _ k => XS.istore X0.here hx rfl (hb hby d8_1) rfl (l' := #[rv a1, iv 0, rv a2, iv 0, iv 3, iv 0, .unset]) rfl k) ?_
  refine Go.st (f' := (mkF m 5 #[rv a1, iv 0, rv a2, iv 0, iv 3, iv 0, .unset] [(.int 0)])) (fun _ k => XS.iload X0.here hx rfl (hb hby d8_3) rfl k) ?_
  refine Go.st (f' := (mkF m 7 #[rv a1, iv 0, rv a2, iv 0, iv 3, iv 0, .unset] [(.int 3), (.int 0)])) (fun _ k => XS.iload X0.here hx rfl (hb hby d8_5) rfl k) ?_
  refine Go.st (f' := (mkF m 10 #[rv a1, iv 0, rv a2, iv 0, iv 3, iv 0, .unset] [])) (fun _ k => XS.icmpNo X0.here hx rfl (hb hby d8_7) rfl (by decide) k) ?_
  refine Go.st (f' := (mkF m 11 #[rv a1, iv 0, rv a2, iv 0, iv 3, iv 0, .unset] [(.ref a1)])) (fun _ k => XS.aloadN X0.here hx rfl (hb hby d8_10) rfl rfl k) ?_
  refine Go.st (f' := (mkF m 12 #[rv a1, iv 0, rv a2, iv 0, iv 3, iv 0, .unset] [(.int 0), (.ref a1)])) (fun _ k => XS.iloadN X0.here hx rfl (hb hby d8_11) rfl k) ?_
  obtain ⟨cl1, Ar1, -, S1, -, H1, -⟩ := id V_a1
  have hin1 : ¬ ((0 : Int32) < 0 ∨ cl1.slots.size ≤ ((0 : Int32)).toNatClampNeg) := inb_of S1 ⟨by decide, by decide⟩
  have hat1 : cl1.slots[((0 : Int32)).toNatClampNeg]? = some (.int c0) := H1.at hin1 rfl
  refine Go.st (f' := (mkF m 13 #[rv a1, iv 0, rv a2, iv 0, iv 3, iv 0, .unset] [(.int c0)])) (fun _ k => X0.caload hx (j := (0 : Int32)) (v := (.int c0)) (by rw [e0]; exact Ar1.1) (State.isArrayOf_alike hZ.alike Ar1.2.1) Ar1.2.2 hin1 hat1 (g := (mkF m 12 #[rv a1, iv 0, rv a2, iv 0, iv 3, iv 0, .unset] [(.int 0), (.ref a1)])) rfl rfl (hb hby d8_12) _ k) ?_
  refine Go.st (f' := (mkF m 15 #[rv a1, iv 0, rv a2, iv 0, iv 3, iv 0, iv c0] [])) (fun _ k => XS.istore X0.here hx rfl (hb hby d8_13) rfl (l' := #[rv a1, iv 0, rv a2, iv 0, iv 3, iv 0, iv c0]) rfl k) ?_
  refine Go.st (f' := (mkF m 17 #[rv a1, iv 0, rv a2, iv 0, iv 3, iv 0, iv c0] [(.int c0)])) (fun _ k => XS.iload X0.here hx rfl (hb hby d8_15) rfl k) ?_
  refine Go.st (f' := (mkF m 20 #[rv a1, iv 0, rv a2, iv 0, iv 3, iv 0, iv c0] [(.int 255), (.int c0)])) (fun _ k => XS.sipush X0.here hx rfl (hb hby d8_17) k) ?_
  refine Go.st (f' := (mkF m 26 #[rv a1, iv 0, rv a2, iv 0, iv 3, iv 0, iv c0] [])) (fun _ k => XS.icmpYes X0.here hx rfl (pc0 := 20) (pc' := 26) rfl (hb hby d8_20) rfl (flt hc_c0).2.2.2 (by decide) (by decide) k) ?_
  refine Go.st (f' := (mkF m 27 #[rv a1, iv 0, rv a2, iv 0, iv 3, iv 0, iv c0] [(.ref a2)])) (fun _ k => XS.aloadN X0.here hx rfl (hb hby d8_26) rfl rfl k) ?_
  refine Go.st (f' := (mkF m 28 #[rv a1, iv 0, rv a2, iv 0, iv 3, iv 0, iv c0] [(.int 0), (.ref a2)])) (fun _ k => XS.iloadN X0.here hx rfl (hb hby d8_27) rfl k) ?_
  refine Go.st (f' := (mkF m 30 #[rv a1, iv 0, rv a2, iv 0, iv 3, iv 0, iv c0] [(.int c0), (.int 0), (.ref a2)])) (fun _ k => XS.iload X0.here hx rfl (hb hby d8_28) rfl k) ?_
  refine Go.st (f' := (mkF m 31 #[rv a1, iv 0, rv a2, iv 0, iv 3, iv 0, iv c0] [(.int (c0.toInt8.toInt32)), (.int 0), (.ref a2)])) (fun _ k => XS.i2b X0.here hx rfl (hb hby d8_30) rfl k) ?_
  obtain ⟨cl2, Ar2, q2, S2, Nx2, H2, G2⟩ := id V_a2
  have hin2 : ¬ ((0 : Int32) < 0 ∨ cl2.slots.size ≤ ((0 : Int32)).toNatClampNeg) := inb_of S2 ⟨by decide, by decide⟩
  obtain ⟨T3, h3, X3, e3, W3, st3⟩ := stB X0 hx hZ e0 Ar2 (j := (0 : Int32)) hin2 (g := (mkF m 31 #[rv a1, iv 0, rv a2, iv 0, iv 3, iv 0, iv c0] [(.int (c0.toInt8.toInt32)), (.int 0), (.ref a2)])) rfl rfl (hb hby d8_31)
  have V_a2_3 : Arv Z h3 a2 k2 .byte (3 : Int32) [(.int (nar .byte (c0.toInt8.toInt32))), (.int (0 : Int32)), (.int (0 : Int32))] (.int (0 : Int32)) := Arv.set Ar2 q2 S2 Nx2 H2 G2 (fits_nar_byte _) W3 0 rfl (Nat.le_of_ble_eq_true rfl)
  have N3 := Fr.snoc X3 N0 g_a2
  have O3 : Old Z n0 h3 := O0.wr W3 g_a2
  have K3 : Keep h0 h3 [a2] := K0.wr W3 (Or.inl (List.mem_of_getElem? (i := 0) rfl))
  refine Go.st (f' := (mkF m 32 #[rv a1, iv 0, rv a2, iv 0, iv 3, iv 0, iv c0] [])) (fun _ k => st3 _ k) ?_
  refine Go.st (f' := (mkF m 35 #[rv a1, iv 1, rv a2, iv 0, iv 3, iv 0, iv c0] [])) (fun _ k => XS.iinc X3.here hx rfl (hb hby d8_32) rfl (l' := #[rv a1, iv 1, rv a2, iv 0, iv 3, iv 0, iv c0]) rfl k) ?_
  refine Go.st (f' := (mkF m 38 #[rv a1, iv 1, rv a2, iv 1, iv 3, iv 0, iv c0] [])) (fun _ k => XS.iinc X3.here hx rfl (hb hby d8_35) rfl (l' := #[rv a1, iv 1, rv a2, iv 1, iv 3, iv 0, iv c0]) rfl k) ?_
  refine Go.st (f' := (mkF m 41 #[rv a1, iv 1, rv a2, iv 1, iv 3, iv 1, iv c0] [])) (fun _ k => XS.iinc X3.here hx rfl (hb hby d8_38) rfl (l' := #[rv a1, iv 1, rv a2, iv 1, iv 3, iv 1, iv c0]) rfl k) ?_
  refine Go.st (f' := (mkF m 3 #[rv a1, iv 1, rv a2, iv 1, iv 3, iv 1, iv c0] [])) (fun _ k => XS.goto X3.here hx rfl (pc0 := 41) (pc' := 3) rfl (hb hby d8_41) (by decide) (by decide) k) ?_
  refine Go.st (f' := (mkF m 5 #[rv a1, iv 1, rv a2, iv 1, iv 3, iv 1, iv c0] [(.int 1)])) (fun _ k => XS.iload X3.here hx rfl (hb hby d8_3) rfl k) ?_
  refine Go.st (f' := (mkF m 7 #[rv a1, iv 1, rv a2, iv 1, iv 3, iv 1, iv c0] [(.int 3), (.int 1)])) (fun _ k => XS.iload X3.here hx rfl (hb hby d8_5) rfl k) ?_
  refine Go.st (f' := (mkF m 10 #[rv a1, iv 1, rv a2, iv 1, iv 3, iv 1, iv c0] [])) (fun _ k => XS.icmpNo X3.here hx rfl (hb hby d8_7) rfl (by decide) k) ?_
  refine Go.st (f' := (mkF m 11 #[rv a1, iv 1, rv a2, iv 1, iv 3, iv 1, iv c0] [(.ref a1)])) (fun _ k => XS.aloadN X3.here hx rfl (hb hby d8_10) rfl rfl k) ?_
  refine Go.st (f' := (mkF m 12 #[rv a1, iv 1, rv a2, iv 1, iv 3, iv 1, iv c0] [(.int 1), (.ref a1)])) (fun _ k => XS.iloadN X3.here hx rfl (hb hby d8_11) rfl k) ?_
  have ft5 := (V_a1.other W3 ne12)
  obtain ⟨cl4, Ar4, -, S4, -, H4, -⟩ := id ft5
  have hin4 : ¬ ((1 : Int32) < 0 ∨ cl4.slots.size ≤ ((1 : Int32)).toNatClampNeg) := inb_of S4 ⟨by decide, by decide⟩
  have hat4 : cl4.slots[((1 : Int32)).toNatClampNeg]? = some (.int c1) := H4.at hin4 rfl
  refine Go.st (f' := (mkF m 13 #[rv a1, iv 1, rv a2, iv 1, iv 3, iv 1, iv c0] [(.int c1)])) (fun _ k => X3.caload hx (j := (1 : Int32)) (v := (.int c1)) (by rw [e3]; exact Ar4.1) (State.isArrayOf_alike hZ.alike Ar4.2.1) Ar4.2.2 hin4 hat4 (g := (mkF m 12 #[rv a1, iv 1, rv a2, iv 1, iv 3, iv 1, iv c0] [(.int 1), (.ref a1)])) rfl rfl (hb hby d8_12) _ k) ?_
  refine Go.st (f' := (mkF m 15 #[rv a1, iv 1, rv a2, iv 1, iv 3, iv 1, iv c1] [])) (fun _ k => XS.istore X3.here hx rfl (hb hby d8_13) rfl (l' := #[rv a1, iv 1, rv a2, iv 1, iv 3, iv 1, iv c1]) rfl k) ?_
  refine Go.st (f' := (mkF m 17 #[rv a1, iv 1, rv a2, iv 1, iv 3, iv 1, iv c1] [(.int c1)])) (fun _ k => XS.iload X3.here hx rfl (hb hby d8_15) rfl k) ?_
  refine Go.st (f' := (mkF m 20 #[rv a1, iv 1, rv a2, iv 1, iv 3, iv 1, iv c1] [(.int 255), (.int c1)])) (fun _ k => XS.sipush X3.here hx rfl (hb hby d8_17) k) ?_
  refine Go.st (f' := (mkF m 23 #[rv a1, iv 1, rv a2, iv 1, iv 3, iv 1, iv c1] [])) (fun _ k => XS.icmpNo X3.here hx rfl (hb hby d8_20) rfl (tlt hc_c1).2.2.2 k) ?_
  refine Go.st (f' := (mkF m 25 #[rv a1, iv 1, rv a2, iv 1, iv 3, iv 1, iv c1] [(.int 1)])) (fun _ k => XS.iload X3.here hx rfl (hb hby d8_23) rfl k) ?_
  refine Go.retV X3 hlk hx (t := .int) hret rfl (Or.inl ⟨rfl, Or.inl rfl, _, rfl⟩) (hb hby d8_25) e3 ?_ (by decide) (by decide)
  exact ⟨rfl, N3, K3, V_a2_3⟩
set_option maxRecDepth 65536 in
set_option maxHeartbeats 40000000 in
theorem u5_3_2 (l : Launch) (Z : State) (a0 : Array Value) (hw : ∀ d ∈ tables_1, d.before a0 Z = true) (ws : List Jvm.Cond) (a2 : Addr) (k2 : ClassId) (a1 : Addr) (k1 : ClassId) (c0 : Int32) (c1 : Int32) (c2 : Int32) (h0 : Heap) (n0 : Nat) (O0 : Old Z n0 h0) (hc_c0 : ¬ (255 : Int32) < c0) (hc_c1 : ¬ (255 : Int32) < c1) (hc_c2 : (255 : Int32) < c2) (hk_c2 : 0 ≤ c2.toInt ∧ c2.toInt < 65536) (ne12 : a1 ≠ a2) (g_a2 : n0 ≤ a2) (V_a1 : Arv Z h0 a1 k1 .char (3 : Int32) [(.int c0), (.int c1), (.int c2)] (.int 0)) (V_a2 : Arv Z h0 a2 k2 .byte (3 : Int32) [(.int 0), (.int 0), (.int 0)] (.int 0)) :
    Con l Z (⟨"java/lang/StringUTF16", "compress", "([CI[BII)I"⟩ : MethodName) jdk_52_method_21_code 7 (some .int) ws ({ frames := 0, cells := 0, slots := 0, locals := 0 } : Room) #[(.ref a1), (.int 0), (.ref a2), (.int 0), (.int 3)] h0 (fun v h L => v = some (.int 2) ∧ Fr n0 L ∧ Keep h0 h [a2] ∧ Arv Z h a2 k2 .byte (3 : Int32) [(.int (nar .byte (c0.toInt8.toInt32))), (.int (nar .byte (c1.toInt8.toInt32))), (.int 0)] (.int 0)) := by
  refine own_body (plainFor_of_name pn_java_lang_StringUTF16) ?_
  intro p e s m below meth c s₁ hx hby hml hZ hown hnm hlk hret X0 e0
  have N0 := Fr.nil n0
  have K0 : Keep h0 h0 [a2] := Keep.refl _ _
  refine Go.st (T' := s₁) (f' := (mkF m 0 #[rv a1, iv 0, rv a2, iv 0, iv 3, .unset, .unset] [])) (fun _ k => castTop (by first | (simp [entryFrame, mkF, argsToLocals, Value.category]; done) | rfl) k) ?_
  have lt_a1 := V_a1.lt
  have lt_a2 := V_a2.lt
  refine Go.st (f' := (mkF m 1 #[rv a1, iv 0, rv a2, iv 0, iv 3, .unset, .unset] [(.int 0)])) (fun _ k => XS.iconst X0.here hx rfl (hb hby d8_0) k) ?_
  refine Go.st (f' := (mkF m 3 #[rv a1, iv 0, rv a2, iv 0, iv 3, iv 0, .unset] [])) (fun _ k => XS.istore X0.here hx rfl (hb hby d8_1) rfl (l' := #[rv a1, iv 0, rv a2, iv 0, iv 3, iv 0, .unset]) rfl k) ?_
  refine Go.st (f' := (mkF m 5 #[rv a1, iv 0, rv a2, iv 0, iv 3, iv 0, .unset] [(.int 0)])) (fun _ k => XS.iload X0.here hx rfl (hb hby d8_3) rfl k) ?_
  refine Go.st (f' := (mkF m 7 #[rv a1, iv 0, rv a2, iv 0, iv 3, iv 0, .unset] [(.int 3), (.int 0)])) (fun _ k => XS.iload X0.here hx rfl (hb hby d8_5) rfl k) ?_
  refine Go.st (f' := (mkF m 10 #[rv a1, iv 0, rv a2, iv 0, iv 3, iv 0, .unset] [])) (fun _ k => XS.icmpNo X0.here hx rfl (hb hby d8_7) rfl (by decide) k) ?_
  refine Go.st (f' := (mkF m 11 #[rv a1, iv 0, rv a2, iv 0, iv 3, iv 0, .unset] [(.ref a1)])) (fun _ k => XS.aloadN X0.here hx rfl (hb hby d8_10) rfl rfl k) ?_
  refine Go.st (f' := (mkF m 12 #[rv a1, iv 0, rv a2, iv 0, iv 3, iv 0, .unset] [(.int 0), (.ref a1)])) (fun _ k => XS.iloadN X0.here hx rfl (hb hby d8_11) rfl k) ?_
  obtain ⟨cl1, Ar1, -, S1, -, H1, -⟩ := id V_a1
  have hin1 : ¬ ((0 : Int32) < 0 ∨ cl1.slots.size ≤ ((0 : Int32)).toNatClampNeg) := inb_of S1 ⟨by decide, by decide⟩
  have hat1 : cl1.slots[((0 : Int32)).toNatClampNeg]? = some (.int c0) := H1.at hin1 rfl
  refine Go.st (f' := (mkF m 13 #[rv a1, iv 0, rv a2, iv 0, iv 3, iv 0, .unset] [(.int c0)])) (fun _ k => X0.caload hx (j := (0 : Int32)) (v := (.int c0)) (by rw [e0]; exact Ar1.1) (State.isArrayOf_alike hZ.alike Ar1.2.1) Ar1.2.2 hin1 hat1 (g := (mkF m 12 #[rv a1, iv 0, rv a2, iv 0, iv 3, iv 0, .unset] [(.int 0), (.ref a1)])) rfl rfl (hb hby d8_12) _ k) ?_
  refine Go.st (f' := (mkF m 15 #[rv a1, iv 0, rv a2, iv 0, iv 3, iv 0, iv c0] [])) (fun _ k => XS.istore X0.here hx rfl (hb hby d8_13) rfl (l' := #[rv a1, iv 0, rv a2, iv 0, iv 3, iv 0, iv c0]) rfl k) ?_
  refine Go.st (f' := (mkF m 17 #[rv a1, iv 0, rv a2, iv 0, iv 3, iv 0, iv c0] [(.int c0)])) (fun _ k => XS.iload X0.here hx rfl (hb hby d8_15) rfl k) ?_
  refine Go.st (f' := (mkF m 20 #[rv a1, iv 0, rv a2, iv 0, iv 3, iv 0, iv c0] [(.int 255), (.int c0)])) (fun _ k => XS.sipush X0.here hx rfl (hb hby d8_17) k) ?_
  refine Go.st (f' := (mkF m 26 #[rv a1, iv 0, rv a2, iv 0, iv 3, iv 0, iv c0] [])) (fun _ k => XS.icmpYes X0.here hx rfl (pc0 := 20) (pc' := 26) rfl (hb hby d8_20) rfl (flt hc_c0).2.2.2 (by decide) (by decide) k) ?_
  refine Go.st (f' := (mkF m 27 #[rv a1, iv 0, rv a2, iv 0, iv 3, iv 0, iv c0] [(.ref a2)])) (fun _ k => XS.aloadN X0.here hx rfl (hb hby d8_26) rfl rfl k) ?_
  refine Go.st (f' := (mkF m 28 #[rv a1, iv 0, rv a2, iv 0, iv 3, iv 0, iv c0] [(.int 0), (.ref a2)])) (fun _ k => XS.iloadN X0.here hx rfl (hb hby d8_27) rfl k) ?_
  refine Go.st (f' := (mkF m 30 #[rv a1, iv 0, rv a2, iv 0, iv 3, iv 0, iv c0] [(.int c0), (.int 0), (.ref a2)])) (fun _ k => XS.iload X0.here hx rfl (hb hby d8_28) rfl k) ?_
  refine Go.st (f' := (mkF m 31 #[rv a1, iv 0, rv a2, iv 0, iv 3, iv 0, iv c0] [(.int (c0.toInt8.toInt32)), (.int 0), (.ref a2)])) (fun _ k => XS.i2b X0.here hx rfl (hb hby d8_30) rfl k) ?_
  obtain ⟨cl2, Ar2, q2, S2, Nx2, H2, G2⟩ := id V_a2
  have hin2 : ¬ ((0 : Int32) < 0 ∨ cl2.slots.size ≤ ((0 : Int32)).toNatClampNeg) := inb_of S2 ⟨by decide, by decide⟩
  obtain ⟨T3, h3, X3, e3, W3, st3⟩ := stB X0 hx hZ e0 Ar2 (j := (0 : Int32)) hin2 (g := (mkF m 31 #[rv a1, iv 0, rv a2, iv 0, iv 3, iv 0, iv c0] [(.int (c0.toInt8.toInt32)), (.int 0), (.ref a2)])) rfl rfl (hb hby d8_31)
  have V_a2_3 : Arv Z h3 a2 k2 .byte (3 : Int32) [(.int (nar .byte (c0.toInt8.toInt32))), (.int (0 : Int32)), (.int (0 : Int32))] (.int (0 : Int32)) := Arv.set Ar2 q2 S2 Nx2 H2 G2 (fits_nar_byte _) W3 0 rfl (Nat.le_of_ble_eq_true rfl)
  have N3 := Fr.snoc X3 N0 g_a2
  have O3 : Old Z n0 h3 := O0.wr W3 g_a2
  have K3 : Keep h0 h3 [a2] := K0.wr W3 (Or.inl (List.mem_of_getElem? (i := 0) rfl))
  refine Go.st (f' := (mkF m 32 #[rv a1, iv 0, rv a2, iv 0, iv 3, iv 0, iv c0] [])) (fun _ k => st3 _ k) ?_
  refine Go.st (f' := (mkF m 35 #[rv a1, iv 1, rv a2, iv 0, iv 3, iv 0, iv c0] [])) (fun _ k => XS.iinc X3.here hx rfl (hb hby d8_32) rfl (l' := #[rv a1, iv 1, rv a2, iv 0, iv 3, iv 0, iv c0]) rfl k) ?_
  refine Go.st (f' := (mkF m 38 #[rv a1, iv 1, rv a2, iv 1, iv 3, iv 0, iv c0] [])) (fun _ k => XS.iinc X3.here hx rfl (hb hby d8_35) rfl (l' := #[rv a1, iv 1, rv a2, iv 1, iv 3, iv 0, iv c0]) rfl k) ?_
  refine Go.st (f' := (mkF m 41 #[rv a1, iv 1, rv a2, iv 1, iv 3, iv 1, iv c0] [])) (fun _ k => XS.iinc X3.here hx rfl (hb hby d8_38) rfl (l' := #[rv a1, iv 1, rv a2, iv 1, iv 3, iv 1, iv c0]) rfl k) ?_
  refine Go.st (f' := (mkF m 3 #[rv a1, iv 1, rv a2, iv 1, iv 3, iv 1, iv c0] [])) (fun _ k => XS.goto X3.here hx rfl (pc0 := 41) (pc' := 3) rfl (hb hby d8_41) (by decide) (by decide) k) ?_
  refine Go.st (f' := (mkF m 5 #[rv a1, iv 1, rv a2, iv 1, iv 3, iv 1, iv c0] [(.int 1)])) (fun _ k => XS.iload X3.here hx rfl (hb hby d8_3) rfl k) ?_
  refine Go.st (f' := (mkF m 7 #[rv a1, iv 1, rv a2, iv 1, iv 3, iv 1, iv c0] [(.int 3), (.int 1)])) (fun _ k => XS.iload X3.here hx rfl (hb hby d8_5) rfl k) ?_
  refine Go.st (f' := (mkF m 10 #[rv a1, iv 1, rv a2, iv 1, iv 3, iv 1, iv c0] [])) (fun _ k => XS.icmpNo X3.here hx rfl (hb hby d8_7) rfl (by decide) k) ?_
  refine Go.st (f' := (mkF m 11 #[rv a1, iv 1, rv a2, iv 1, iv 3, iv 1, iv c0] [(.ref a1)])) (fun _ k => XS.aloadN X3.here hx rfl (hb hby d8_10) rfl rfl k) ?_
  refine Go.st (f' := (mkF m 12 #[rv a1, iv 1, rv a2, iv 1, iv 3, iv 1, iv c0] [(.int 1), (.ref a1)])) (fun _ k => XS.iloadN X3.here hx rfl (hb hby d8_11) rfl k) ?_
  have ft5 := (V_a1.other W3 ne12)
  obtain ⟨cl4, Ar4, -, S4, -, H4, -⟩ := id ft5
  have hin4 : ¬ ((1 : Int32) < 0 ∨ cl4.slots.size ≤ ((1 : Int32)).toNatClampNeg) := inb_of S4 ⟨by decide, by decide⟩
  have hat4 : cl4.slots[((1 : Int32)).toNatClampNeg]? = some (.int c1) := H4.at hin4 rfl
  refine Go.st (f' := (mkF m 13 #[rv a1, iv 1, rv a2, iv 1, iv 3, iv 1, iv c0] [(.int c1)])) (fun _ k => X3.caload hx (j := (1 : Int32)) (v := (.int c1)) (by rw [e3]; exact Ar4.1) (State.isArrayOf_alike hZ.alike Ar4.2.1) Ar4.2.2 hin4 hat4 (g := (mkF m 12 #[rv a1, iv 1, rv a2, iv 1, iv 3, iv 1, iv c0] [(.int 1), (.ref a1)])) rfl rfl (hb hby d8_12) _ k) ?_
  refine Go.st (f' := (mkF m 15 #[rv a1, iv 1, rv a2, iv 1, iv 3, iv 1, iv c1] [])) (fun _ k => XS.istore X3.here hx rfl (hb hby d8_13) rfl (l' := #[rv a1, iv 1, rv a2, iv 1, iv 3, iv 1, iv c1]) rfl k) ?_
  refine Go.st (f' := (mkF m 17 #[rv a1, iv 1, rv a2, iv 1, iv 3, iv 1, iv c1] [(.int c1)])) (fun _ k => XS.iload X3.here hx rfl (hb hby d8_15) rfl k) ?_
  refine Go.st (f' := (mkF m 20 #[rv a1, iv 1, rv a2, iv 1, iv 3, iv 1, iv c1] [(.int 255), (.int c1)])) (fun _ k => XS.sipush X3.here hx rfl (hb hby d8_17) k) ?_
  refine Go.st (f' := (mkF m 26 #[rv a1, iv 1, rv a2, iv 1, iv 3, iv 1, iv c1] [])) (fun _ k => XS.icmpYes X3.here hx rfl (pc0 := 20) (pc' := 26) rfl (hb hby d8_20) rfl (flt hc_c1).2.2.2 (by decide) (by decide) k) ?_
  refine Go.st (f' := (mkF m 27 #[rv a1, iv 1, rv a2, iv 1, iv 3, iv 1, iv c1] [(.ref a2)])) (fun _ k => XS.aloadN X3.here hx rfl (hb hby d8_26) rfl rfl k) ?_
  refine Go.st (f' := (mkF m 28 #[rv a1, iv 1, rv a2, iv 1, iv 3, iv 1, iv c1] [(.int 1), (.ref a2)])) (fun _ k => XS.iloadN X3.here hx rfl (hb hby d8_27) rfl k) ?_
  refine Go.st (f' := (mkF m 30 #[rv a1, iv 1, rv a2, iv 1, iv 3, iv 1, iv c1] [(.int c1), (.int 1), (.ref a2)])) (fun _ k => XS.iload X3.here hx rfl (hb hby d8_28) rfl k) ?_
  refine Go.st (f' := (mkF m 31 #[rv a1, iv 1, rv a2, iv 1, iv 3, iv 1, iv c1] [(.int (c1.toInt8.toInt32)), (.int 1), (.ref a2)])) (fun _ k => XS.i2b X3.here hx rfl (hb hby d8_30) rfl k) ?_
  obtain ⟨cl6, Ar6, q6, S6, Nx6, H6, G6⟩ := id V_a2_3
  have hin6 : ¬ ((1 : Int32) < 0 ∨ cl6.slots.size ≤ ((1 : Int32)).toNatClampNeg) := inb_of S6 ⟨by decide, by decide⟩
  obtain ⟨T7, h7, X7, e7, W7, st7⟩ := stB X3 hx hZ e3 Ar6 (j := (1 : Int32)) hin6 (g := (mkF m 31 #[rv a1, iv 1, rv a2, iv 1, iv 3, iv 1, iv c1] [(.int (c1.toInt8.toInt32)), (.int 1), (.ref a2)])) rfl rfl (hb hby d8_31)
  have V_a2_7 : Arv Z h7 a2 k2 .byte (3 : Int32) [(.int (nar .byte (c0.toInt8.toInt32))), (.int (nar .byte (c1.toInt8.toInt32))), (.int (0 : Int32))] (.int (0 : Int32)) := Arv.set Ar6 q6 S6 Nx6 H6 G6 (fits_nar_byte _) W7 1 rfl (Nat.le_of_ble_eq_true rfl)
  have N7 := Fr.snoc X7 N3 g_a2
  have O7 : Old Z n0 h7 := O3.wr W7 g_a2
  have K7 : Keep h0 h7 [a2] := K3.wr W7 (Or.inl (List.mem_of_getElem? (i := 0) rfl))
  refine Go.st (f' := (mkF m 32 #[rv a1, iv 1, rv a2, iv 1, iv 3, iv 1, iv c1] [])) (fun _ k => st7 _ k) ?_
  refine Go.st (f' := (mkF m 35 #[rv a1, iv 2, rv a2, iv 1, iv 3, iv 1, iv c1] [])) (fun _ k => XS.iinc X7.here hx rfl (hb hby d8_32) rfl (l' := #[rv a1, iv 2, rv a2, iv 1, iv 3, iv 1, iv c1]) rfl k) ?_
  refine Go.st (f' := (mkF m 38 #[rv a1, iv 2, rv a2, iv 2, iv 3, iv 1, iv c1] [])) (fun _ k => XS.iinc X7.here hx rfl (hb hby d8_35) rfl (l' := #[rv a1, iv 2, rv a2, iv 2, iv 3, iv 1, iv c1]) rfl k) ?_
  refine Go.st (f' := (mkF m 41 #[rv a1, iv 2, rv a2, iv 2, iv 3, iv 2, iv c1] [])) (fun _ k => XS.iinc X7.here hx rfl (hb hby d8_38) rfl (l' := #[rv a1, iv 2, rv a2, iv 2, iv 3, iv 2, iv c1]) rfl k) ?_
  refine Go.st (f' := (mkF m 3 #[rv a1, iv 2, rv a2, iv 2, iv 3, iv 2, iv c1] [])) (fun _ k => XS.goto X7.here hx rfl (pc0 := 41) (pc' := 3) rfl (hb hby d8_41) (by decide) (by decide) k) ?_
  refine Go.st (f' := (mkF m 5 #[rv a1, iv 2, rv a2, iv 2, iv 3, iv 2, iv c1] [(.int 2)])) (fun _ k => XS.iload X7.here hx rfl (hb hby d8_3) rfl k) ?_
  refine Go.st (f' := (mkF m 7 #[rv a1, iv 2, rv a2, iv 2, iv 3, iv 2, iv c1] [(.int 3), (.int 2)])) (fun _ k => XS.iload X7.here hx rfl (hb hby d8_5) rfl k) ?_
  refine Go.st (f' := (mkF m 10 #[rv a1, iv 2, rv a2, iv 2, iv 3, iv 2, iv c1] [])) (fun _ k => XS.icmpNo X7.here hx rfl (hb hby d8_7) rfl (by decide) k) ?_
  refine Go.st (f' := (mkF m 11 #[rv a1, iv 2, rv a2, iv 2, iv 3, iv 2, iv c1] [(.ref a1)])) (fun _ k => XS.aloadN X7.here hx rfl (hb hby d8_10) rfl rfl k) ?_
  refine Go.st (f' := (mkF m 12 #[rv a1, iv 2, rv a2, iv 2, iv 3, iv 2, iv c1] [(.int 2), (.ref a1)])) (fun _ k => XS.iloadN X7.here hx rfl (hb hby d8_11) rfl k) ?_
  have ft9 := (ft5.other W7 ne12)
  obtain ⟨cl8, Ar8, -, S8, -, H8, -⟩ := id ft9
  have hin8 : ¬ ((2 : Int32) < 0 ∨ cl8.slots.size ≤ ((2 : Int32)).toNatClampNeg) := inb_of S8 ⟨by decide, by decide⟩
  have hat8 : cl8.slots[((2 : Int32)).toNatClampNeg]? = some (.int c2) := H8.at hin8 rfl
  refine Go.st (f' := (mkF m 13 #[rv a1, iv 2, rv a2, iv 2, iv 3, iv 2, iv c1] [(.int c2)])) (fun _ k => X7.caload hx (j := (2 : Int32)) (v := (.int c2)) (by rw [e7]; exact Ar8.1) (State.isArrayOf_alike hZ.alike Ar8.2.1) Ar8.2.2 hin8 hat8 (g := (mkF m 12 #[rv a1, iv 2, rv a2, iv 2, iv 3, iv 2, iv c1] [(.int 2), (.ref a1)])) rfl rfl (hb hby d8_12) _ k) ?_
  refine Go.st (f' := (mkF m 15 #[rv a1, iv 2, rv a2, iv 2, iv 3, iv 2, iv c2] [])) (fun _ k => XS.istore X7.here hx rfl (hb hby d8_13) rfl (l' := #[rv a1, iv 2, rv a2, iv 2, iv 3, iv 2, iv c2]) rfl k) ?_
  refine Go.st (f' := (mkF m 17 #[rv a1, iv 2, rv a2, iv 2, iv 3, iv 2, iv c2] [(.int c2)])) (fun _ k => XS.iload X7.here hx rfl (hb hby d8_15) rfl k) ?_
  refine Go.st (f' := (mkF m 20 #[rv a1, iv 2, rv a2, iv 2, iv 3, iv 2, iv c2] [(.int 255), (.int c2)])) (fun _ k => XS.sipush X7.here hx rfl (hb hby d8_17) k) ?_
  refine Go.st (f' := (mkF m 23 #[rv a1, iv 2, rv a2, iv 2, iv 3, iv 2, iv c2] [])) (fun _ k => XS.icmpNo X7.here hx rfl (hb hby d8_20) rfl (tlt hc_c2).2.2.2 k) ?_
  refine Go.st (f' := (mkF m 25 #[rv a1, iv 2, rv a2, iv 2, iv 3, iv 2, iv c2] [(.int 2)])) (fun _ k => XS.iload X7.here hx rfl (hb hby d8_23) rfl k) ?_
  refine Go.retV X7 hlk hx (t := .int) hret rfl (Or.inl ⟨rfl, Or.inl rfl, _, rfl⟩) (hb hby d8_25) e7 ?_ (by decide) (by decide)
  exact ⟨rfl, N7, K7, V_a2_7⟩
set_option maxRecDepth 65536 in
set_option maxHeartbeats 40000000 in
theorem u5_3_3 (l : Launch) (Z : State) (a0 : Array Value) (hw : ∀ d ∈ tables_1, d.before a0 Z = true) (ws : List Jvm.Cond) (a2 : Addr) (k2 : ClassId) (a1 : Addr) (k1 : ClassId) (c0 : Int32) (c1 : Int32) (c2 : Int32) (h0 : Heap) (n0 : Nat) (O0 : Old Z n0 h0) (hc_c0 : ¬ (255 : Int32) < c0) (hc_c1 : ¬ (255 : Int32) < c1) (hc_c2 : ¬ (255 : Int32) < c2) (ne12 : a1 ≠ a2) (g_a2 : n0 ≤ a2) (V_a1 : Arv Z h0 a1 k1 .char (3 : Int32) [(.int c0), (.int c1), (.int c2)] (.int 0)) (V_a2 : Arv Z h0 a2 k2 .byte (3 : Int32) [(.int 0), (.int 0), (.int 0)] (.int 0)) :
    Con l Z (⟨"java/lang/StringUTF16", "compress", "([CI[BII)I"⟩ : MethodName) jdk_52_method_21_code 7 (some .int) ws ({ frames := 0, cells := 0, slots := 0, locals := 0 } : Room) #[(.ref a1), (.int 0), (.ref a2), (.int 0), (.int 3)] h0 (fun v h L => v = some (.int 3) ∧ Fr n0 L ∧ Keep h0 h [a2] ∧ Arv Z h a2 k2 .byte (3 : Int32) [(.int (nar .byte (c0.toInt8.toInt32))), (.int (nar .byte (c1.toInt8.toInt32))), (.int (nar .byte (c2.toInt8.toInt32)))] (.int 0)) := by
  refine own_body (plainFor_of_name pn_java_lang_StringUTF16) ?_
  intro p e s m below meth c s₁ hx hby hml hZ hown hnm hlk hret X0 e0
  have N0 := Fr.nil n0
  have K0 : Keep h0 h0 [a2] := Keep.refl _ _
  refine Go.st (T' := s₁) (f' := (mkF m 0 #[rv a1, iv 0, rv a2, iv 0, iv 3, .unset, .unset] [])) (fun _ k => castTop (by first | (simp [entryFrame, mkF, argsToLocals, Value.category]; done) | rfl) k) ?_
  have lt_a1 := V_a1.lt
  have lt_a2 := V_a2.lt
  refine Go.st (f' := (mkF m 1 #[rv a1, iv 0, rv a2, iv 0, iv 3, .unset, .unset] [(.int 0)])) (fun _ k => XS.iconst X0.here hx rfl (hb hby d8_0) k) ?_
  refine Go.st (f' := (mkF m 3 #[rv a1, iv 0, rv a2, iv 0, iv 3, iv 0, .unset] [])) (fun _ k => XS.istore X0.here hx rfl (hb hby d8_1) rfl (l' := #[rv a1, iv 0, rv a2, iv 0, iv 3, iv 0, .unset]) rfl k) ?_
  refine Go.st (f' := (mkF m 5 #[rv a1, iv 0, rv a2, iv 0, iv 3, iv 0, .unset] [(.int 0)])) (fun _ k => XS.iload X0.here hx rfl (hb hby d8_3) rfl k) ?_
  refine Go.st (f' := (mkF m 7 #[rv a1, iv 0, rv a2, iv 0, iv 3, iv 0, .unset] [(.int 3), (.int 0)])) (fun _ k => XS.iload X0.here hx rfl (hb hby d8_5) rfl k) ?_
  refine Go.st (f' := (mkF m 10 #[rv a1, iv 0, rv a2, iv 0, iv 3, iv 0, .unset] [])) (fun _ k => XS.icmpNo X0.here hx rfl (hb hby d8_7) rfl (by decide) k) ?_
  refine Go.st (f' := (mkF m 11 #[rv a1, iv 0, rv a2, iv 0, iv 3, iv 0, .unset] [(.ref a1)])) (fun _ k => XS.aloadN X0.here hx rfl (hb hby d8_10) rfl rfl k) ?_
  refine Go.st (f' := (mkF m 12 #[rv a1, iv 0, rv a2, iv 0, iv 3, iv 0, .unset] [(.int 0), (.ref a1)])) (fun _ k => XS.iloadN X0.here hx rfl (hb hby d8_11) rfl k) ?_
  obtain ⟨cl1, Ar1, -, S1, -, H1, -⟩ := id V_a1
  have hin1 : ¬ ((0 : Int32) < 0 ∨ cl1.slots.size ≤ ((0 : Int32)).toNatClampNeg) := inb_of S1 ⟨by decide, by decide⟩
  have hat1 : cl1.slots[((0 : Int32)).toNatClampNeg]? = some (.int c0) := H1.at hin1 rfl
  refine Go.st (f' := (mkF m 13 #[rv a1, iv 0, rv a2, iv 0, iv 3, iv 0, .unset] [(.int c0)])) (fun _ k => X0.caload hx (j := (0 : Int32)) (v := (.int c0)) (by rw [e0]; exact Ar1.1) (State.isArrayOf_alike hZ.alike Ar1.2.1) Ar1.2.2 hin1 hat1 (g := (mkF m 12 #[rv a1, iv 0, rv a2, iv 0, iv 3, iv 0, .unset] [(.int 0), (.ref a1)])) rfl rfl (hb hby d8_12) _ k) ?_
  refine Go.st (f' := (mkF m 15 #[rv a1, iv 0, rv a2, iv 0, iv 3, iv 0, iv c0] [])) (fun _ k => XS.istore X0.here hx rfl (hb hby d8_13) rfl (l' := #[rv a1, iv 0, rv a2, iv 0, iv 3, iv 0, iv c0]) rfl k) ?_
  refine Go.st (f' := (mkF m 17 #[rv a1, iv 0, rv a2, iv 0, iv 3, iv 0, iv c0] [(.int c0)])) (fun _ k => XS.iload X0.here hx rfl (hb hby d8_15) rfl k) ?_
  refine Go.st (f' := (mkF m 20 #[rv a1, iv 0, rv a2, iv 0, iv 3, iv 0, iv c0] [(.int 255), (.int c0)])) (fun _ k => XS.sipush X0.here hx rfl (hb hby d8_17) k) ?_
  refine Go.st (f' := (mkF m 26 #[rv a1, iv 0, rv a2, iv 0, iv 3, iv 0, iv c0] [])) (fun _ k => XS.icmpYes X0.here hx rfl (pc0 := 20) (pc' := 26) rfl (hb hby d8_20) rfl (flt hc_c0).2.2.2 (by decide) (by decide) k) ?_
  refine Go.st (f' := (mkF m 27 #[rv a1, iv 0, rv a2, iv 0, iv 3, iv 0, iv c0] [(.ref a2)])) (fun _ k => XS.aloadN X0.here hx rfl (hb hby d8_26) rfl rfl k) ?_
  refine Go.st (f' := (mkF m 28 #[rv a1, iv 0, rv a2, iv 0, iv 3, iv 0, iv c0] [(.int 0), (.ref a2)])) (fun _ k => XS.iloadN X0.here hx rfl (hb hby d8_27) rfl k) ?_
  refine Go.st (f' := (mkF m 30 #[rv a1, iv 0, rv a2, iv 0, iv 3, iv 0, iv c0] [(.int c0), (.int 0), (.ref a2)])) (fun _ k => XS.iload X0.here hx rfl (hb hby d8_28) rfl k) ?_
  refine Go.st (f' := (mkF m 31 #[rv a1, iv 0, rv a2, iv 0, iv 3, iv 0, iv c0] [(.int (c0.toInt8.toInt32)), (.int 0), (.ref a2)])) (fun _ k => XS.i2b X0.here hx rfl (hb hby d8_30) rfl k) ?_
  obtain ⟨cl2, Ar2, q2, S2, Nx2, H2, G2⟩ := id V_a2
  have hin2 : ¬ ((0 : Int32) < 0 ∨ cl2.slots.size ≤ ((0 : Int32)).toNatClampNeg) := inb_of S2 ⟨by decide, by decide⟩
  obtain ⟨T3, h3, X3, e3, W3, st3⟩ := stB X0 hx hZ e0 Ar2 (j := (0 : Int32)) hin2 (g := (mkF m 31 #[rv a1, iv 0, rv a2, iv 0, iv 3, iv 0, iv c0] [(.int (c0.toInt8.toInt32)), (.int 0), (.ref a2)])) rfl rfl (hb hby d8_31)
  have V_a2_3 : Arv Z h3 a2 k2 .byte (3 : Int32) [(.int (nar .byte (c0.toInt8.toInt32))), (.int (0 : Int32)), (.int (0 : Int32))] (.int (0 : Int32)) := Arv.set Ar2 q2 S2 Nx2 H2 G2 (fits_nar_byte _) W3 0 rfl (Nat.le_of_ble_eq_true rfl)
  have N3 := Fr.snoc X3 N0 g_a2
  have O3 : Old Z n0 h3 := O0.wr W3 g_a2
  have K3 : Keep h0 h3 [a2] := K0.wr W3 (Or.inl (List.mem_of_getElem? (i := 0) rfl))
  refine Go.st (f' := (mkF m 32 #[rv a1, iv 0, rv a2, iv 0, iv 3, iv 0, iv c0] [])) (fun _ k => st3 _ k) ?_
  refine Go.st (f' := (mkF m 35 #[rv a1, iv 1, rv a2, iv 0, iv 3, iv 0, iv c0] [])) (fun _ k => XS.iinc X3.here hx rfl (hb hby d8_32) rfl (l' := #[rv a1, iv 1, rv a2, iv 0, iv 3, iv 0, iv c0]) rfl k) ?_
  refine Go.st (f' := (mkF m 38 #[rv a1, iv 1, rv a2, iv 1, iv 3, iv 0, iv c0] [])) (fun _ k => XS.iinc X3.here hx rfl (hb hby d8_35) rfl (l' := #[rv a1, iv 1, rv a2, iv 1, iv 3, iv 0, iv c0]) rfl k) ?_
  refine Go.st (f' := (mkF m 41 #[rv a1, iv 1, rv a2, iv 1, iv 3, iv 1, iv c0] [])) (fun _ k => XS.iinc X3.here hx rfl (hb hby d8_38) rfl (l' := #[rv a1, iv 1, rv a2, iv 1, iv 3, iv 1, iv c0]) rfl k) ?_
  refine Go.st (f' := (mkF m 3 #[rv a1, iv 1, rv a2, iv 1, iv 3, iv 1, iv c0] [])) (fun _ k => XS.goto X3.here hx rfl (pc0 := 41) (pc' := 3) rfl (hb hby d8_41) (by decide) (by decide) k) ?_
  refine Go.st (f' := (mkF m 5 #[rv a1, iv 1, rv a2, iv 1, iv 3, iv 1, iv c0] [(.int 1)])) (fun _ k => XS.iload X3.here hx rfl (hb hby d8_3) rfl k) ?_
  refine Go.st (f' := (mkF m 7 #[rv a1, iv 1, rv a2, iv 1, iv 3, iv 1, iv c0] [(.int 3), (.int 1)])) (fun _ k => XS.iload X3.here hx rfl (hb hby d8_5) rfl k) ?_
  refine Go.st (f' := (mkF m 10 #[rv a1, iv 1, rv a2, iv 1, iv 3, iv 1, iv c0] [])) (fun _ k => XS.icmpNo X3.here hx rfl (hb hby d8_7) rfl (by decide) k) ?_
  refine Go.st (f' := (mkF m 11 #[rv a1, iv 1, rv a2, iv 1, iv 3, iv 1, iv c0] [(.ref a1)])) (fun _ k => XS.aloadN X3.here hx rfl (hb hby d8_10) rfl rfl k) ?_
  refine Go.st (f' := (mkF m 12 #[rv a1, iv 1, rv a2, iv 1, iv 3, iv 1, iv c0] [(.int 1), (.ref a1)])) (fun _ k => XS.iloadN X3.here hx rfl (hb hby d8_11) rfl k) ?_
  have ft5 := (V_a1.other W3 ne12)
  obtain ⟨cl4, Ar4, -, S4, -, H4, -⟩ := id ft5
  have hin4 : ¬ ((1 : Int32) < 0 ∨ cl4.slots.size ≤ ((1 : Int32)).toNatClampNeg) := inb_of S4 ⟨by decide, by decide⟩
  have hat4 : cl4.slots[((1 : Int32)).toNatClampNeg]? = some (.int c1) := H4.at hin4 rfl
  refine Go.st (f' := (mkF m 13 #[rv a1, iv 1, rv a2, iv 1, iv 3, iv 1, iv c0] [(.int c1)])) (fun _ k => X3.caload hx (j := (1 : Int32)) (v := (.int c1)) (by rw [e3]; exact Ar4.1) (State.isArrayOf_alike hZ.alike Ar4.2.1) Ar4.2.2 hin4 hat4 (g := (mkF m 12 #[rv a1, iv 1, rv a2, iv 1, iv 3, iv 1, iv c0] [(.int 1), (.ref a1)])) rfl rfl (hb hby d8_12) _ k) ?_
  refine Go.st (f' := (mkF m 15 #[rv a1, iv 1, rv a2, iv 1, iv 3, iv 1, iv c1] [])) (fun _ k => XS.istore X3.here hx rfl (hb hby d8_13) rfl (l' := #[rv a1, iv 1, rv a2, iv 1, iv 3, iv 1, iv c1]) rfl k) ?_
  refine Go.st (f' := (mkF m 17 #[rv a1, iv 1, rv a2, iv 1, iv 3, iv 1, iv c1] [(.int c1)])) (fun _ k => XS.iload X3.here hx rfl (hb hby d8_15) rfl k) ?_
  refine Go.st (f' := (mkF m 20 #[rv a1, iv 1, rv a2, iv 1, iv 3, iv 1, iv c1] [(.int 255), (.int c1)])) (fun _ k => XS.sipush X3.here hx rfl (hb hby d8_17) k) ?_
  refine Go.st (f' := (mkF m 26 #[rv a1, iv 1, rv a2, iv 1, iv 3, iv 1, iv c1] [])) (fun _ k => XS.icmpYes X3.here hx rfl (pc0 := 20) (pc' := 26) rfl (hb hby d8_20) rfl (flt hc_c1).2.2.2 (by decide) (by decide) k) ?_
  refine Go.st (f' := (mkF m 27 #[rv a1, iv 1, rv a2, iv 1, iv 3, iv 1, iv c1] [(.ref a2)])) (fun _ k => XS.aloadN X3.here hx rfl (hb hby d8_26) rfl rfl k) ?_
  refine Go.st (f' := (mkF m 28 #[rv a1, iv 1, rv a2, iv 1, iv 3, iv 1, iv c1] [(.int 1), (.ref a2)])) (fun _ k => XS.iloadN X3.here hx rfl (hb hby d8_27) rfl k) ?_
  refine Go.st (f' := (mkF m 30 #[rv a1, iv 1, rv a2, iv 1, iv 3, iv 1, iv c1] [(.int c1), (.int 1), (.ref a2)])) (fun _ k => XS.iload X3.here hx rfl (hb hby d8_28) rfl k) ?_
  refine Go.st (f' := (mkF m 31 #[rv a1, iv 1, rv a2, iv 1, iv 3, iv 1, iv c1] [(.int (c1.toInt8.toInt32)), (.int 1), (.ref a2)])) (fun _ k => XS.i2b X3.here hx rfl (hb hby d8_30) rfl k) ?_
  obtain ⟨cl6, Ar6, q6, S6, Nx6, H6, G6⟩ := id V_a2_3
  have hin6 : ¬ ((1 : Int32) < 0 ∨ cl6.slots.size ≤ ((1 : Int32)).toNatClampNeg) := inb_of S6 ⟨by decide, by decide⟩
  obtain ⟨T7, h7, X7, e7, W7, st7⟩ := stB X3 hx hZ e3 Ar6 (j := (1 : Int32)) hin6 (g := (mkF m 31 #[rv a1, iv 1, rv a2, iv 1, iv 3, iv 1, iv c1] [(.int (c1.toInt8.toInt32)), (.int 1), (.ref a2)])) rfl rfl (hb hby d8_31)
  have V_a2_7 : Arv Z h7 a2 k2 .byte (3 : Int32) [(.int (nar .byte (c0.toInt8.toInt32))), (.int (nar .byte (c1.toInt8.toInt32))), (.int (0 : Int32))] (.int (0 : Int32)) := Arv.set Ar6 q6 S6 Nx6 H6 G6 (fits_nar_byte _) W7 1 rfl (Nat.le_of_ble_eq_true rfl)
  have N7 := Fr.snoc X7 N3 g_a2
  have O7 : Old Z n0 h7 := O3.wr W7 g_a2
  have K7 : Keep h0 h7 [a2] := K3.wr W7 (Or.inl (List.mem_of_getElem? (i := 0) rfl))
  refine Go.st (f' := (mkF m 32 #[rv a1, iv 1, rv a2, iv 1, iv 3, iv 1, iv c1] [])) (fun _ k => st7 _ k) ?_
  refine Go.st (f' := (mkF m 35 #[rv a1, iv 2, rv a2, iv 1, iv 3, iv 1, iv c1] [])) (fun _ k => XS.iinc X7.here hx rfl (hb hby d8_32) rfl (l' := #[rv a1, iv 2, rv a2, iv 1, iv 3, iv 1, iv c1]) rfl k) ?_
  refine Go.st (f' := (mkF m 38 #[rv a1, iv 2, rv a2, iv 2, iv 3, iv 1, iv c1] [])) (fun _ k => XS.iinc X7.here hx rfl (hb hby d8_35) rfl (l' := #[rv a1, iv 2, rv a2, iv 2, iv 3, iv 1, iv c1]) rfl k) ?_
  refine Go.st (f' := (mkF m 41 #[rv a1, iv 2, rv a2, iv 2, iv 3, iv 2, iv c1] [])) (fun _ k => XS.iinc X7.here hx rfl (hb hby d8_38) rfl (l' := #[rv a1, iv 2, rv a2, iv 2, iv 3, iv 2, iv c1]) rfl k) ?_
  refine Go.st (f' := (mkF m 3 #[rv a1, iv 2, rv a2, iv 2, iv 3, iv 2, iv c1] [])) (fun _ k => XS.goto X7.here hx rfl (pc0 := 41) (pc' := 3) rfl (hb hby d8_41) (by decide) (by decide) k) ?_
  refine Go.st (f' := (mkF m 5 #[rv a1, iv 2, rv a2, iv 2, iv 3, iv 2, iv c1] [(.int 2)])) (fun _ k => XS.iload X7.here hx rfl (hb hby d8_3) rfl k) ?_
  refine Go.st (f' := (mkF m 7 #[rv a1, iv 2, rv a2, iv 2, iv 3, iv 2, iv c1] [(.int 3), (.int 2)])) (fun _ k => XS.iload X7.here hx rfl (hb hby d8_5) rfl k) ?_
  refine Go.st (f' := (mkF m 10 #[rv a1, iv 2, rv a2, iv 2, iv 3, iv 2, iv c1] [])) (fun _ k => XS.icmpNo X7.here hx rfl (hb hby d8_7) rfl (by decide) k) ?_
  refine Go.st (f' := (mkF m 11 #[rv a1, iv 2, rv a2, iv 2, iv 3, iv 2, iv c1] [(.ref a1)])) (fun _ k => XS.aloadN X7.here hx rfl (hb hby d8_10) rfl rfl k) ?_
  refine Go.st (f' := (mkF m 12 #[rv a1, iv 2, rv a2, iv 2, iv 3, iv 2, iv c1] [(.int 2), (.ref a1)])) (fun _ k => XS.iloadN X7.here hx rfl (hb hby d8_11) rfl k) ?_
  have ft9 := (ft5.other W7 ne12)
  obtain ⟨cl8, Ar8, -, S8, -, H8, -⟩ := id ft9
  have hin8 : ¬ ((2 : Int32) < 0 ∨ cl8.slots.size ≤ ((2 : Int32)).toNatClampNeg) := inb_of S8 ⟨by decide, by decide⟩
  have hat8 : cl8.slots[((2 : Int32)).toNatClampNeg]? = some (.int c2) := H8.at hin8 rfl
  refine Go.st (f' := (mkF m 13 #[rv a1, iv 2, rv a2, iv 2, iv 3, iv 2, iv c1] [(.int c2)])) (fun _ k => X7.caload hx (j := (2 : Int32)) (v := (.int c2)) (by rw [e7]; exact Ar8.1) (State.isArrayOf_alike hZ.alike Ar8.2.1) Ar8.2.2 hin8 hat8 (g := (mkF m 12 #[rv a1, iv 2, rv a2, iv 2, iv 3, iv 2, iv c1] [(.int 2), (.ref a1)])) rfl rfl (hb hby d8_12) _ k) ?_
  refine Go.st (f' := (mkF m 15 #[rv a1, iv 2, rv a2, iv 2, iv 3, iv 2, iv c2] [])) (fun _ k => XS.istore X7.here hx rfl (hb hby d8_13) rfl (l' := #[rv a1, iv 2, rv a2, iv 2, iv 3, iv 2, iv c2]) rfl k) ?_
  refine Go.st (f' := (mkF m 17 #[rv a1, iv 2, rv a2, iv 2, iv 3, iv 2, iv c2] [(.int c2)])) (fun _ k => XS.iload X7.here hx rfl (hb hby d8_15) rfl k) ?_
  refine Go.st (f' := (mkF m 20 #[rv a1, iv 2, rv a2, iv 2, iv 3, iv 2, iv c2] [(.int 255), (.int c2)])) (fun _ k => XS.sipush X7.here hx rfl (hb hby d8_17) k) ?_
  refine Go.st (f' := (mkF m 26 #[rv a1, iv 2, rv a2, iv 2, iv 3, iv 2, iv c2] [])) (fun _ k => XS.icmpYes X7.here hx rfl (pc0 := 20) (pc' := 26) rfl (hb hby d8_20) rfl (flt hc_c2).2.2.2 (by decide) (by decide) k) ?_
  refine Go.st (f' := (mkF m 27 #[rv a1, iv 2, rv a2, iv 2, iv 3, iv 2, iv c2] [(.ref a2)])) (fun _ k => XS.aloadN X7.here hx rfl (hb hby d8_26) rfl rfl k) ?_
  refine Go.st (f' := (mkF m 28 #[rv a1, iv 2, rv a2, iv 2, iv 3, iv 2, iv c2] [(.int 2), (.ref a2)])) (fun _ k => XS.iloadN X7.here hx rfl (hb hby d8_27) rfl k) ?_
  refine Go.st (f' := (mkF m 30 #[rv a1, iv 2, rv a2, iv 2, iv 3, iv 2, iv c2] [(.int c2), (.int 2), (.ref a2)])) (fun _ k => XS.iload X7.here hx rfl (hb hby d8_28) rfl k) ?_
  refine Go.st (f' := (mkF m 31 #[rv a1, iv 2, rv a2, iv 2, iv 3, iv 2, iv c2] [(.int (c2.toInt8.toInt32)), (.int 2), (.ref a2)])) (fun _ k => XS.i2b X7.here hx rfl (hb hby d8_30) rfl k) ?_
  obtain ⟨cl10, Ar10, q10, S10, Nx10, H10, G10⟩ := id V_a2_7
  have hin10 : ¬ ((2 : Int32) < 0 ∨ cl10.slots.size ≤ ((2 : Int32)).toNatClampNeg) := inb_of S10 ⟨by decide, by decide⟩
  obtain ⟨T11, h11, X11, e11, W11, st11⟩ := stB X7 hx hZ e7 Ar10 (j := (2 : Int32)) hin10 (g := (mkF m 31 #[rv a1, iv 2, rv a2, iv 2, iv 3, iv 2, iv c2] [(.int (c2.toInt8.toInt32)), (.int 2), (.ref a2)])) rfl rfl (hb hby d8_31)
  have V_a2_11 : Arv Z h11 a2 k2 .byte (3 : Int32) [(.int (nar .byte (c0.toInt8.toInt32))), (.int (nar .byte (c1.toInt8.toInt32))), (.int (nar .byte (c2.toInt8.toInt32)))] (.int (0 : Int32)) := Arv.set Ar10 q10 S10 Nx10 H10 G10 (fits_nar_byte _) W11 2 rfl (Nat.le_of_ble_eq_true rfl)
  have N11 := Fr.snoc X11 N7 g_a2
  have O11 : Old Z n0 h11 := O7.wr W11 g_a2
  have K11 : Keep h0 h11 [a2] := K7.wr W11 (Or.inl (List.mem_of_getElem? (i := 0) rfl))
  refine Go.st (f' := (mkF m 32 #[rv a1, iv 2, rv a2, iv 2, iv 3, iv 2, iv c2] [])) (fun _ k => st11 _ k) ?_
  refine Go.st (f' := (mkF m 35 #[rv a1, iv 3, rv a2, iv 2, iv 3, iv 2, iv c2] [])) (fun _ k => XS.iinc X11.here hx rfl (hb hby d8_32) rfl (l' := #[rv a1, iv 3, rv a2, iv 2, iv 3, iv 2, iv c2]) rfl k) ?_
  refine Go.st (f' := (mkF m 38 #[rv a1, iv 3, rv a2, iv 3, iv 3, iv 2, iv c2] [])) (fun _ k => XS.iinc X11.here hx rfl (hb hby d8_35) rfl (l' := #[rv a1, iv 3, rv a2, iv 3, iv 3, iv 2, iv c2]) rfl k) ?_
  refine Go.st (f' := (mkF m 41 #[rv a1, iv 3, rv a2, iv 3, iv 3, iv 3, iv c2] [])) (fun _ k => XS.iinc X11.here hx rfl (hb hby d8_38) rfl (l' := #[rv a1, iv 3, rv a2, iv 3, iv 3, iv 3, iv c2]) rfl k) ?_
  refine Go.st (f' := (mkF m 3 #[rv a1, iv 3, rv a2, iv 3, iv 3, iv 3, iv c2] [])) (fun _ k => XS.goto X11.here hx rfl (pc0 := 41) (pc' := 3) rfl (hb hby d8_41) (by decide) (by decide) k) ?_
  refine Go.st (f' := (mkF m 5 #[rv a1, iv 3, rv a2, iv 3, iv 3, iv 3, iv c2] [(.int 3)])) (fun _ k => XS.iload X11.here hx rfl (hb hby d8_3) rfl k) ?_
  refine Go.st (f' := (mkF m 7 #[rv a1, iv 3, rv a2, iv 3, iv 3, iv 3, iv c2] [(.int 3), (.int 3)])) (fun _ k => XS.iload X11.here hx rfl (hb hby d8_5) rfl k) ?_
  refine Go.st (f' := (mkF m 44 #[rv a1, iv 3, rv a2, iv 3, iv 3, iv 3, iv c2] [])) (fun _ k => XS.icmpYes X11.here hx rfl (pc0 := 7) (pc' := 44) rfl (hb hby d8_7) rfl (by decide) (by decide) (by decide) k) ?_
  refine Go.st (f' := (mkF m 46 #[rv a1, iv 3, rv a2, iv 3, iv 3, iv 3, iv c2] [(.int 3)])) (fun _ k => XS.iload X11.here hx rfl (hb hby d8_44) rfl k) ?_
  refine Go.retV X11 hlk hx (t := .int) hret rfl (Or.inl ⟨rfl, Or.inl rfl, _, rfl⟩) (hb hby d8_46) e11 ?_ (by decide) (by decide)
  exact ⟨rfl, N11, K11, V_a2_11⟩
set_option maxRecDepth 65536 in
set_option maxHeartbeats 40000000 in
theorem u3_3_3 (l : Launch) (Z : State) (a0 : Array Value) (hw : ∀ d ∈ tables_1, d.before a0 Z = true) (ws : List Jvm.Cond) (a1 : Addr) (k1 : ClassId) (c0 : Int32) (c1 : Int32) (c2 : Int32) (i_COMPACT_STRINGS : Int32) (v_SIOOBE_FORMATTER : Value) (h0 : Heap) (n0 : Nat) (O0 : Old Z n0 h0) (hc_c0 : ¬ (255 : Int32) < c0) (hc_c1 : ¬ (255 : Int32) < c1) (hc_c2 : ¬ (255 : Int32) < c2) (V_a1 : Arv Z h0 a1 k1 .char (3 : Int32) [(.int c0), (.int c1), (.int c2)] (.int 0)) (WW : World1 Z i_COMPACT_STRINGS v_SIOOBE_FORMATTER) :
    Con l Z (⟨"java/lang/StringUTF16", "compress", "([CII)[B"⟩ : MethodName) jdk_52_method_16_code 6 (some (.array .byte)) ws ({ frames := 1, cells := 1, slots := 3, locals := 18 } : Room) #[(.ref a1), (.int 0), (.int 3)] h0 (fun v h L => ∃ (b : Addr) (kb : ClassId), v = some (.ref b) ∧ Fr n0 L ∧ h0.size ≤ b ∧ Keep h0 h [] ∧ Arv Z h b kb .byte (3 : Int32) [(.int (nar .byte (c0.toInt8.toInt32))), (.int (nar .byte (c1.toInt8.toInt32))), (.int (nar .byte (c2.toInt8.toInt32)))] (.int 0)) := by
  refine own_body (plainFor_of_name pn_java_lang_StringUTF16) ?_
  intro p e s m below meth c s₁ hx hby hml hZ hown hnm hlk hret X0 e0
  have N0 := Fr.nil n0
  have K0 : Keep h0 h0 [] := Keep.refl _ _
  refine Go.st (T' := s₁) (f' := (mkF m 0 #[rv a1, iv 0, iv 3, .unset, .unset, .unset] [])) (fun _ k => castTop (by first | (simp [entryFrame, mkF, argsToLocals, Value.category]; done) | rfl) k) ?_
  have ⟨S_i_COMPACT_STRINGS, nz_i_COMPACT_STRINGS, S_v_SIOOBE_FORMATTER, r_v_SIOOBE_FORMATTER, S_i__assertionsDisabled, S_i_HI_BYTE_SHIFT, S_i_LO_BYTE_SHIFT⟩ := WW
  have lt_a1 := V_a1.lt
  refine Go.st (f' := (mkF m 1 #[rv a1, iv 0, iv 3, .unset, .unset, .unset] [(.int 3)])) (fun _ k => XS.iloadN X0.here hx rfl (hb hby d7_0) rfl k) ?_
  obtain ⟨T1, h1, kc1, X1, e1, E1, A1, st1⟩ := newP X0 hx hZ (ww hw 5 rfl) e0 (g := (mkF m 1 #[rv a1, iv 0, iv 3, .unset, .unset, .unset] [(.int 3)])) rfl (hb hby d7_1) rfl (by decide) (cap := 3) (by decide) (by decide) (by decide) (by decide)
  obtain ⟨b1, g1⟩ : ∃ z, z = h0.size := ⟨_, rfl⟩
  rw [← g1] at A1 st1
  have ne_a1_b1 : a1 ≠ b1 := Nat.ne_of_lt (Nat.lt_of_lt_of_eq lt_a1 g1.symm)
  have g_b1 : n0 ≤ b1 := Nat.le_trans (O0.1 ▸ O0.2.1) (Nat.le_of_eq g1.symm)
  have O1 : Old Z n0 h1 := O0.ext E1
  have sz_b1 : h0.size ≤ b1 := Nat.le_trans K0.1 (Nat.le_of_eq g1.symm)
  have K1 : Keep h0 h1 [] := K0.ext E1
  have V_b1 : Arv Z h1 b1 kc1 .byte (3 : Int32) [(.int (0 : Int32)), (.int (0 : Int32)), (.int (0 : Int32))] (.int (0 : Int32)) := (Arv.new A1 (by decide)).pad (pad_rep [] (.int (0 : Int32)) 3)
  have lt_b1 := V_b1.lt
  refine Go.st (f' := (mkF m 3 #[rv a1, iv 0, iv 3, .unset, .unset, .unset] [(.ref b1)])) (fun _ k => st1 _ k) ?_
  refine Go.st (f' := (mkF m 4 #[rv a1, iv 0, iv 3, rv b1, .unset, .unset] [])) (fun _ k => XS.astoreN X1.here hx rfl (hb hby d7_3) rfl rfl (l' := #[rv a1, iv 0, iv 3, rv b1, .unset, .unset]) rfl k) ?_
  refine Go.st (f' := (mkF m 5 #[rv a1, iv 0, iv 3, rv b1, .unset, .unset] [(.ref a1)])) (fun _ k => XS.aloadN X1.here hx rfl (hb hby d7_4) rfl rfl k) ?_
  refine Go.st (f' := (mkF m 6 #[rv a1, iv 0, iv 3, rv b1, .unset, .unset] [(.int 0), (.ref a1)])) (fun _ k => XS.iloadN X1.here hx rfl (hb hby d7_5) rfl k) ?_
  refine Go.st (f' := (mkF m 7 #[rv a1, iv 0, iv 3, rv b1, .unset, .unset] [(.ref b1), (.int 0), (.ref a1)])) (fun _ k => XS.aloadN X1.here hx rfl (hb hby d7_6) rfl rfl k) ?_
  refine Go.st (f' := (mkF m 8 #[rv a1, iv 0, iv 3, rv b1, .unset, .unset] [(.int 0), (.ref b1), (.int 0), (.ref a1)])) (fun _ k => XS.iconst X1.here hx rfl (hb hby d7_7) k) ?_
  refine Go.st (f' := (mkF m 9 #[rv a1, iv 0, iv 3, rv b1, .unset, .unset] [(.int 3), (.int 0), (.ref b1), (.int 0), (.ref a1)])) (fun _ k => XS.iloadN X1.here hx rfl (hb hby d7_8) rfl k) ?_
  have ft3 := (V_a1.ext E1)
  obtain ⟨_, _, ⟨T2, L2, kk2, nn2⟩, -, X2, ⟨Lc2, hQ2, lq2, yq2, zz2⟩, st2⟩ := Jvm.LawKit.callS X1 hx (y := (⟨"java/lang/StringUTF16", "compress", "([CI[BII)I"⟩ : MethodName)) hown (mvT hZ (ww hw 45 rfl)) (mvT hZ (ww hw 46 rfl)) (mvT hZ (ww hw 43 rfl)) (mvT hZ (ww hw 47 rfl)) (by decide) (own_back (W := 0) (u5_3_3 l Z a0 hw [] b1 kc1 a1 k1 c0 c1 c2 h1 n0 O1 hc_c0 hc_c1 hc_c2 ne_a1_b1 g_b1 ft3 V_b1) hZ (ww hw 47 rfl) (ww hw 43 rfl) (by decide) (by decide)) (g := (mkF m 9 #[rv a1, iv 0, iv 3, rv b1, .unset, .unset] [(.int 3), (.int 0), (.ref b1), (.int 0), (.ref a1)])) rfl (by rw [hml]; rfl) (argsL := [(.ref a1), (.int (0 : Int32)), (.ref b1), (.int (0 : Int32)), (.int (3 : Int32))]) (rest := []) (lenOf pd___CI_BII_I rfl) rfl (by show 2 * 0 + _ ≤ _; exact Nat.le_of_eq rfl) (hb hby d7_9) (fun _ _ => ⟨rfl, e1, (by decide : 1 + 0 ≤ _), (by decide : 3 + 0 ≤ _)⟩)
  dsimp only [Pt.U, Pt.locs, Pt.cells, Pt.slots] at X2 lq2 yq2 zz2 st2 hQ2
  subst lq2 yq2 zz2
  obtain ⟨rfl, Nq2, kq2, vq2⟩ := hQ2
  have N2 := Fr.app N0 Nq2
  have O2 : Old Z n0 T2.heap := O1.keep kq2 (allS g_b1 all0)
  have K2 : Keep h0 T2.heap [] := K1.trans kq2 (allS (Or.inr sz_b1) all0)
  refine Go.st (f' := (mkF m 12 #[rv a1, iv 0, iv 3, rv b1, .unset, .unset] [(.int 3)])) (fun _ k => st2 _ k) ?_
  refine Go.st (f' := (mkF m 14 #[rv a1, iv 0, iv 3, rv b1, iv 3, .unset] [])) (fun _ k => XS.istore X2.here hx rfl (hb hby d7_12) rfl (l' := #[rv a1, iv 0, iv 3, rv b1, iv 3, .unset]) rfl k) ?_
  refine Go.st (f' := (mkF m 16 #[rv a1, iv 0, iv 3, rv b1, iv 3, .unset] [(.int 3)])) (fun _ k => XS.iload X2.here hx rfl (hb hby d7_14) rfl k) ?_
  refine Go.st (f' := (mkF m 17 #[rv a1, iv 0, iv 3, rv b1, iv 3, .unset] [(.int 3), (.int 3)])) (fun _ k => XS.iloadN X2.here hx rfl (hb hby d7_16) rfl k) ?_
  refine Go.st (f' := (mkF m 57 #[rv a1, iv 0, iv 3, rv b1, iv 3, .unset] [])) (fun _ k => XS.icmpYes X2.here hx rfl (pc0 := 17) (pc' := 57) rfl (hb hby d7_17) rfl (by decide) (by decide) (by decide) k) ?_
  refine Go.st (f' := (mkF m 58 #[rv a1, iv 0, iv 3, rv b1, iv 3, .unset] [(.ref b1)])) (fun _ k => XS.aloadN X2.here hx rfl (hb hby d7_57) rfl rfl k) ?_
  refine Go.retV X2 hlk hx (t := (.array .byte)) hret rfl (Or.inr (Or.inr (Or.inr (Or.inr ⟨rfl, rfl, rfl⟩)))) (hb hby d7_58) rfl ?_ (by decide) (by decide)
  exact ⟨b1, kc1, rfl, N2, sz_b1, K2, vq2⟩
set_option maxRecDepth 65536 in
set_option maxHeartbeats 40000000 in
theorem uv_3_3 (l : Launch) (Z : State) (a0 : Array Value) (hw : ∀ d ∈ tables_1, d.before a0 Z = true) (ws : List Jvm.Cond) (a0b : Addr) (a1 : Addr) (k1 : ClassId) (c0 : Int32) (c1 : Int32) (c2 : Int32) (i_COMPACT_STRINGS : Int32) (v_SIOOBE_FORMATTER : Value) (h0 : Heap) (n0 : Nat) (O0 : Old Z n0 h0) (hc_c0 : ¬ (255 : Int32) < c0) (hc_c1 : ¬ (255 : Int32) < c1) (hc_c2 : ¬ (255 : Int32) < c2) (g_a0b : n0 ≤ a0b) (nb1 : a0b ≠ a1) (E_a0b : Exa Z h0 a0b "java/lang/String") (F_a0b_coder : Fld Z h0 a0b "java/lang/String" "coder" "B" (.int 0)) (F_a0b_value : Fld Z h0 a0b "java/lang/String" "value" "[B" .null) (V_a1 : Arv Z h0 a1 k1 .char (3 : Int32) [(.int c0), (.int c1), (.int c2)] (.int 0)) (WW : World1 Z i_COMPACT_STRINGS v_SIOOBE_FORMATTER) :
    Con l Z (⟨"java/lang/String", "<init>", "([CIILjava/lang/Void;)V"⟩ : MethodName) jdk_42_method_149_code 6 none ws ({ frames := 2, cells := 1, slots := 3, locals := 35 } : Room) #[(.ref a0b), (.ref a1), (.int 0), (.int 3), .null] h0 (fun v h L => v = none ∧ Fr n0 L ∧ Keep h0 h [a0b] ∧ Exa Z h a0b "java/lang/String" ∧ Fld Z h a0b "java/lang/String" "coder" "B" (.int 0) ∧ ∃ (t : Addr) (kt : ClassId), h0.size ≤ t ∧ Fld Z h a0b "java/lang/String" "value" "[B" (.ref t) ∧ Arv Z h t kt .byte (3 : Int32) [(.int (nar .byte (c0.toInt8.toInt32))), (.int (nar .byte (c1.toInt8.toInt32))), (.int (nar .byte (c2.toInt8.toInt32)))] (.int 0)) := by
  refine own_body (plainFor_of_name pn_java_lang_String) ?_
  intro p e s m below meth c s₁ hx hby hml hZ hown hnm hlk hret X0 e0
  have N0 := Fr.nil n0
  have K0 : Keep h0 h0 [a0b] := Keep.refl _ _
  refine Go.st (T' := s₁) (f' := (mkF m 0 #[rv a0b, rv a1, iv 0, iv 3, .val .null, .unset] [])) (fun _ k => castTop (by first | (simp [entryFrame, mkF, argsToLocals, Value.category]; done) | rfl) k) ?_
  have ⟨S_i_COMPACT_STRINGS, nz_i_COMPACT_STRINGS, S_v_SIOOBE_FORMATTER, r_v_SIOOBE_FORMATTER, S_i__assertionsDisabled, S_i_HI_BYTE_SHIFT, S_i_LO_BYTE_SHIFT⟩ := WW
  have lt_a0b := E_a0b.lt
  have lt_a1 := V_a1.lt
  refine Go.st (f' := (mkF m 1 #[rv a0b, rv a1, iv 0, iv 3, .val .null, .unset] [(.ref a0b)])) (fun _ k => XS.aloadN X0.here hx rfl (hb hby d2_0) rfl rfl k) ?_
  obtain ⟨T1, X1, e1, st1⟩ := initO X0 hx hZ hown (ww hw 20 rfl) (ww hw 21 rfl) (ww hw 22 rfl) e0 (g := (mkF m 1 #[rv a0b, rv a1, iv 0, iv 3, .val .null, .unset] [(.ref a0b)])) rfl (by rw [hml]; rfl) rfl (hb hby d2_1) (by decide) (W := 0) (by show 2 * 0 + _ ≤ _; exact Nat.le_of_eq rfl) (by decide)
  refine Go.st (f' := (mkF m 4 #[rv a0b, rv a1, iv 0, iv 3, .val .null, .unset] [])) (fun _ k => st1 _ k) ?_
  refine Go.st (f' := (mkF m 5 #[rv a0b, rv a1, iv 0, iv 3, .val .null, .unset] [(.int 3)])) (fun _ k => XS.iloadN X1.here hx rfl (hb hby d2_4) rfl k) ?_
  refine Go.st (f' := (mkF m 27 #[rv a0b, rv a1, iv 0, iv 3, .val .null, .unset] [])) (fun _ k => XS.ifYes X1.here hx rfl (pc0 := 5) (pc' := 27) rfl (hb hby d2_5) rfl (by decide) (by decide) (by decide) k) ?_
  obtain ⟨T2, X2, e2, st2⟩ := getS2 X1 hx hZ hown (host := "") (Or.inl (ww hw 40 rfl)) Via.refl e1 (S_i_COMPACT_STRINGS.ext O0.2) (g := (mkF m 27 #[rv a0b, rv a1, iv 0, iv 3, .val .null, .unset] [])) rfl (hb hby d2_27)
  refine Go.st (f' := (mkF m 30 #[rv a0b, rv a1, iv 0, iv 3, .val .null, .unset] [(.int i_COMPACT_STRINGS)])) (fun _ k => st2 _ k) ?_
  refine Go.st (f' := (mkF m 33 #[rv a0b, rv a1, iv 0, iv 3, .val .null, .unset] [])) (fun _ k => XS.ifNo X2.here hx rfl (hb hby d2_30) rfl ((if0 _ _).trans (feq nz_i_COMPACT_STRINGS).1) k) ?_
  refine Go.st (f' := (mkF m 34 #[rv a0b, rv a1, iv 0, iv 3, .val .null, .unset] [(.ref a1)])) (fun _ k => XS.aloadN X2.here hx rfl (hb hby d2_33) rfl rfl k) ?_
  refine Go.st (f' := (mkF m 35 #[rv a0b, rv a1, iv 0, iv 3, .val .null, .unset] [(.int 0), (.ref a1)])) (fun _ k => XS.iloadN X2.here hx rfl (hb hby d2_34) rfl k) ?_
  refine Go.st (f' := (mkF m 36 #[rv a0b, rv a1, iv 0, iv 3, .val .null, .unset] [(.int 3), (.int 0), (.ref a1)])) (fun _ k => XS.iloadN X2.here hx rfl (hb hby d2_35) rfl k) ?_
  obtain ⟨_, _, ⟨T3, L3, kk3, nn3⟩, -, X3, ⟨Lc3, hQ3, lq3, yq3, zz3⟩, st3⟩ := Jvm.LawKit.callS X2 hx (y := (⟨"java/lang/StringUTF16", "compress", "([CII)[B"⟩ : MethodName)) hown (mvT hZ (ww hw 41 rfl)) (mvT hZ (ww hw 42 rfl)) (mvT hZ (ww hw 43 rfl)) (mvT hZ (ww hw 44 rfl)) (by decide) (own_back (W := 0) (u3_3_3 l Z a0 hw [] a1 k1 c0 c1 c2 i_COMPACT_STRINGS v_SIOOBE_FORMATTER h0 n0 O0 hc_c0 hc_c1 hc_c2 V_a1 WW) hZ (ww hw 44 rfl) (ww hw 43 rfl) (by decide) (by decide)) (g := (mkF m 36 #[rv a0b, rv a1, iv 0, iv 3, .val .null, .unset] [(.int 3), (.int 0), (.ref a1)])) rfl (by rw [hml]; rfl) (argsL := [(.ref a1), (.int (0 : Int32)), (.int (3 : Int32))]) (rest := []) (lenOf pd___CII__B rfl) rfl (by show 2 * 0 + _ ≤ _; exact Nat.le_of_eq rfl) (hb hby d2_36) (fun _ _ => ⟨rfl, e2, (by decide : 0 + 1 ≤ _), (by decide : 0 + 3 ≤ _)⟩)
  dsimp only [Pt.U, Pt.locs, Pt.cells, Pt.slots] at X3 lq3 yq3 zz3 st3 hQ3
  subst lq3 yq3 zz3
  obtain ⟨b3, kb3, rfl, Nq3, zq3, kq3, vq3⟩ := hQ3
  have N3 := Fr.app N0 Nq3
  have ne_a0b_b3 : a0b ≠ b3 := Nat.ne_of_lt (Nat.lt_of_lt_of_le lt_a0b zq3)
  have ne_a1_b3 : a1 ≠ b3 := Nat.ne_of_lt (Nat.lt_of_lt_of_le lt_a1 zq3)
  have g_b3 : n0 ≤ b3 := Nat.le_trans (O0.1 ▸ O0.2.1) zq3
  have sz_b3 : h0.size ≤ b3 := Nat.le_trans K0.1 zq3
  have O3 : Old Z n0 T3.heap := O0.keep kq3 all0
  have K3 : Keep h0 T3.heap [a0b] := K0.trans kq3 all0
  have lt_b3 := vq3.lt
  refine Go.st (f' := (mkF m 39 #[rv a0b, rv a1, iv 0, iv 3, .val .null, .unset] [(.ref b3)])) (fun _ k => st3 _ k) ?_
  refine Go.st (f' := (mkF m 41 #[rv a0b, rv a1, iv 0, iv 3, .val .null, rv b3] [])) (fun _ k => XS.astore X3.here hx rfl (hb hby d2_39) rfl rfl (l' := #[rv a0b, rv a1, iv 0, iv 3, .val .null, rv b3]) rfl k) ?_
  refine Go.st (f' := (mkF m 42 #[rv a0b, rv a1, iv 0, iv 3, .val .null, rv b3] [(.ref a0b)])) (fun _ k => XS.aloadN X3.here hx rfl (hb hby d2_41) rfl rfl k) ?_
  refine Go.st (f' := (mkF m 44 #[rv a0b, rv a1, iv 0, iv 3, .val .null, rv b3] [(.ref b3), (.ref a0b)])) (fun _ k => XS.aload X3.here hx rfl (hb hby d2_42) rfl rfl k) ?_
  refine Go.st (f' := (mkF m 45 #[rv a0b, rv a1, iv 0, iv 3, .val .null, rv b3] [(.int 3), (.ref b3), (.ref a0b)])) (fun _ k => XS.iloadN X3.here hx rfl (hb hby d2_44) rfl k) ?_
  obtain ⟨_, _, ⟨T4, L4, kk4, nn4⟩, -, X4, ⟨Lc4, hQ4, lq4, yq4, zz4⟩, st4⟩ := Jvm.LawKit.callS X3 hx (y := (⟨"java/lang/StringUTF16", "coderFromArrayLen", "([BI)B"⟩ : MethodName)) hown (mvT hZ (ww hw 48 rfl)) (mvT hZ (ww hw 49 rfl)) (mvT hZ (ww hw 43 rfl)) (mvT hZ (ww hw 50 rfl)) (by decide) (own_back (W := 1) (uc_3_3 l Z a0 hw [] b3 kb3 (nar .byte (c0.toInt8.toInt32)) (nar .byte (c1.toInt8.toInt32)) (nar .byte (c2.toInt8.toInt32)) T3.heap n0 O3 vq3) hZ (ww hw 50 rfl) (ww hw 43 rfl) (by decide) (by decide)) (g := (mkF m 45 #[rv a0b, rv a1, iv 0, iv 3, .val .null, rv b3] [(.int 3), (.ref b3), (.ref a0b)])) rfl (by rw [hml]; rfl) (argsL := [(.ref b3), (.int (3 : Int32))]) (rest := [(.ref a0b)]) (lenOf pd___BI_B rfl) rfl (by show 2 * 0 + _ ≤ _; exact Nat.le_of_eq rfl) (hb hby d2_45) (fun _ _ => ⟨rfl, rfl, (by decide : 1 + 0 ≤ _), (by decide : 3 + 0 ≤ _)⟩)
  dsimp only [Pt.U, Pt.locs, Pt.cells, Pt.slots] at X4 lq4 yq4 zz4 st4 hQ4
  subst lq4 yq4 zz4
  obtain ⟨rfl, Nq4, kq4⟩ := hQ4
  have N4 := Fr.app N3 Nq4
  refine Go.st (f' := (mkF m 48 #[rv a0b, rv a1, iv 0, iv 3, .val .null, rv b3] [(.int 0), (.ref a0b)])) (fun _ k => st4 _ k) ?_
  have ft5 := (E_a0b.keep kq3)
  have ft6 := (F_a0b_coder.keep kq3 nin0)
  obtain ⟨T7, h7, X7, e7, W7, st7⟩ := putFN X4 hx hZ hown (ww hw 25 rfl) Via.refl kq4 ft6 ft5 (Or.inr ⟨(ww hw 7 rfl), rfl, hnm⟩) (ww hw 4 rfl) (ty := .byte) (v' := (.int (0 : Int32))) (by decide) rfl (by decide) (g := (mkF m 48 #[rv a0b, rv a1, iv 0, iv 3, .val .null, rv b3] [(.int 0), (.ref a0b)])) rfl rfl (hb hby d2_48)
  have N7 := Fr.snoc X7 N4 g_a0b
  have O7 : Old Z n0 h7 := O3.wr W7 g_a0b
  have K7 : Keep h0 h7 [a0b] := K3.wr W7 (Or.inl (List.mem_of_getElem? (i := 0) rfl))
  have Fw7 := ft6.same W7
  refine Go.st (f' := (mkF m 51 #[rv a0b, rv a1, iv 0, iv 3, .val .null, rv b3] [])) (fun _ k => st7 _ k) ?_
  refine Go.st (f' := (mkF m 52 #[rv a0b, rv a1, iv 0, iv 3, .val .null, rv b3] [(.ref a0b)])) (fun _ k => XS.aloadN X7.here hx rfl (hb hby d2_51) rfl rfl k) ?_
  refine Go.st (f' := (mkF m 54 #[rv a0b, rv a1, iv 0, iv 3, .val .null, rv b3] [(.ref b3), (.ref a0b)])) (fun _ k => XS.aload X7.here hx rfl (hb hby d2_52) rfl rfl k) ?_
  have ft8 := (ft5.wr W7)
  have ft9 := ((F_a0b_value.keep kq3 nin0).other W7 (Or.inr (slot_ne (Or.inr (ww hw 6 rfl)) (Or.inr (ww hw 7 rfl)) (by decide) (t := (.array .byte)) (t' := .byte) (by decide) (by decide))))
  obtain ⟨T10, h10, X10, e10, W10, st10⟩ := putF X7 hx hZ hown (host := "") (Or.inl (ww hw 24 rfl)) Via.refl e7 ft9 ft8 (Or.inr ⟨(ww hw 6 rfl), rfl, hnm⟩) (ww hw 4 rfl) (ty := (.array .byte)) (by decide) rfl rfl (g := (mkF m 54 #[rv a0b, rv a1, iv 0, iv 3, .val .null, rv b3] [(.ref b3), (.ref a0b)])) rfl rfl (hb hby d2_54)
  have N10 := Fr.snoc X10 N7 g_a0b
  have O10 : Old Z n0 h10 := O7.wr W10 g_a0b
  have K10 : Keep h0 h10 [a0b] := K7.wr W10 (Or.inl (List.mem_of_getElem? (i := 0) rfl))
  have Fw10 := ft9.same W10
  refine Go.st (f' := (mkF m 57 #[rv a0b, rv a1, iv 0, iv 3, .val .null, rv b3] [])) (fun _ k => st10 _ k) ?_
  refine Go.ret0 X10 hlk hx hret (hb hby d2_57) e10 ?_ (by decide) (by decide)
  have ft11 := (ft8.wr W10)
  have ft12 := (Fw7.other W10 (Or.inr (slot_ne (Or.inr (ww hw 7 rfl)) (Or.inr (ww hw 6 rfl)) (by decide) (t := .byte) (t' := (.array .byte)) (by decide) (by decide))))
  have ft13 := ((vq3.other W7 (Ne.symm ne_a0b_b3)).other W10 (Ne.symm ne_a0b_b3))
  exact ⟨rfl, N10, K10, ft11, ft12, b3, kb3, sz_b3, Fw10, ft13⟩
set_option maxRecDepth 65536 in
set_option maxHeartbeats 40000000 in
theorem u3_3_0 (l : Launch) (Z : State) (a0 : Array Value) (hw : ∀ d ∈ tables_1, d.before a0 Z = true) (ws : List Jvm.Cond) (a1 : Addr) (k1 : ClassId) (c0 : Int32) (c1 : Int32) (c2 : Int32) (i_COMPACT_STRINGS : Int32) (v_SIOOBE_FORMATTER : Value) (h0 : Heap) (n0 : Nat) (O0 : Old Z n0 h0) (hc_c0 : (255 : Int32) < c0) (hk_c0 : 0 ≤ c0.toInt ∧ c0.toInt < 65536) (V_a1 : Arv Z h0 a1 k1 .char (3 : Int32) [(.int c0), (.int c1), (.int c2)] (.int 0)) (WW : World1 Z i_COMPACT_STRINGS v_SIOOBE_FORMATTER) :
    Con l Z (⟨"java/lang/StringUTF16", "compress", "([CII)[B"⟩ : MethodName) jdk_52_method_16_code 6 (some (.array .byte)) ws ({ frames := 3, cells := 2, slots := 9, locals := 40 } : Room) #[(.ref a1), (.int 0), (.int 3)] h0 (fun v h L => ∃ (b : Addr) (kb : ClassId), v = some (.ref b) ∧ Fr n0 L ∧ h0.size ≤ b ∧ Keep h0 h [] ∧ Arv Z h b kb .byte (6 : Int32) [(.int (nar .byte ((c0 >>> ((0 : Int32) &&& 31)).toInt8.toInt32))), (.int (nar .byte ((c0 >>> ((8 : Int32) &&& 31)).toInt8.toInt32))), (.int (nar .byte ((c1 >>> ((0 : Int32) &&& 31)).toInt8.toInt32))), (.int (nar .byte ((c1 >>> ((8 : Int32) &&& 31)).toInt8.toInt32))), (.int (nar .byte ((c2 >>> ((0 : Int32) &&& 31)).toInt8.toInt32))), (.int (nar .byte ((c2 >>> ((8 : Int32) &&& 31)).toInt8.toInt32)))] (.int 0)) := by
  refine own_body (plainFor_of_name pn_java_lang_StringUTF16) ?_
  intro p e s m below meth c s₁ hx hby hml hZ hown hnm hlk hret X0 e0
  have N0 := Fr.nil n0
  have K0 : Keep h0 h0 [] := Keep.refl _ _
  refine Go.st (T' := s₁) (f' := (mkF m 0 #[rv a1, iv 0, iv 3, .unset, .unset, .unset] [])) (fun _ k => castTop (by first | (simp [entryFrame, mkF, argsToLocals, Value.category]; done) | rfl) k) ?_
  have ⟨S_i_COMPACT_STRINGS, nz_i_COMPACT_STRINGS, S_v_SIOOBE_FORMATTER, r_v_SIOOBE_FORMATTER, S_i__assertionsDisabled, S_i_HI_BYTE_SHIFT, S_i_LO_BYTE_SHIFT⟩ := WW
  have lt_a1 := V_a1.lt
  refine Go.st (f' := (mkF m 1 #[rv a1, iv 0, iv 3, .unset, .unset, .unset] [(.int 3)])) (fun _ k => XS.iloadN X0.here hx rfl (hb hby d7_0) rfl k) ?_
  obtain ⟨T1, h1, kc1, X1, e1, E1, A1, st1⟩ := newP X0 hx hZ (ww hw 5 rfl) e0 (g := (mkF m 1 #[rv a1, iv 0, iv 3, .unset, .unset, .unset] [(.int 3)])) rfl (hb hby d7_1) rfl (by decide) (cap := 3) (by decide) (by decide) (by decide) (by decide)
  obtain ⟨b1, g1⟩ : ∃ z, z = h0.size := ⟨_, rfl⟩
  rw [← g1] at A1 st1
  have ne_a1_b1 : a1 ≠ b1 := Nat.ne_of_lt (Nat.lt_of_lt_of_eq lt_a1 g1.symm)
  have g_b1 : n0 ≤ b1 := Nat.le_trans (O0.1 ▸ O0.2.1) (Nat.le_of_eq g1.symm)
  have O1 : Old Z n0 h1 := O0.ext E1
  have sz_b1 : h0.size ≤ b1 := Nat.le_trans K0.1 (Nat.le_of_eq g1.symm)
  have K1 : Keep h0 h1 [] := K0.ext E1
  have V_b1 : Arv Z h1 b1 kc1 .byte (3 : Int32) [(.int (0 : Int32)), (.int (0 : Int32)), (.int (0 : Int32))] (.int (0 : Int32)) := (Arv.new A1 (by decide)).pad (pad_rep [] (.int (0 : Int32)) 3)
  have lt_b1 := V_b1.lt
  refine Go.st (f' := (mkF m 3 #[rv a1, iv 0, iv 3, .unset, .unset, .unset] [(.ref b1)])) (fun _ k => st1 _ k) ?_
  refine Go.st (f' := (mkF m 4 #[rv a1, iv 0, iv 3, rv b1, .unset, .unset] [])) (fun _ k => XS.astoreN X1.here hx rfl (hb hby d7_3) rfl rfl (l' := #[rv a1, iv 0, iv 3, rv b1, .unset, .unset]) rfl k) ?_
  refine Go.st (f' := (mkF m 5 #[rv a1, iv 0, iv 3, rv b1, .unset, .unset] [(.ref a1)])) (fun _ k => XS.aloadN X1.here hx rfl (hb hby d7_4) rfl rfl k) ?_
  refine Go.st (f' := (mkF m 6 #[rv a1, iv 0, iv 3, rv b1, .unset, .unset] [(.int 0), (.ref a1)])) (fun _ k => XS.iloadN X1.here hx rfl (hb hby d7_5) rfl k) ?_
  refine Go.st (f' := (mkF m 7 #[rv a1, iv 0, iv 3, rv b1, .unset, .unset] [(.ref b1), (.int 0), (.ref a1)])) (fun _ k => XS.aloadN X1.here hx rfl (hb hby d7_6) rfl rfl k) ?_
  refine Go.st (f' := (mkF m 8 #[rv a1, iv 0, iv 3, rv b1, .unset, .unset] [(.int 0), (.ref b1), (.int 0), (.ref a1)])) (fun _ k => XS.iconst X1.here hx rfl (hb hby d7_7) k) ?_
  refine Go.st (f' := (mkF m 9 #[rv a1, iv 0, iv 3, rv b1, .unset, .unset] [(.int 3), (.int 0), (.ref b1), (.int 0), (.ref a1)])) (fun _ k => XS.iloadN X1.here hx rfl (hb hby d7_8) rfl k) ?_
  have ft3 := (V_a1.ext E1)
  obtain ⟨_, _, ⟨T2, L2, kk2, nn2⟩, -, X2, ⟨Lc2, hQ2, lq2, yq2, zz2⟩, st2⟩ := Jvm.LawKit.callS X1 hx (y := (⟨"java/lang/StringUTF16", "compress", "([CI[BII)I"⟩ : MethodName)) hown (mvT hZ (ww hw 45 rfl)) (mvT hZ (ww hw 46 rfl)) (mvT hZ (ww hw 43 rfl)) (mvT hZ (ww hw 47 rfl)) (by decide) (own_back (W := 0) (u5_3_0 l Z a0 hw [] b1 kc1 a1 k1 c0 c1 c2 h1 n0 O1 hc_c0 hk_c0 ne_a1_b1 g_b1 ft3 V_b1) hZ (ww hw 47 rfl) (ww hw 43 rfl) (by decide) (by decide)) (g := (mkF m 9 #[rv a1, iv 0, iv 3, rv b1, .unset, .unset] [(.int 3), (.int 0), (.ref b1), (.int 0), (.ref a1)])) rfl (by rw [hml]; rfl) (argsL := [(.ref a1), (.int (0 : Int32)), (.ref b1), (.int (0 : Int32)), (.int (3 : Int32))]) (rest := []) (lenOf pd___CI_BII_I rfl) rfl (by show 2 * 0 + _ ≤ _; exact Nat.le_of_eq rfl) (hb hby d7_9) (fun _ _ => ⟨rfl, e1, (by decide : 1 + 0 ≤ _), (by decide : 3 + 0 ≤ _)⟩)
  dsimp only [Pt.U, Pt.locs, Pt.cells, Pt.slots] at X2 lq2 yq2 zz2 st2 hQ2
  subst lq2 yq2 zz2
  obtain ⟨rfl, Nq2, kq2, vq2⟩ := hQ2
  have N2 := Fr.app N0 Nq2
  have O2 : Old Z n0 T2.heap := O1.keep kq2 (allS g_b1 all0)
  have K2 : Keep h0 T2.heap [] := K1.trans kq2 (allS (Or.inr sz_b1) all0)
  refine Go.st (f' := (mkF m 12 #[rv a1, iv 0, iv 3, rv b1, .unset, .unset] [(.int 0)])) (fun _ k => st2 _ k) ?_
  refine Go.st (f' := (mkF m 14 #[rv a1, iv 0, iv 3, rv b1, iv 0, .unset] [])) (fun _ k => XS.istore X2.here hx rfl (hb hby d7_12) rfl (l' := #[rv a1, iv 0, iv 3, rv b1, iv 0, .unset]) rfl k) ?_
  refine Go.st (f' := (mkF m 16 #[rv a1, iv 0, iv 3, rv b1, iv 0, .unset] [(.int 0)])) (fun _ k => XS.iload X2.here hx rfl (hb hby d7_14) rfl k) ?_
  refine Go.st (f' := (mkF m 17 #[rv a1, iv 0, iv 3, rv b1, iv 0, .unset] [(.int 3), (.int 0)])) (fun _ k => XS.iloadN X2.here hx rfl (hb hby d7_16) rfl k) ?_
  refine Go.st (f' := (mkF m 20 #[rv a1, iv 0, iv 3, rv b1, iv 0, .unset] [])) (fun _ k => XS.icmpNo X2.here hx rfl (hb hby d7_17) rfl (by decide) k) ?_
  refine Go.st (f' := (mkF m 21 #[rv a1, iv 0, iv 3, rv b1, iv 0, .unset] [(.ref a1)])) (fun _ k => XS.aloadN X2.here hx rfl (hb hby d7_20) rfl rfl k) ?_
  refine Go.st (f' := (mkF m 22 #[rv a1, iv 0, iv 3, rv b1, iv 0, .unset] [(.int 0), (.ref a1)])) (fun _ k => XS.iloadN X2.here hx rfl (hb hby d7_21) rfl k) ?_
  refine Go.st (f' := (mkF m 23 #[rv a1, iv 0, iv 3, rv b1, iv 0, .unset] [(.int 3), (.int 0), (.ref a1)])) (fun _ k => XS.iloadN X2.here hx rfl (hb hby d7_22) rfl k) ?_
  have ft5 := (ft3.keep kq2 (ninS ne_a1_b1 nin0))
  obtain ⟨_, _, ⟨T4, L4, kk4, nn4⟩, -, X4, ⟨Lc4, hQ4, lq4, yq4, zz4⟩, st4⟩ := Jvm.LawKit.callS X2 hx (y := (⟨"java/lang/StringUTF16", "toBytes", "([CII)[B"⟩ : MethodName)) hown (mvT hZ (ww hw 81 rfl)) (mvT hZ (ww hw 82 rfl)) (mvT hZ (ww hw 43 rfl)) (mvT hZ (ww hw 83 rfl)) (by decide) (own_back (W := 0) (ut_3 l Z a0 hw [] a1 k1 c0 c1 c2 i_COMPACT_STRINGS v_SIOOBE_FORMATTER T2.heap n0 O2 ft5 WW) hZ (ww hw 83 rfl) (ww hw 43 rfl) (by decide) (by decide)) (g := (mkF m 23 #[rv a1, iv 0, iv 3, rv b1, iv 0, .unset] [(.int 3), (.int 0), (.ref a1)])) rfl (by rw [hml]; rfl) (argsL := [(.ref a1), (.int (0 : Int32)), (.int (3 : Int32))]) (rest := []) (lenOf pd___CII__B rfl) rfl (by show 2 * 0 + _ ≤ _; exact Nat.le_of_eq rfl) (hb hby d7_23) (fun _ _ => ⟨rfl, rfl, (by decide : 1 + 1 ≤ _), (by decide : 3 + 6 ≤ _)⟩)
  dsimp only [Pt.U, Pt.locs, Pt.cells, Pt.slots] at X4 lq4 yq4 zz4 st4 hQ4
  subst lq4 yq4 zz4
  obtain ⟨b4, kb4, rfl, Nq4, zq4, kq4, vq4⟩ := hQ4
  have N4 := Fr.app N2 Nq4
  have ft6 := (Nat.lt_of_lt_of_le (Nat.lt_of_lt_of_le lt_a1 E1.1) kq2.1)
  have ne_a1_b4 : a1 ≠ b4 := Nat.ne_of_lt (Nat.lt_of_lt_of_le ft6 zq4)
  have ft7 := (Nat.lt_of_lt_of_le lt_b1 kq2.1)
  have ne_b1_b4 : b1 ≠ b4 := Nat.ne_of_lt (Nat.lt_of_lt_of_le ft7 zq4)
  have g_b4 : n0 ≤ b4 := Nat.le_trans (O2.1 ▸ O2.2.1) zq4
  have sz_b4 : h0.size ≤ b4 := Nat.le_trans K2.1 zq4
  have O4 : Old Z n0 T4.heap := O2.keep kq4 all0
  have K4 : Keep h0 T4.heap [] := K2.trans kq4 all0
  have lt_b4 := vq4.lt
  refine Go.st (f' := (mkF m 26 #[rv a1, iv 0, iv 3, rv b1, iv 0, .unset] [(.ref b4)])) (fun _ k => st4 _ k) ?_
  refine Go.st (f' := (mkF m 28 #[rv a1, iv 0, iv 3, rv b1, iv 0, rv b4] [])) (fun _ k => XS.astore X4.here hx rfl (hb hby d7_26) rfl rfl (l' := #[rv a1, iv 0, iv 3, rv b1, iv 0, rv b4]) rfl k) ?_
  refine Go.st (f' := (mkF m 30 #[rv a1, iv 0, iv 3, rv b1, iv 0, rv b4] [(.ref b4)])) (fun _ k => XS.aload X4.here hx rfl (hb hby d7_28) rfl rfl k) ?_
  refine Go.st (f' := (mkF m 32 #[rv a1, iv 0, iv 3, rv b1, iv 0, rv b4] [(.int 0), (.ref b4)])) (fun _ k => XS.iload X4.here hx rfl (hb hby d7_30) rfl k) ?_
  obtain ⟨_, _, ⟨T8, L8, kk8, nn8⟩, -, X8, ⟨Lc8, hQ8, lq8, yq8, zz8⟩, st8⟩ := Jvm.LawKit.callS X4 hx (y := (⟨"java/lang/StringUTF16", "getChar", "([BI)C"⟩ : MethodName)) hown (mvT hZ (ww hw 97 rfl)) (mvT hZ (ww hw 98 rfl)) (mvT hZ (ww hw 43 rfl)) (mvT hZ (ww hw 99 rfl)) (by decide) (own_back (W := 0) (ug_3_0 l Z a0 hw [] b4 kb4 (nar .byte ((c0 >>> ((0 : Int32) &&& 31)).toInt8.toInt32)) (nar .byte ((c0 >>> ((8 : Int32) &&& 31)).toInt8.toInt32)) (nar .byte ((c1 >>> ((0 : Int32) &&& 31)).toInt8.toInt32)) (nar .byte ((c1 >>> ((8 : Int32) &&& 31)).toInt8.toInt32)) (nar .byte ((c2 >>> ((0 : Int32) &&& 31)).toInt8.toInt32)) (nar .byte ((c2 >>> ((8 : Int32) &&& 31)).toInt8.toInt32)) i_COMPACT_STRINGS v_SIOOBE_FORMATTER T4.heap n0 O4 vq4 WW) hZ (ww hw 99 rfl) (ww hw 43 rfl) (by decide) (by decide)) (g := (mkF m 32 #[rv a1, iv 0, iv 3, rv b1, iv 0, rv b4] [(.int 0), (.ref b4)])) rfl (by rw [hml]; rfl) (argsL := [(.ref b4), (.int (0 : Int32))]) (rest := []) (lenOf pd___BI_C rfl) rfl (by show 2 * 0 + _ ≤ _; exact Nat.le_of_eq rfl) (hb hby d7_32) (fun _ _ => ⟨rfl, rfl, (by decide : 2 + 0 ≤ _), (by decide : 9 + 0 ≤ _)⟩)
  dsimp only [Pt.U, Pt.locs, Pt.cells, Pt.slots] at X8 lq8 yq8 zz8 st8 hQ8
  subst lq8 yq8 zz8
  obtain ⟨rfl, Nq8, kq8⟩ := hQ8
  have N8 := Fr.app N4 Nq8
  refine Go.st (f' := (mkF m 35 #[rv a1, iv 0, iv 3, rv b1, iv 0, rv b4] [(.int (nar .char ((((((nar .byte ((c0 >>> ((0 : Int32) &&& 31)).toInt8.toInt32)) &&& (255 : Int32)) <<< ((0 : Int32) &&& 31)) ||| (((nar .byte ((c0 >>> ((8 : Int32) &&& 31)).toInt8.toInt32)) &&& (255 : Int32)) <<< ((8 : Int32) &&& 31))).toUInt32.toUInt16.toUInt32.toInt32))))])) (fun _ k => st8 _ k) ?_
  refine Go.st (f' := (mkF m 38 #[rv a1, iv 0, iv 3, rv b1, iv 0, rv b4] [(.int 255), (.int (nar .char ((((((nar .byte ((c0 >>> ((0 : Int32) &&& 31)).toInt8.toInt32)) &&& (255 : Int32)) <<< ((0 : Int32) &&& 31)) ||| (((nar .byte ((c0 >>> ((8 : Int32) &&& 31)).toInt8.toInt32)) &&& (255 : Int32)) <<< ((8 : Int32) &&& 31))).toUInt32.toUInt16.toUInt32.toInt32))))])) (fun _ k => XS.sipush X8.here hx rfl (hb hby d7_35) k) ?_
  refine Go.st (f' := (mkF m 54 #[rv a1, iv 0, iv 3, rv b1, iv 0, rv b4] [])) (fun _ k => XS.icmpYes X8.here hx rfl (pc0 := 38) (pc' := 54) rfl (hb hby d7_38) rfl (tlt (own_gt hk_c0 hc_c0)).2.2.1 (by decide) (by decide) k) ?_
  refine Go.st (f' := (mkF m 56 #[rv a1, iv 0, iv 3, rv b1, iv 0, rv b4] [(.ref b4)])) (fun _ k => XS.aload X8.here hx rfl (hb hby d7_54) rfl rfl k) ?_
  refine Go.retV X8 hlk hx (t := (.array .byte)) hret rfl (Or.inr (Or.inr (Or.inr (Or.inr ⟨rfl, rfl, rfl⟩)))) (hb hby d7_56) kq8 ?_ (by decide) (by decide)
  exact ⟨b4, kb4, rfl, N8, sz_b4, K4, vq4⟩
set_option maxRecDepth 65536 in
set_option maxHeartbeats 40000000 in
theorem u3_3_1 (l : Launch) (Z : State) (a0 : Array Value) (hw : ∀ d ∈ tables_1, d.before a0 Z = true) (ws : List Jvm.Cond) (a1 : Addr) (k1 : ClassId) (c0 : Int32) (c1 : Int32) (c2 : Int32) (i_COMPACT_STRINGS : Int32) (v_SIOOBE_FORMATTER : Value) (h0 : Heap) (n0 : Nat) (O0 : Old Z n0 h0) (hc_c0 : ¬ (255 : Int32) < c0) (hc_c1 : (255 : Int32) < c1) (hk_c1 : 0 ≤ c1.toInt ∧ c1.toInt < 65536) (V_a1 : Arv Z h0 a1 k1 .char (3 : Int32) [(.int c0), (.int c1), (.int c2)] (.int 0)) (WW : World1 Z i_COMPACT_STRINGS v_SIOOBE_FORMATTER) :
    Con l Z (⟨"java/lang/StringUTF16", "compress", "([CII)[B"⟩ : MethodName) jdk_52_method_16_code 6 (some (.array .byte)) ws ({ frames := 3, cells := 2, slots := 9, locals := 40 } : Room) #[(.ref a1), (.int 0), (.int 3)] h0 (fun v h L => ∃ (b : Addr) (kb : ClassId), v = some (.ref b) ∧ Fr n0 L ∧ h0.size ≤ b ∧ Keep h0 h [] ∧ Arv Z h b kb .byte (6 : Int32) [(.int (nar .byte ((c0 >>> ((0 : Int32) &&& 31)).toInt8.toInt32))), (.int (nar .byte ((c0 >>> ((8 : Int32) &&& 31)).toInt8.toInt32))), (.int (nar .byte ((c1 >>> ((0 : Int32) &&& 31)).toInt8.toInt32))), (.int (nar .byte ((c1 >>> ((8 : Int32) &&& 31)).toInt8.toInt32))), (.int (nar .byte ((c2 >>> ((0 : Int32) &&& 31)).toInt8.toInt32))), (.int (nar .byte ((c2 >>> ((8 : Int32) &&& 31)).toInt8.toInt32)))] (.int 0)) := by
  refine own_body (plainFor_of_name pn_java_lang_StringUTF16) ?_
  intro p e s m below meth c s₁ hx hby hml hZ hown hnm hlk hret X0 e0
  have N0 := Fr.nil n0
  have K0 : Keep h0 h0 [] := Keep.refl _ _
  refine Go.st (T' := s₁) (f' := (mkF m 0 #[rv a1, iv 0, iv 3, .unset, .unset, .unset] [])) (fun _ k => castTop (by first | (simp [entryFrame, mkF, argsToLocals, Value.category]; done) | rfl) k) ?_
  have ⟨S_i_COMPACT_STRINGS, nz_i_COMPACT_STRINGS, S_v_SIOOBE_FORMATTER, r_v_SIOOBE_FORMATTER, S_i__assertionsDisabled, S_i_HI_BYTE_SHIFT, S_i_LO_BYTE_SHIFT⟩ := WW
  have lt_a1 := V_a1.lt
  refine Go.st (f' := (mkF m 1 #[rv a1, iv 0, iv 3, .unset, .unset, .unset] [(.int 3)])) (fun _ k => XS.iloadN X0.here hx rfl (hb hby d7_0) rfl k) ?_
  obtain ⟨T1, h1, kc1, X1, e1, E1, A1, st1⟩ := newP X0 hx hZ (ww hw 5 rfl) e0 (g := (mkF m 1 #[rv a1, iv 0, iv 3, .unset, .unset, .unset] [(.int 3)])) rfl (hb hby d7_1) rfl (by decide) (cap := 3) (by decide) (by decide) (by decide) (by decide)
  obtain ⟨b1, g1⟩ : ∃ z, z = h0.size := ⟨_, rfl⟩
  rw [← g1] at A1 st1
  have ne_a1_b1 : a1 ≠ b1 := Nat.ne_of_lt (Nat.lt_of_lt_of_eq lt_a1 g1.symm)
  have g_b1 : n0 ≤ b1 := Nat.le_trans (O0.1 ▸ O0.2.1) (Nat.le_of_eq g1.symm)
  have O1 : Old Z n0 h1 := O0.ext E1
  have sz_b1 : h0.size ≤ b1 := Nat.le_trans K0.1 (Nat.le_of_eq g1.symm)
  have K1 : Keep h0 h1 [] := K0.ext E1
  have V_b1 : Arv Z h1 b1 kc1 .byte (3 : Int32) [(.int (0 : Int32)), (.int (0 : Int32)), (.int (0 : Int32))] (.int (0 : Int32)) := (Arv.new A1 (by decide)).pad (pad_rep [] (.int (0 : Int32)) 3)
  have lt_b1 := V_b1.lt
  refine Go.st (f' := (mkF m 3 #[rv a1, iv 0, iv 3, .unset, .unset, .unset] [(.ref b1)])) (fun _ k => st1 _ k) ?_
  refine Go.st (f' := (mkF m 4 #[rv a1, iv 0, iv 3, rv b1, .unset, .unset] [])) (fun _ k => XS.astoreN X1.here hx rfl (hb hby d7_3) rfl rfl (l' := #[rv a1, iv 0, iv 3, rv b1, .unset, .unset]) rfl k) ?_
  refine Go.st (f' := (mkF m 5 #[rv a1, iv 0, iv 3, rv b1, .unset, .unset] [(.ref a1)])) (fun _ k => XS.aloadN X1.here hx rfl (hb hby d7_4) rfl rfl k) ?_
  refine Go.st (f' := (mkF m 6 #[rv a1, iv 0, iv 3, rv b1, .unset, .unset] [(.int 0), (.ref a1)])) (fun _ k => XS.iloadN X1.here hx rfl (hb hby d7_5) rfl k) ?_
  refine Go.st (f' := (mkF m 7 #[rv a1, iv 0, iv 3, rv b1, .unset, .unset] [(.ref b1), (.int 0), (.ref a1)])) (fun _ k => XS.aloadN X1.here hx rfl (hb hby d7_6) rfl rfl k) ?_
  refine Go.st (f' := (mkF m 8 #[rv a1, iv 0, iv 3, rv b1, .unset, .unset] [(.int 0), (.ref b1), (.int 0), (.ref a1)])) (fun _ k => XS.iconst X1.here hx rfl (hb hby d7_7) k) ?_
  refine Go.st (f' := (mkF m 9 #[rv a1, iv 0, iv 3, rv b1, .unset, .unset] [(.int 3), (.int 0), (.ref b1), (.int 0), (.ref a1)])) (fun _ k => XS.iloadN X1.here hx rfl (hb hby d7_8) rfl k) ?_
  have ft3 := (V_a1.ext E1)
  obtain ⟨_, _, ⟨T2, L2, kk2, nn2⟩, -, X2, ⟨Lc2, hQ2, lq2, yq2, zz2⟩, st2⟩ := Jvm.LawKit.callS X1 hx (y := (⟨"java/lang/StringUTF16", "compress", "([CI[BII)I"⟩ : MethodName)) hown (mvT hZ (ww hw 45 rfl)) (mvT hZ (ww hw 46 rfl)) (mvT hZ (ww hw 43 rfl)) (mvT hZ (ww hw 47 rfl)) (by decide) (own_back (W := 0) (u5_3_1 l Z a0 hw [] b1 kc1 a1 k1 c0 c1 c2 h1 n0 O1 hc_c0 hc_c1 hk_c1 ne_a1_b1 g_b1 ft3 V_b1) hZ (ww hw 47 rfl) (ww hw 43 rfl) (by decide) (by decide)) (g := (mkF m 9 #[rv a1, iv 0, iv 3, rv b1, .unset, .unset] [(.int 3), (.int 0), (.ref b1), (.int 0), (.ref a1)])) rfl (by rw [hml]; rfl) (argsL := [(.ref a1), (.int (0 : Int32)), (.ref b1), (.int (0 : Int32)), (.int (3 : Int32))]) (rest := []) (lenOf pd___CI_BII_I rfl) rfl (by show 2 * 0 + _ ≤ _; exact Nat.le_of_eq rfl) (hb hby d7_9) (fun _ _ => ⟨rfl, e1, (by decide : 1 + 0 ≤ _), (by decide : 3 + 0 ≤ _)⟩)
  dsimp only [Pt.U, Pt.locs, Pt.cells, Pt.slots] at X2 lq2 yq2 zz2 st2 hQ2
  subst lq2 yq2 zz2
  obtain ⟨rfl, Nq2, kq2, vq2⟩ := hQ2
  have N2 := Fr.app N0 Nq2
  have O2 : Old Z n0 T2.heap := O1.keep kq2 (allS g_b1 all0)
  have K2 : Keep h0 T2.heap [] := K1.trans kq2 (allS (Or.inr sz_b1) all0)
  refine Go.st (f' := (mkF m 12 #[rv a1, iv 0, iv 3, rv b1, .unset, .unset] [(.int 1)])) (fun _ k => st2 _ k) ?_
  refine Go.st (f' := (mkF m 14 #[rv a1, iv 0, iv 3, rv b1, iv 1, .unset] [])) (fun _ k => XS.istore X2.here hx rfl (hb hby d7_12) rfl (l' := #[rv a1, iv 0, iv 3, rv b1, iv 1, .unset]) rfl k) ?_
  refine Go.st (f' := (mkF m 16 #[rv a1, iv 0, iv 3, rv b1, iv 1, .unset] [(.int 1)])) (fun _ k => XS.iload X2.here hx rfl (hb hby d7_14) rfl k) ?_
  refine Go.st (f' := (mkF m 17 #[rv a1, iv 0, iv 3, rv b1, iv 1, .unset] [(.int 3), (.int 1)])) (fun _ k => XS.iloadN X2.here hx rfl (hb hby d7_16) rfl k) ?_
  refine Go.st (f' := (mkF m 20 #[rv a1, iv 0, iv 3, rv b1, iv 1, .unset] [])) (fun _ k => XS.icmpNo X2.here hx rfl (hb hby d7_17) rfl (by decide) k) ?_
  refine Go.st (f' := (mkF m 21 #[rv a1, iv 0, iv 3, rv b1, iv 1, .unset] [(.ref a1)])) (fun _ k => XS.aloadN X2.here hx rfl (hb hby d7_20) rfl rfl k) ?_
  refine Go.st (f' := (mkF m 22 #[rv a1, iv 0, iv 3, rv b1, iv 1, .unset] [(.int 0), (.ref a1)])) (fun _ k => XS.iloadN X2.here hx rfl (hb hby d7_21) rfl k) ?_
  refine Go.st (f' := (mkF m 23 #[rv a1, iv 0, iv 3, rv b1, iv 1, .unset] [(.int 3), (.int 0), (.ref a1)])) (fun _ k => XS.iloadN X2.here hx rfl (hb hby d7_22) rfl k) ?_
  have ft5 := (ft3.keep kq2 (ninS ne_a1_b1 nin0))
  obtain ⟨_, _, ⟨T4, L4, kk4, nn4⟩, -, X4, ⟨Lc4, hQ4, lq4, yq4, zz4⟩, st4⟩ := Jvm.LawKit.callS X2 hx (y := (⟨"java/lang/StringUTF16", "toBytes", "([CII)[B"⟩ : MethodName)) hown (mvT hZ (ww hw 81 rfl)) (mvT hZ (ww hw 82 rfl)) (mvT hZ (ww hw 43 rfl)) (mvT hZ (ww hw 83 rfl)) (by decide) (own_back (W := 0) (ut_3 l Z a0 hw [] a1 k1 c0 c1 c2 i_COMPACT_STRINGS v_SIOOBE_FORMATTER T2.heap n0 O2 ft5 WW) hZ (ww hw 83 rfl) (ww hw 43 rfl) (by decide) (by decide)) (g := (mkF m 23 #[rv a1, iv 0, iv 3, rv b1, iv 1, .unset] [(.int 3), (.int 0), (.ref a1)])) rfl (by rw [hml]; rfl) (argsL := [(.ref a1), (.int (0 : Int32)), (.int (3 : Int32))]) (rest := []) (lenOf pd___CII__B rfl) rfl (by show 2 * 0 + _ ≤ _; exact Nat.le_of_eq rfl) (hb hby d7_23) (fun _ _ => ⟨rfl, rfl, (by decide : 1 + 1 ≤ _), (by decide : 3 + 6 ≤ _)⟩)
  dsimp only [Pt.U, Pt.locs, Pt.cells, Pt.slots] at X4 lq4 yq4 zz4 st4 hQ4
  subst lq4 yq4 zz4
  obtain ⟨b4, kb4, rfl, Nq4, zq4, kq4, vq4⟩ := hQ4
  have N4 := Fr.app N2 Nq4
  have ft6 := (Nat.lt_of_lt_of_le (Nat.lt_of_lt_of_le lt_a1 E1.1) kq2.1)
  have ne_a1_b4 : a1 ≠ b4 := Nat.ne_of_lt (Nat.lt_of_lt_of_le ft6 zq4)
  have ft7 := (Nat.lt_of_lt_of_le lt_b1 kq2.1)
  have ne_b1_b4 : b1 ≠ b4 := Nat.ne_of_lt (Nat.lt_of_lt_of_le ft7 zq4)
  have g_b4 : n0 ≤ b4 := Nat.le_trans (O2.1 ▸ O2.2.1) zq4
  have sz_b4 : h0.size ≤ b4 := Nat.le_trans K2.1 zq4
  have O4 : Old Z n0 T4.heap := O2.keep kq4 all0
  have K4 : Keep h0 T4.heap [] := K2.trans kq4 all0
  have lt_b4 := vq4.lt
  refine Go.st (f' := (mkF m 26 #[rv a1, iv 0, iv 3, rv b1, iv 1, .unset] [(.ref b4)])) (fun _ k => st4 _ k) ?_
  refine Go.st (f' := (mkF m 28 #[rv a1, iv 0, iv 3, rv b1, iv 1, rv b4] [])) (fun _ k => XS.astore X4.here hx rfl (hb hby d7_26) rfl rfl (l' := #[rv a1, iv 0, iv 3, rv b1, iv 1, rv b4]) rfl k) ?_
  refine Go.st (f' := (mkF m 30 #[rv a1, iv 0, iv 3, rv b1, iv 1, rv b4] [(.ref b4)])) (fun _ k => XS.aload X4.here hx rfl (hb hby d7_28) rfl rfl k) ?_
  refine Go.st (f' := (mkF m 32 #[rv a1, iv 0, iv 3, rv b1, iv 1, rv b4] [(.int 1), (.ref b4)])) (fun _ k => XS.iload X4.here hx rfl (hb hby d7_30) rfl k) ?_
  obtain ⟨_, _, ⟨T8, L8, kk8, nn8⟩, -, X8, ⟨Lc8, hQ8, lq8, yq8, zz8⟩, st8⟩ := Jvm.LawKit.callS X4 hx (y := (⟨"java/lang/StringUTF16", "getChar", "([BI)C"⟩ : MethodName)) hown (mvT hZ (ww hw 97 rfl)) (mvT hZ (ww hw 98 rfl)) (mvT hZ (ww hw 43 rfl)) (mvT hZ (ww hw 99 rfl)) (by decide) (own_back (W := 0) (ug_3_1 l Z a0 hw [] b4 kb4 (nar .byte ((c0 >>> ((0 : Int32) &&& 31)).toInt8.toInt32)) (nar .byte ((c0 >>> ((8 : Int32) &&& 31)).toInt8.toInt32)) (nar .byte ((c1 >>> ((0 : Int32) &&& 31)).toInt8.toInt32)) (nar .byte ((c1 >>> ((8 : Int32) &&& 31)).toInt8.toInt32)) (nar .byte ((c2 >>> ((0 : Int32) &&& 31)).toInt8.toInt32)) (nar .byte ((c2 >>> ((8 : Int32) &&& 31)).toInt8.toInt32)) i_COMPACT_STRINGS v_SIOOBE_FORMATTER T4.heap n0 O4 vq4 WW) hZ (ww hw 99 rfl) (ww hw 43 rfl) (by decide) (by decide)) (g := (mkF m 32 #[rv a1, iv 0, iv 3, rv b1, iv 1, rv b4] [(.int 1), (.ref b4)])) rfl (by rw [hml]; rfl) (argsL := [(.ref b4), (.int (1 : Int32))]) (rest := []) (lenOf pd___BI_C rfl) rfl (by show 2 * 0 + _ ≤ _; exact Nat.le_of_eq rfl) (hb hby d7_32) (fun _ _ => ⟨rfl, rfl, (by decide : 2 + 0 ≤ _), (by decide : 9 + 0 ≤ _)⟩)
  dsimp only [Pt.U, Pt.locs, Pt.cells, Pt.slots] at X8 lq8 yq8 zz8 st8 hQ8
  subst lq8 yq8 zz8
  obtain ⟨rfl, Nq8, kq8⟩ := hQ8
  have N8 := Fr.app N4 Nq8
  refine Go.st (f' := (mkF m 35 #[rv a1, iv 0, iv 3, rv b1, iv 1, rv b4] [(.int (nar .char ((((((nar .byte ((c1 >>> ((0 : Int32) &&& 31)).toInt8.toInt32)) &&& (255 : Int32)) <<< ((0 : Int32) &&& 31)) ||| (((nar .byte ((c1 >>> ((8 : Int32) &&& 31)).toInt8.toInt32)) &&& (255 : Int32)) <<< ((8 : Int32) &&& 31))).toUInt32.toUInt16.toUInt32.toInt32))))])) (fun _ k => st8 _ k) ?_
  refine Go.st (f' := (mkF m 38 #[rv a1, iv 0, iv 3, rv b1, iv 1, rv b4] [(.int 255), (.int (nar .char ((((((nar .byte ((c1 >>> ((0 : Int32) &&& 31)).toInt8.toInt32)) &&& (255 : Int32)) <<< ((0 : Int32) &&& 31)) ||| (((nar .byte ((c1 >>> ((8 : Int32) &&& 31)).toInt8.toInt32)) &&& (255 : Int32)) <<< ((8 : Int32) &&& 31))).toUInt32.toUInt16.toUInt32.toInt32))))])) (fun _ k => XS.sipush X8.here hx rfl (hb hby d7_35) k) ?_
  refine Go.st (f' := (mkF m 54 #[rv a1, iv 0, iv 3, rv b1, iv 1, rv b4] [])) (fun _ k => XS.icmpYes X8.here hx rfl (pc0 := 38) (pc' := 54) rfl (hb hby d7_38) rfl (tlt (own_gt hk_c1 hc_c1)).2.2.1 (by decide) (by decide) k) ?_
  refine Go.st (f' := (mkF m 56 #[rv a1, iv 0, iv 3, rv b1, iv 1, rv b4] [(.ref b4)])) (fun _ k => XS.aload X8.here hx rfl (hb hby d7_54) rfl rfl k) ?_
  refine Go.retV X8 hlk hx (t := (.array .byte)) hret rfl (Or.inr (Or.inr (Or.inr (Or.inr ⟨rfl, rfl, rfl⟩)))) (hb hby d7_56) kq8 ?_ (by decide) (by decide)
  exact ⟨b4, kb4, rfl, N8, sz_b4, K4, vq4⟩
set_option maxRecDepth 65536 in
set_option maxHeartbeats 40000000 in
theorem u3_3_2 (l : Launch) (Z : State) (a0 : Array Value) (hw : ∀ d ∈ tables_1, d.before a0 Z = true) (ws : List Jvm.Cond) (a1 : Addr) (k1 : ClassId) (c0 : Int32) (c1 : Int32) (c2 : Int32) (i_COMPACT_STRINGS : Int32) (v_SIOOBE_FORMATTER : Value) (h0 : Heap) (n0 : Nat) (O0 : Old Z n0 h0) (hc_c0 : ¬ (255 : Int32) < c0) (hc_c1 : ¬ (255 : Int32) < c1) (hc_c2 : (255 : Int32) < c2) (hk_c2 : 0 ≤ c2.toInt ∧ c2.toInt < 65536) (V_a1 : Arv Z h0 a1 k1 .char (3 : Int32) [(.int c0), (.int c1), (.int c2)] (.int 0)) (WW : World1 Z i_COMPACT_STRINGS v_SIOOBE_FORMATTER) :
    Con l Z (⟨"java/lang/StringUTF16", "compress", "([CII)[B"⟩ : MethodName) jdk_52_method_16_code 6 (some (.array .byte)) ws ({ frames := 3, cells := 2, slots := 9, locals := 40 } : Room) #[(.ref a1), (.int 0), (.int 3)] h0 (fun v h L => ∃ (b : Addr) (kb : ClassId), v = some (.ref b) ∧ Fr n0 L ∧ h0.size ≤ b ∧ Keep h0 h [] ∧ Arv Z h b kb .byte (6 : Int32) [(.int (nar .byte ((c0 >>> ((0 : Int32) &&& 31)).toInt8.toInt32))), (.int (nar .byte ((c0 >>> ((8 : Int32) &&& 31)).toInt8.toInt32))), (.int (nar .byte ((c1 >>> ((0 : Int32) &&& 31)).toInt8.toInt32))), (.int (nar .byte ((c1 >>> ((8 : Int32) &&& 31)).toInt8.toInt32))), (.int (nar .byte ((c2 >>> ((0 : Int32) &&& 31)).toInt8.toInt32))), (.int (nar .byte ((c2 >>> ((8 : Int32) &&& 31)).toInt8.toInt32)))] (.int 0)) := by
  refine own_body (plainFor_of_name pn_java_lang_StringUTF16) ?_
  intro p e s m below meth c s₁ hx hby hml hZ hown hnm hlk hret X0 e0
  have N0 := Fr.nil n0
  have K0 : Keep h0 h0 [] := Keep.refl _ _
  refine Go.st (T' := s₁) (f' := (mkF m 0 #[rv a1, iv 0, iv 3, .unset, .unset, .unset] [])) (fun _ k => castTop (by first | (simp [entryFrame, mkF, argsToLocals, Value.category]; done) | rfl) k) ?_
  have ⟨S_i_COMPACT_STRINGS, nz_i_COMPACT_STRINGS, S_v_SIOOBE_FORMATTER, r_v_SIOOBE_FORMATTER, S_i__assertionsDisabled, S_i_HI_BYTE_SHIFT, S_i_LO_BYTE_SHIFT⟩ := WW
  have lt_a1 := V_a1.lt
  refine Go.st (f' := (mkF m 1 #[rv a1, iv 0, iv 3, .unset, .unset, .unset] [(.int 3)])) (fun _ k => XS.iloadN X0.here hx rfl (hb hby d7_0) rfl k) ?_
  obtain ⟨T1, h1, kc1, X1, e1, E1, A1, st1⟩ := newP X0 hx hZ (ww hw 5 rfl) e0 (g := (mkF m 1 #[rv a1, iv 0, iv 3, .unset, .unset, .unset] [(.int 3)])) rfl (hb hby d7_1) rfl (by decide) (cap := 3) (by decide) (by decide) (by decide) (by decide)
  obtain ⟨b1, g1⟩ : ∃ z, z = h0.size := ⟨_, rfl⟩
  rw [← g1] at A1 st1
  have ne_a1_b1 : a1 ≠ b1 := Nat.ne_of_lt (Nat.lt_of_lt_of_eq lt_a1 g1.symm)
  have g_b1 : n0 ≤ b1 := Nat.le_trans (O0.1 ▸ O0.2.1) (Nat.le_of_eq g1.symm)
  have O1 : Old Z n0 h1 := O0.ext E1
  have sz_b1 : h0.size ≤ b1 := Nat.le_trans K0.1 (Nat.le_of_eq g1.symm)
  have K1 : Keep h0 h1 [] := K0.ext E1
  have V_b1 : Arv Z h1 b1 kc1 .byte (3 : Int32) [(.int (0 : Int32)), (.int (0 : Int32)), (.int (0 : Int32))] (.int (0 : Int32)) := (Arv.new A1 (by decide)).pad (pad_rep [] (.int (0 : Int32)) 3)
  have lt_b1 := V_b1.lt
  refine Go.st (f' := (mkF m 3 #[rv a1, iv 0, iv 3, .unset, .unset, .unset] [(.ref b1)])) (fun _ k => st1 _ k) ?_
  refine Go.st (f' := (mkF m 4 #[rv a1, iv 0, iv 3, rv b1, .unset, .unset] [])) (fun _ k => XS.astoreN X1.here hx rfl (hb hby d7_3) rfl rfl (l' := #[rv a1, iv 0, iv 3, rv b1, .unset, .unset]) rfl k) ?_
  refine Go.st (f' := (mkF m 5 #[rv a1, iv 0, iv 3, rv b1, .unset, .unset] [(.ref a1)])) (fun _ k => XS.aloadN X1.here hx rfl (hb hby d7_4) rfl rfl k) ?_
  refine Go.st (f' := (mkF m 6 #[rv a1, iv 0, iv 3, rv b1, .unset, .unset] [(.int 0), (.ref a1)])) (fun _ k => XS.iloadN X1.here hx rfl (hb hby d7_5) rfl k) ?_
  refine Go.st (f' := (mkF m 7 #[rv a1, iv 0, iv 3, rv b1, .unset, .unset] [(.ref b1), (.int 0), (.ref a1)])) (fun _ k => XS.aloadN X1.here hx rfl (hb hby d7_6) rfl rfl k) ?_
  refine Go.st (f' := (mkF m 8 #[rv a1, iv 0, iv 3, rv b1, .unset, .unset] [(.int 0), (.ref b1), (.int 0), (.ref a1)])) (fun _ k => XS.iconst X1.here hx rfl (hb hby d7_7) k) ?_
  refine Go.st (f' := (mkF m 9 #[rv a1, iv 0, iv 3, rv b1, .unset, .unset] [(.int 3), (.int 0), (.ref b1), (.int 0), (.ref a1)])) (fun _ k => XS.iloadN X1.here hx rfl (hb hby d7_8) rfl k) ?_
  have ft3 := (V_a1.ext E1)
  obtain ⟨_, _, ⟨T2, L2, kk2, nn2⟩, -, X2, ⟨Lc2, hQ2, lq2, yq2, zz2⟩, st2⟩ := Jvm.LawKit.callS X1 hx (y := (⟨"java/lang/StringUTF16", "compress", "([CI[BII)I"⟩ : MethodName)) hown (mvT hZ (ww hw 45 rfl)) (mvT hZ (ww hw 46 rfl)) (mvT hZ (ww hw 43 rfl)) (mvT hZ (ww hw 47 rfl)) (by decide) (own_back (W := 0) (u5_3_2 l Z a0 hw [] b1 kc1 a1 k1 c0 c1 c2 h1 n0 O1 hc_c0 hc_c1 hc_c2 hk_c2 ne_a1_b1 g_b1 ft3 V_b1) hZ (ww hw 47 rfl) (ww hw 43 rfl) (by decide) (by decide)) (g := (mkF m 9 #[rv a1, iv 0, iv 3, rv b1, .unset, .unset] [(.int 3), (.int 0), (.ref b1), (.int 0), (.ref a1)])) rfl (by rw [hml]; rfl) (argsL := [(.ref a1), (.int (0 : Int32)), (.ref b1), (.int (0 : Int32)), (.int (3 : Int32))]) (rest := []) (lenOf pd___CI_BII_I rfl) rfl (by show 2 * 0 + _ ≤ _; exact Nat.le_of_eq rfl) (hb hby d7_9) (fun _ _ => ⟨rfl, e1, (by decide : 1 + 0 ≤ _), (by decide : 3 + 0 ≤ _)⟩)
  dsimp only [Pt.U, Pt.locs, Pt.cells, Pt.slots] at X2 lq2 yq2 zz2 st2 hQ2
  subst lq2 yq2 zz2
  obtain ⟨rfl, Nq2, kq2, vq2⟩ := hQ2
  have N2 := Fr.app N0 Nq2
  have O2 : Old Z n0 T2.heap := O1.keep kq2 (allS g_b1 all0)
  have K2 : Keep h0 T2.heap [] := K1.trans kq2 (allS (Or.inr sz_b1) all0)
  refine Go.st (f' := (mkF m 12 #[rv a1, iv 0, iv 3, rv b1, .unset, .unset] [(.int 2)])) (fun _ k => st2 _ k) ?_
  refine Go.st (f' := (mkF m 14 #[rv a1, iv 0, iv 3, rv b1, iv 2, .unset] [])) (fun _ k => XS.istore X2.here hx rfl (hb hby d7_12) rfl (l' := #[rv a1, iv 0, iv 3, rv b1, iv 2, .unset]) rfl k) ?_
  refine Go.st (f' := (mkF m 16 #[rv a1, iv 0, iv 3, rv b1, iv 2, .unset] [(.int 2)])) (fun _ k => XS.iload X2.here hx rfl (hb hby d7_14) rfl k) ?_
  refine Go.st (f' := (mkF m 17 #[rv a1, iv 0, iv 3, rv b1, iv 2, .unset] [(.int 3), (.int 2)])) (fun _ k => XS.iloadN X2.here hx rfl (hb hby d7_16) rfl k) ?_
  refine Go.st (f' := (mkF m 20 #[rv a1, iv 0, iv 3, rv b1, iv 2, .unset] [])) (fun _ k => XS.icmpNo X2.here hx rfl (hb hby d7_17) rfl (by decide) k) ?_
  refine Go.st (f' := (mkF m 21 #[rv a1, iv 0, iv 3, rv b1, iv 2, .unset] [(.ref a1)])) (fun _ k => XS.aloadN X2.here hx rfl (hb hby d7_20) rfl rfl k) ?_
  refine Go.st (f' := (mkF m 22 #[rv a1, iv 0, iv 3, rv b1, iv 2, .unset] [(.int 0), (.ref a1)])) (fun _ k => XS.iloadN X2.here hx rfl (hb hby d7_21) rfl k) ?_
  refine Go.st (f' := (mkF m 23 #[rv a1, iv 0, iv 3, rv b1, iv 2, .unset] [(.int 3), (.int 0), (.ref a1)])) (fun _ k => XS.iloadN X2.here hx rfl (hb hby d7_22) rfl k) ?_
  have ft5 := (ft3.keep kq2 (ninS ne_a1_b1 nin0))
  obtain ⟨_, _, ⟨T4, L4, kk4, nn4⟩, -, X4, ⟨Lc4, hQ4, lq4, yq4, zz4⟩, st4⟩ := Jvm.LawKit.callS X2 hx (y := (⟨"java/lang/StringUTF16", "toBytes", "([CII)[B"⟩ : MethodName)) hown (mvT hZ (ww hw 81 rfl)) (mvT hZ (ww hw 82 rfl)) (mvT hZ (ww hw 43 rfl)) (mvT hZ (ww hw 83 rfl)) (by decide) (own_back (W := 0) (ut_3 l Z a0 hw [] a1 k1 c0 c1 c2 i_COMPACT_STRINGS v_SIOOBE_FORMATTER T2.heap n0 O2 ft5 WW) hZ (ww hw 83 rfl) (ww hw 43 rfl) (by decide) (by decide)) (g := (mkF m 23 #[rv a1, iv 0, iv 3, rv b1, iv 2, .unset] [(.int 3), (.int 0), (.ref a1)])) rfl (by rw [hml]; rfl) (argsL := [(.ref a1), (.int (0 : Int32)), (.int (3 : Int32))]) (rest := []) (lenOf pd___CII__B rfl) rfl (by show 2 * 0 + _ ≤ _; exact Nat.le_of_eq rfl) (hb hby d7_23) (fun _ _ => ⟨rfl, rfl, (by decide : 1 + 1 ≤ _), (by decide : 3 + 6 ≤ _)⟩)
  dsimp only [Pt.U, Pt.locs, Pt.cells, Pt.slots] at X4 lq4 yq4 zz4 st4 hQ4
  subst lq4 yq4 zz4
  obtain ⟨b4, kb4, rfl, Nq4, zq4, kq4, vq4⟩ := hQ4
  have N4 := Fr.app N2 Nq4
  have ft6 := (Nat.lt_of_lt_of_le (Nat.lt_of_lt_of_le lt_a1 E1.1) kq2.1)
  have ne_a1_b4 : a1 ≠ b4 := Nat.ne_of_lt (Nat.lt_of_lt_of_le ft6 zq4)
  have ft7 := (Nat.lt_of_lt_of_le lt_b1 kq2.1)
  have ne_b1_b4 : b1 ≠ b4 := Nat.ne_of_lt (Nat.lt_of_lt_of_le ft7 zq4)
  have g_b4 : n0 ≤ b4 := Nat.le_trans (O2.1 ▸ O2.2.1) zq4
  have sz_b4 : h0.size ≤ b4 := Nat.le_trans K2.1 zq4
  have O4 : Old Z n0 T4.heap := O2.keep kq4 all0
  have K4 : Keep h0 T4.heap [] := K2.trans kq4 all0
  have lt_b4 := vq4.lt
  refine Go.st (f' := (mkF m 26 #[rv a1, iv 0, iv 3, rv b1, iv 2, .unset] [(.ref b4)])) (fun _ k => st4 _ k) ?_
  refine Go.st (f' := (mkF m 28 #[rv a1, iv 0, iv 3, rv b1, iv 2, rv b4] [])) (fun _ k => XS.astore X4.here hx rfl (hb hby d7_26) rfl rfl (l' := #[rv a1, iv 0, iv 3, rv b1, iv 2, rv b4]) rfl k) ?_
  refine Go.st (f' := (mkF m 30 #[rv a1, iv 0, iv 3, rv b1, iv 2, rv b4] [(.ref b4)])) (fun _ k => XS.aload X4.here hx rfl (hb hby d7_28) rfl rfl k) ?_
  refine Go.st (f' := (mkF m 32 #[rv a1, iv 0, iv 3, rv b1, iv 2, rv b4] [(.int 2), (.ref b4)])) (fun _ k => XS.iload X4.here hx rfl (hb hby d7_30) rfl k) ?_
  obtain ⟨_, _, ⟨T8, L8, kk8, nn8⟩, -, X8, ⟨Lc8, hQ8, lq8, yq8, zz8⟩, st8⟩ := Jvm.LawKit.callS X4 hx (y := (⟨"java/lang/StringUTF16", "getChar", "([BI)C"⟩ : MethodName)) hown (mvT hZ (ww hw 97 rfl)) (mvT hZ (ww hw 98 rfl)) (mvT hZ (ww hw 43 rfl)) (mvT hZ (ww hw 99 rfl)) (by decide) (own_back (W := 0) (ug_3_2 l Z a0 hw [] b4 kb4 (nar .byte ((c0 >>> ((0 : Int32) &&& 31)).toInt8.toInt32)) (nar .byte ((c0 >>> ((8 : Int32) &&& 31)).toInt8.toInt32)) (nar .byte ((c1 >>> ((0 : Int32) &&& 31)).toInt8.toInt32)) (nar .byte ((c1 >>> ((8 : Int32) &&& 31)).toInt8.toInt32)) (nar .byte ((c2 >>> ((0 : Int32) &&& 31)).toInt8.toInt32)) (nar .byte ((c2 >>> ((8 : Int32) &&& 31)).toInt8.toInt32)) i_COMPACT_STRINGS v_SIOOBE_FORMATTER T4.heap n0 O4 vq4 WW) hZ (ww hw 99 rfl) (ww hw 43 rfl) (by decide) (by decide)) (g := (mkF m 32 #[rv a1, iv 0, iv 3, rv b1, iv 2, rv b4] [(.int 2), (.ref b4)])) rfl (by rw [hml]; rfl) (argsL := [(.ref b4), (.int (2 : Int32))]) (rest := []) (lenOf pd___BI_C rfl) rfl (by show 2 * 0 + _ ≤ _; exact Nat.le_of_eq rfl) (hb hby d7_32) (fun _ _ => ⟨rfl, rfl, (by decide : 2 + 0 ≤ _), (by decide : 9 + 0 ≤ _)⟩)
  dsimp only [Pt.U, Pt.locs, Pt.cells, Pt.slots] at X8 lq8 yq8 zz8 st8 hQ8
  subst lq8 yq8 zz8
  obtain ⟨rfl, Nq8, kq8⟩ := hQ8
  have N8 := Fr.app N4 Nq8
  refine Go.st (f' := (mkF m 35 #[rv a1, iv 0, iv 3, rv b1, iv 2, rv b4] [(.int (nar .char ((((((nar .byte ((c2 >>> ((0 : Int32) &&& 31)).toInt8.toInt32)) &&& (255 : Int32)) <<< ((0 : Int32) &&& 31)) ||| (((nar .byte ((c2 >>> ((8 : Int32) &&& 31)).toInt8.toInt32)) &&& (255 : Int32)) <<< ((8 : Int32) &&& 31))).toUInt32.toUInt16.toUInt32.toInt32))))])) (fun _ k => st8 _ k) ?_
  refine Go.st (f' := (mkF m 38 #[rv a1, iv 0, iv 3, rv b1, iv 2, rv b4] [(.int 255), (.int (nar .char ((((((nar .byte ((c2 >>> ((0 : Int32) &&& 31)).toInt8.toInt32)) &&& (255 : Int32)) <<< ((0 : Int32) &&& 31)) ||| (((nar .byte ((c2 >>> ((8 : Int32) &&& 31)).toInt8.toInt32)) &&& (255 : Int32)) <<< ((8 : Int32) &&& 31))).toUInt32.toUInt16.toUInt32.toInt32))))])) (fun _ k => XS.sipush X8.here hx rfl (hb hby d7_35) k) ?_
  refine Go.st (f' := (mkF m 54 #[rv a1, iv 0, iv 3, rv b1, iv 2, rv b4] [])) (fun _ k => XS.icmpYes X8.here hx rfl (pc0 := 38) (pc' := 54) rfl (hb hby d7_38) rfl (tlt (own_gt hk_c2 hc_c2)).2.2.1 (by decide) (by decide) k) ?_
  refine Go.st (f' := (mkF m 56 #[rv a1, iv 0, iv 3, rv b1, iv 2, rv b4] [(.ref b4)])) (fun _ k => XS.aload X8.here hx rfl (hb hby d7_54) rfl rfl k) ?_
  refine Go.retV X8 hlk hx (t := (.array .byte)) hret rfl (Or.inr (Or.inr (Or.inr (Or.inr ⟨rfl, rfl, rfl⟩)))) (hb hby d7_56) kq8 ?_ (by decide) (by decide)
  exact ⟨b4, kb4, rfl, N8, sz_b4, K4, vq4⟩
theorem u3_3_u (l : Launch) (Z : State) (a0 : Array Value) (hw : ∀ d ∈ tables_1, d.before a0 Z = true) (ws : List Jvm.Cond) (a1 : Addr) (k1 : ClassId) (c0 : Int32) (c1 : Int32) (c2 : Int32) (i_COMPACT_STRINGS : Int32) (v_SIOOBE_FORMATTER : Value) (h0 : Heap) (n0 : Nat) (O0 : Old Z n0 h0) (hu : (255 : Int32) < c0 ∨ (255 : Int32) < c1 ∨ (255 : Int32) < c2) (hk_c0 : 0 ≤ c0.toInt ∧ c0.toInt < 65536) (hk_c1 : 0 ≤ c1.toInt ∧ c1.toInt < 65536) (hk_c2 : 0 ≤ c2.toInt ∧ c2.toInt < 65536) (V_a1 : Arv Z h0 a1 k1 .char (3 : Int32) [(.int c0), (.int c1), (.int c2)] (.int 0)) (WW : World1 Z i_COMPACT_STRINGS v_SIOOBE_FORMATTER) :
    Con l Z (⟨"java/lang/StringUTF16", "compress", "([CII)[B"⟩ : MethodName) jdk_52_method_16_code 6 (some (.array .byte)) ws ({ frames := 3, cells := 2, slots := 9, locals := 40 } : Room) #[(.ref a1), (.int 0), (.int 3)] h0 (fun v h L => ∃ (b : Addr) (kb : ClassId), v = some (.ref b) ∧ Fr n0 L ∧ h0.size ≤ b ∧ Keep h0 h [] ∧ Arv Z h b kb .byte (6 : Int32) [(.int (nar .byte ((c0 >>> ((0 : Int32) &&& 31)).toInt8.toInt32))), (.int (nar .byte ((c0 >>> ((8 : Int32) &&& 31)).toInt8.toInt32))), (.int (nar .byte ((c1 >>> ((0 : Int32) &&& 31)).toInt8.toInt32))), (.int (nar .byte ((c1 >>> ((8 : Int32) &&& 31)).toInt8.toInt32))), (.int (nar .byte ((c2 >>> ((0 : Int32) &&& 31)).toInt8.toInt32))), (.int (nar .byte ((c2 >>> ((8 : Int32) &&& 31)).toInt8.toInt32)))] (.int 0)) := by
  by_cases q0 : (255 : Int32) < c0
  · exact u3_3_0 l Z a0 hw ws a1 k1 c0 c1 c2 i_COMPACT_STRINGS v_SIOOBE_FORMATTER h0 n0 O0  q0 hk_c0 V_a1 WW
  by_cases q1 : (255 : Int32) < c1
  · exact u3_3_1 l Z a0 hw ws a1 k1 c0 c1 c2 i_COMPACT_STRINGS v_SIOOBE_FORMATTER h0 n0 O0 q0 q1 hk_c1 V_a1 WW
  by_cases q2 : (255 : Int32) < c2
  · exact u3_3_2 l Z a0 hw ws a1 k1 c0 c1 c2 i_COMPACT_STRINGS v_SIOOBE_FORMATTER h0 n0 O0 q0 q1 q2 hk_c2 V_a1 WW
  exact (fun z => z.elim (fun y => absurd y q0) (fun z => z.elim (fun y => absurd y q1) (fun z => absurd z q2))) hu
set_option maxRecDepth 65536 in
set_option maxHeartbeats 40000000 in
theorem uv_3_u (l : Launch) (Z : State) (a0 : Array Value) (hw : ∀ d ∈ tables_1, d.before a0 Z = true) (ws : List Jvm.Cond) (a0b : Addr) (a1 : Addr) (k1 : ClassId) (c0 : Int32) (c1 : Int32) (c2 : Int32) (i_COMPACT_STRINGS : Int32) (v_SIOOBE_FORMATTER : Value) (h0 : Heap) (n0 : Nat) (O0 : Old Z n0 h0) (hu : (255 : Int32) < c0 ∨ (255 : Int32) < c1 ∨ (255 : Int32) < c2) (hk_c0 : 0 ≤ c0.toInt ∧ c0.toInt < 65536) (hk_c1 : 0 ≤ c1.toInt ∧ c1.toInt < 65536) (hk_c2 : 0 ≤ c2.toInt ∧ c2.toInt < 65536) (g_a0b : n0 ≤ a0b) (nb1 : a0b ≠ a1) (E_a0b : Exa Z h0 a0b "java/lang/String") (F_a0b_coder : Fld Z h0 a0b "java/lang/String" "coder" "B" (.int 0)) (F_a0b_value : Fld Z h0 a0b "java/lang/String" "value" "[B" .null) (V_a1 : Arv Z h0 a1 k1 .char (3 : Int32) [(.int c0), (.int c1), (.int c2)] (.int 0)) (WW : World1 Z i_COMPACT_STRINGS v_SIOOBE_FORMATTER) :
    Con l Z (⟨"java/lang/String", "<init>", "([CIILjava/lang/Void;)V"⟩ : MethodName) jdk_42_method_149_code 6 none ws ({ frames := 4, cells := 2, slots := 9, locals := 57 } : Room) #[(.ref a0b), (.ref a1), (.int 0), (.int 3), .null] h0 (fun v h L => v = none ∧ Fr n0 L ∧ Keep h0 h [a0b] ∧ Exa Z h a0b "java/lang/String" ∧ Fld Z h a0b "java/lang/String" "coder" "B" (.int 1) ∧ ∃ (t : Addr) (kt : ClassId), h0.size ≤ t ∧ Fld Z h a0b "java/lang/String" "value" "[B" (.ref t) ∧ Arv Z h t kt .byte (6 : Int32) [(.int (nar .byte ((c0 >>> ((0 : Int32) &&& 31)).toInt8.toInt32))), (.int (nar .byte ((c0 >>> ((8 : Int32) &&& 31)).toInt8.toInt32))), (.int (nar .byte ((c1 >>> ((0 : Int32) &&& 31)).toInt8.toInt32))), (.int (nar .byte ((c1 >>> ((8 : Int32) &&& 31)).toInt8.toInt32))), (.int (nar .byte ((c2 >>> ((0 : Int32) &&& 31)).toInt8.toInt32))), (.int (nar .byte ((c2 >>> ((8 : Int32) &&& 31)).toInt8.toInt32)))] (.int 0)) := by
  refine own_body (plainFor_of_name pn_java_lang_String) ?_
  intro p e s m below meth c s₁ hx hby hml hZ hown hnm hlk hret X0 e0
  have N0 := Fr.nil n0
  have K0 : Keep h0 h0 [a0b] := Keep.refl _ _
  refine Go.st (T' := s₁) (f' := (mkF m 0 #[rv a0b, rv a1, iv 0, iv 3, .val .null, .unset] [])) (fun _ k => castTop (by first | (simp [entryFrame, mkF, argsToLocals, Value.category]; done) | rfl) k) ?_
  have ⟨S_i_COMPACT_STRINGS, nz_i_COMPACT_STRINGS, S_v_SIOOBE_FORMATTER, r_v_SIOOBE_FORMATTER, S_i__assertionsDisabled, S_i_HI_BYTE_SHIFT, S_i_LO_BYTE_SHIFT⟩ := WW
  have lt_a0b := E_a0b.lt
  have lt_a1 := V_a1.lt
  refine Go.st (f' := (mkF m 1 #[rv a0b, rv a1, iv 0, iv 3, .val .null, .unset] [(.ref a0b)])) (fun _ k => XS.aloadN X0.here hx rfl (hb hby d2_0) rfl rfl k) ?_
  obtain ⟨T1, X1, e1, st1⟩ := initO X0 hx hZ hown (ww hw 20 rfl) (ww hw 21 rfl) (ww hw 22 rfl) e0 (g := (mkF m 1 #[rv a0b, rv a1, iv 0, iv 3, .val .null, .unset] [(.ref a0b)])) rfl (by rw [hml]; rfl) rfl (hb hby d2_1) (by decide) (W := 0) (by show 2 * 0 + _ ≤ _; exact Nat.le_of_eq rfl) (by decide)
  refine Go.st (f' := (mkF m 4 #[rv a0b, rv a1, iv 0, iv 3, .val .null, .unset] [])) (fun _ k => st1 _ k) ?_
  refine Go.st (f' := (mkF m 5 #[rv a0b, rv a1, iv 0, iv 3, .val .null, .unset] [(.int 3)])) (fun _ k => XS.iloadN X1.here hx rfl (hb hby d2_4) rfl k) ?_
  refine Go.st (f' := (mkF m 27 #[rv a0b, rv a1, iv 0, iv 3, .val .null, .unset] [])) (fun _ k => XS.ifYes X1.here hx rfl (pc0 := 5) (pc' := 27) rfl (hb hby d2_5) rfl (by decide) (by decide) (by decide) k) ?_
  obtain ⟨T2, X2, e2, st2⟩ := getS2 X1 hx hZ hown (host := "") (Or.inl (ww hw 40 rfl)) Via.refl e1 (S_i_COMPACT_STRINGS.ext O0.2) (g := (mkF m 27 #[rv a0b, rv a1, iv 0, iv 3, .val .null, .unset] [])) rfl (hb hby d2_27)
  refine Go.st (f' := (mkF m 30 #[rv a0b, rv a1, iv 0, iv 3, .val .null, .unset] [(.int i_COMPACT_STRINGS)])) (fun _ k => st2 _ k) ?_
  refine Go.st (f' := (mkF m 33 #[rv a0b, rv a1, iv 0, iv 3, .val .null, .unset] [])) (fun _ k => XS.ifNo X2.here hx rfl (hb hby d2_30) rfl ((if0 _ _).trans (feq nz_i_COMPACT_STRINGS).1) k) ?_
  refine Go.st (f' := (mkF m 34 #[rv a0b, rv a1, iv 0, iv 3, .val .null, .unset] [(.ref a1)])) (fun _ k => XS.aloadN X2.here hx rfl (hb hby d2_33) rfl rfl k) ?_
  refine Go.st (f' := (mkF m 35 #[rv a0b, rv a1, iv 0, iv 3, .val .null, .unset] [(.int 0), (.ref a1)])) (fun _ k => XS.iloadN X2.here hx rfl (hb hby d2_34) rfl k) ?_
  refine Go.st (f' := (mkF m 36 #[rv a0b, rv a1, iv 0, iv 3, .val .null, .unset] [(.int 3), (.int 0), (.ref a1)])) (fun _ k => XS.iloadN X2.here hx rfl (hb hby d2_35) rfl k) ?_
  obtain ⟨_, _, ⟨T3, L3, kk3, nn3⟩, -, X3, ⟨Lc3, hQ3, lq3, yq3, zz3⟩, st3⟩ := Jvm.LawKit.callS X2 hx (y := (⟨"java/lang/StringUTF16", "compress", "([CII)[B"⟩ : MethodName)) hown (mvT hZ (ww hw 41 rfl)) (mvT hZ (ww hw 42 rfl)) (mvT hZ (ww hw 43 rfl)) (mvT hZ (ww hw 44 rfl)) (by decide) (own_back (W := 0) (u3_3_u l Z a0 hw [] a1 k1 c0 c1 c2 i_COMPACT_STRINGS v_SIOOBE_FORMATTER h0 n0 O0 hu hk_c0 hk_c1 hk_c2 V_a1 WW) hZ (ww hw 44 rfl) (ww hw 43 rfl) (by decide) (by decide)) (g := (mkF m 36 #[rv a0b, rv a1, iv 0, iv 3, .val .null, .unset] [(.int 3), (.int 0), (.ref a1)])) rfl (by rw [hml]; rfl) (argsL := [(.ref a1), (.int (0 : Int32)), (.int (3 : Int32))]) (rest := []) (lenOf pd___CII__B rfl) rfl (by show 2 * 0 + _ ≤ _; exact Nat.le_of_eq rfl) (hb hby d2_36) (fun _ _ => ⟨rfl, e2, (by decide : 0 + 2 ≤ _), (by decide : 0 + 9 ≤ _)⟩)
  dsimp only [Pt.U, Pt.locs, Pt.cells, Pt.slots] at X3 lq3 yq3 zz3 st3 hQ3
  subst lq3 yq3 zz3
  obtain ⟨b3, kb3, rfl, Nq3, zq3, kq3, vq3⟩ := hQ3
  have N3 := Fr.app N0 Nq3
  have ne_a0b_b3 : a0b ≠ b3 := Nat.ne_of_lt (Nat.lt_of_lt_of_le lt_a0b zq3)
  have ne_a1_b3 : a1 ≠ b3 := Nat.ne_of_lt (Nat.lt_of_lt_of_le lt_a1 zq3)
  have g_b3 : n0 ≤ b3 := Nat.le_trans (O0.1 ▸ O0.2.1) zq3
  have sz_b3 : h0.size ≤ b3 := Nat.le_trans K0.1 zq3
  have O3 : Old Z n0 T3.heap := O0.keep kq3 all0
  have K3 : Keep h0 T3.heap [a0b] := K0.trans kq3 all0
  have lt_b3 := vq3.lt
  refine Go.st (f' := (mkF m 39 #[rv a0b, rv a1, iv 0, iv 3, .val .null, .unset] [(.ref b3)])) (fun _ k => st3 _ k) ?_
  refine Go.st (f' := (mkF m 41 #[rv a0b, rv a1, iv 0, iv 3, .val .null, rv b3] [])) (fun _ k => XS.astore X3.here hx rfl (hb hby d2_39) rfl rfl (l' := #[rv a0b, rv a1, iv 0, iv 3, .val .null, rv b3]) rfl k) ?_
  refine Go.st (f' := (mkF m 42 #[rv a0b, rv a1, iv 0, iv 3, .val .null, rv b3] [(.ref a0b)])) (fun _ k => XS.aloadN X3.here hx rfl (hb hby d2_41) rfl rfl k) ?_
  refine Go.st (f' := (mkF m 44 #[rv a0b, rv a1, iv 0, iv 3, .val .null, rv b3] [(.ref b3), (.ref a0b)])) (fun _ k => XS.aload X3.here hx rfl (hb hby d2_42) rfl rfl k) ?_
  refine Go.st (f' := (mkF m 45 #[rv a0b, rv a1, iv 0, iv 3, .val .null, rv b3] [(.int 3), (.ref b3), (.ref a0b)])) (fun _ k => XS.iloadN X3.here hx rfl (hb hby d2_44) rfl k) ?_
  obtain ⟨_, _, ⟨T4, L4, kk4, nn4⟩, -, X4, ⟨Lc4, hQ4, lq4, yq4, zz4⟩, st4⟩ := Jvm.LawKit.callS X3 hx (y := (⟨"java/lang/StringUTF16", "coderFromArrayLen", "([BI)B"⟩ : MethodName)) hown (mvT hZ (ww hw 48 rfl)) (mvT hZ (ww hw 49 rfl)) (mvT hZ (ww hw 43 rfl)) (mvT hZ (ww hw 50 rfl)) (by decide) (own_back (W := 1) (uc_3_6 l Z a0 hw [] b3 kb3 (nar .byte ((c0 >>> ((0 : Int32) &&& 31)).toInt8.toInt32)) (nar .byte ((c0 >>> ((8 : Int32) &&& 31)).toInt8.toInt32)) (nar .byte ((c1 >>> ((0 : Int32) &&& 31)).toInt8.toInt32)) (nar .byte ((c1 >>> ((8 : Int32) &&& 31)).toInt8.toInt32)) (nar .byte ((c2 >>> ((0 : Int32) &&& 31)).toInt8.toInt32)) (nar .byte ((c2 >>> ((8 : Int32) &&& 31)).toInt8.toInt32)) T3.heap n0 O3 vq3) hZ (ww hw 50 rfl) (ww hw 43 rfl) (by decide) (by decide)) (g := (mkF m 45 #[rv a0b, rv a1, iv 0, iv 3, .val .null, rv b3] [(.int 3), (.ref b3), (.ref a0b)])) rfl (by rw [hml]; rfl) (argsL := [(.ref b3), (.int (3 : Int32))]) (rest := [(.ref a0b)]) (lenOf pd___BI_B rfl) rfl (by show 2 * 0 + _ ≤ _; exact Nat.le_of_eq rfl) (hb hby d2_45) (fun _ _ => ⟨rfl, rfl, (by decide : 2 + 0 ≤ _), (by decide : 9 + 0 ≤ _)⟩)
  dsimp only [Pt.U, Pt.locs, Pt.cells, Pt.slots] at X4 lq4 yq4 zz4 st4 hQ4
  subst lq4 yq4 zz4
  obtain ⟨rfl, Nq4, kq4⟩ := hQ4
  have N4 := Fr.app N3 Nq4
  refine Go.st (f' := (mkF m 48 #[rv a0b, rv a1, iv 0, iv 3, .val .null, rv b3] [(.int 1), (.ref a0b)])) (fun _ k => st4 _ k) ?_
  have ft5 := (E_a0b.keep kq3)
  have ft6 := (F_a0b_coder.keep kq3 nin0)
  obtain ⟨T7, h7, X7, e7, W7, st7⟩ := putFN X4 hx hZ hown (ww hw 25 rfl) Via.refl kq4 ft6 ft5 (Or.inr ⟨(ww hw 7 rfl), rfl, hnm⟩) (ww hw 4 rfl) (ty := .byte) (v' := (.int (1 : Int32))) (by decide) rfl (by decide) (g := (mkF m 48 #[rv a0b, rv a1, iv 0, iv 3, .val .null, rv b3] [(.int 1), (.ref a0b)])) rfl rfl (hb hby d2_48)
  have N7 := Fr.snoc X7 N4 g_a0b
  have O7 : Old Z n0 h7 := O3.wr W7 g_a0b
  have K7 : Keep h0 h7 [a0b] := K3.wr W7 (Or.inl (List.mem_of_getElem? (i := 0) rfl))
  have Fw7 := ft6.same W7
  refine Go.st (f' := (mkF m 51 #[rv a0b, rv a1, iv 0, iv 3, .val .null, rv b3] [])) (fun _ k => st7 _ k) ?_
  refine Go.st (f' := (mkF m 52 #[rv a0b, rv a1, iv 0, iv 3, .val .null, rv b3] [(.ref a0b)])) (fun _ k => XS.aloadN X7.here hx rfl (hb hby d2_51) rfl rfl k) ?_
  refine Go.st (f' := (mkF m 54 #[rv a0b, rv a1, iv 0, iv 3, .val .null, rv b3] [(.ref b3), (.ref a0b)])) (fun _ k => XS.aload X7.here hx rfl (hb hby d2_52) rfl rfl k) ?_
  have ft8 := (ft5.wr W7)
  have ft9 := ((F_a0b_value.keep kq3 nin0).other W7 (Or.inr (slot_ne (Or.inr (ww hw 6 rfl)) (Or.inr (ww hw 7 rfl)) (by decide) (t := (.array .byte)) (t' := .byte) (by decide) (by decide))))
  obtain ⟨T10, h10, X10, e10, W10, st10⟩ := putF X7 hx hZ hown (host := "") (Or.inl (ww hw 24 rfl)) Via.refl e7 ft9 ft8 (Or.inr ⟨(ww hw 6 rfl), rfl, hnm⟩) (ww hw 4 rfl) (ty := (.array .byte)) (by decide) rfl rfl (g := (mkF m 54 #[rv a0b, rv a1, iv 0, iv 3, .val .null, rv b3] [(.ref b3), (.ref a0b)])) rfl rfl (hb hby d2_54)
  have N10 := Fr.snoc X10 N7 g_a0b
  have O10 : Old Z n0 h10 := O7.wr W10 g_a0b
  have K10 : Keep h0 h10 [a0b] := K7.wr W10 (Or.inl (List.mem_of_getElem? (i := 0) rfl))
  have Fw10 := ft9.same W10
  refine Go.st (f' := (mkF m 57 #[rv a0b, rv a1, iv 0, iv 3, .val .null, rv b3] [])) (fun _ k => st10 _ k) ?_
  refine Go.ret0 X10 hlk hx hret (hb hby d2_57) e10 ?_ (by decide) (by decide)
  have ft11 := (ft8.wr W10)
  have ft12 := (Fw7.other W10 (Or.inr (slot_ne (Or.inr (ww hw 7 rfl)) (Or.inr (ww hw 6 rfl)) (by decide) (t := .byte) (t' := (.array .byte)) (by decide) (by decide))))
  have ft13 := ((vq3.other W7 (Ne.symm ne_a0b_b3)).other W10 (Ne.symm ne_a0b_b3))
  exact ⟨rfl, N10, K10, ft11, ft12, b3, kb3, sz_b3, Fw10, ft13⟩
set_option maxRecDepth 65536 in
set_option maxHeartbeats 40000000 in
theorem u1_3_u (l : Launch) (Z : State) (a0 : Array Value) (hw : ∀ d ∈ tables_1, d.before a0 Z = true) (ws : List Jvm.Cond) (a0b : Addr) (a1 : Addr) (k1 : ClassId) (c0 : Int32) (c1 : Int32) (c2 : Int32) (i_COMPACT_STRINGS : Int32) (v_SIOOBE_FORMATTER : Value) (h0 : Heap) (n0 : Nat) (O0 : Old Z n0 h0) (hu : (255 : Int32) < c0 ∨ (255 : Int32) < c1 ∨ (255 : Int32) < c2) (hk_c0 : 0 ≤ c0.toInt ∧ c0.toInt < 65536) (hk_c1 : 0 ≤ c1.toInt ∧ c1.toInt < 65536) (hk_c2 : 0 ≤ c2.toInt ∧ c2.toInt < 65536) (g_a0b : n0 ≤ a0b) (nb1 : a0b ≠ a1) (E_a0b : Exa Z h0 a0b "java/lang/String") (F_a0b_coder : Fld Z h0 a0b "java/lang/String" "coder" "B" (.int 0)) (F_a0b_value : Fld Z h0 a0b "java/lang/String" "value" "[B" .null) (V_a1 : Arv Z h0 a1 k1 .char (3 : Int32) [(.int c0), (.int c1), (.int c2)] (.int 0)) (WW : World1 Z i_COMPACT_STRINGS v_SIOOBE_FORMATTER) :
    Con l Z (⟨"java/lang/String", "<init>", "([C)V"⟩ : MethodName) jdk_42_method_3_code 2 none ws ({ frames := 5, cells := 2, slots := 9, locals := 74 } : Room) #[(.ref a0b), (.ref a1)] h0 (fun v h L => v = none ∧ Fr n0 L ∧ Keep h0 h [a0b] ∧ Exa Z h a0b "java/lang/String" ∧ Fld Z h a0b "java/lang/String" "coder" "B" (.int 1) ∧ ∃ (t : Addr) (kt : ClassId), h0.size ≤ t ∧ Fld Z h a0b "java/lang/String" "value" "[B" (.ref t) ∧ Arv Z h t kt .byte (6 : Int32) [(.int (nar .byte ((c0 >>> ((0 : Int32) &&& 31)).toInt8.toInt32))), (.int (nar .byte ((c0 >>> ((8 : Int32) &&& 31)).toInt8.toInt32))), (.int (nar .byte ((c1 >>> ((0 : Int32) &&& 31)).toInt8.toInt32))), (.int (nar .byte ((c1 >>> ((8 : Int32) &&& 31)).toInt8.toInt32))), (.int (nar .byte ((c2 >>> ((0 : Int32) &&& 31)).toInt8.toInt32))), (.int (nar .byte ((c2 >>> ((8 : Int32) &&& 31)).toInt8.toInt32)))] (.int 0)) := by
  refine own_body (plainFor_of_name pn_java_lang_String) ?_
  intro p e s m below meth c s₁ hx hby hml hZ hown hnm hlk hret X0 e0
  have N0 := Fr.nil n0
  have K0 : Keep h0 h0 [a0b] := Keep.refl _ _
  refine Go.st (T' := s₁) (f' := (mkF m 0 #[rv a0b, rv a1] [])) (fun _ k => castTop (by first | (simp [entryFrame, mkF, argsToLocals, Value.category]; done) | rfl) k) ?_
  have ⟨S_i_COMPACT_STRINGS, nz_i_COMPACT_STRINGS, S_v_SIOOBE_FORMATTER, r_v_SIOOBE_FORMATTER, S_i__assertionsDisabled, S_i_HI_BYTE_SHIFT, S_i_LO_BYTE_SHIFT⟩ := WW
  have lt_a0b := E_a0b.lt
  have lt_a1 := V_a1.lt
  refine Go.st (f' := (mkF m 1 #[rv a0b, rv a1] [(.ref a0b)])) (fun _ k => XS.aloadN X0.here hx rfl (hb hby d1_0) rfl rfl k) ?_
  refine Go.st (f' := (mkF m 2 #[rv a0b, rv a1] [(.ref a1), (.ref a0b)])) (fun _ k => XS.aloadN X0.here hx rfl (hb hby d1_1) rfl rfl k) ?_
  refine Go.st (f' := (mkF m 3 #[rv a0b, rv a1] [(.int 0), (.ref a1), (.ref a0b)])) (fun _ k => XS.iconst X0.here hx rfl (hb hby d1_2) k) ?_
  refine Go.st (f' := (mkF m 4 #[rv a0b, rv a1] [(.ref a1), (.int 0), (.ref a1), (.ref a0b)])) (fun _ k => XS.aloadN X0.here hx rfl (hb hby d1_3) rfl rfl k) ?_
  obtain ⟨cl1, Ar1, -, S1, Nx1, -, -⟩ := id V_a1
  refine Go.st (T' := s₁) (f' := (mkF m 5 #[rv a0b, rv a1] [(.int 3), (.int 0), (.ref a1), (.ref a0b)])) (fun _ k => X0.arraylength hx (by rw [e0]; exact Ar1.1) (State.isArrayOf_alike hZ.alike Ar1.2.1) (g := (mkF m 4 #[rv a0b, rv a1] [(.ref a1), (.int 0), (.ref a1), (.ref a0b)])) rfl rfl (hb hby d1_4) _ (by rw [len_of S1 Nx1]; exact k)) ?_
  refine Go.st (f' := (mkF m 6 #[rv a0b, rv a1] [.null, (.int 3), (.int 0), (.ref a1), (.ref a0b)])) (fun _ k => XS.aconstNull X0.here hx rfl (hb hby d1_5) k) ?_
  obtain ⟨_, _, ⟨T2, L2, kk2, nn2⟩, -, X2, ⟨Lc2, hQ2, lq2, yq2, zz2⟩, st2⟩ := X0.specialBack hx (y := (⟨"java/lang/String", "<init>", "([CIILjava/lang/Void;)V"⟩ : MethodName)) rfl hown (mvT hZ (ww hw 16 rfl)) (mvT hZ (ww hw 17 rfl)) (mvT hZ (ww hw 19 rfl)) (by decide) (own_back (W := 0) (uv_3_u l Z a0 hw [] a0b a1 k1 c0 c1 c2 i_COMPACT_STRINGS v_SIOOBE_FORMATTER h0 n0 O0 hu hk_c0 hk_c1 hk_c2 g_a0b nb1 E_a0b F_a0b_coder F_a0b_value V_a1 WW) hZ (ww hw 19 rfl) (ww hw 3 rfl) (by decide) (by decide)) (g := (mkF m 6 #[rv a0b, rv a1] [.null, (.int 3), (.int 0), (.ref a1), (.ref a0b)])) rfl (by rw [hml]; rfl) (Steps.refl _) (a := a0b) (argsL := [(.ref a1), (.int (0 : Int32)), (.int (3 : Int32)), .null]) (rest := []) (lenOf pd___CIILjava_lang_Void__V rfl) rfl (by show 2 * 0 + _ ≤ _; exact Nat.le_of_eq rfl) (hb hby d1_6) (fun _ _ => ⟨rfl, e0, (by decide : 0 + 2 ≤ _), (by decide : 0 + 9 ≤ _)⟩)
  dsimp only [Pt.U, Pt.locs, Pt.cells, Pt.slots] at X2 lq2 yq2 zz2 st2 hQ2
  subst lq2 yq2 zz2
  obtain ⟨rfl, Nq2, kq2, eq2, cq2, tt2, kt2, zq2, fq2, vq2⟩ := hQ2
  have N2 := Fr.app N0 Nq2
  have ne_a0b_tt2 : a0b ≠ tt2 := Nat.ne_of_lt (Nat.lt_of_lt_of_le lt_a0b zq2)
  have ne_a1_tt2 : a1 ≠ tt2 := Nat.ne_of_lt (Nat.lt_of_lt_of_le lt_a1 zq2)
  have g_tt2 : n0 ≤ tt2 := Nat.le_trans (O0.1 ▸ O0.2.1) zq2
  have sz_tt2 : h0.size ≤ tt2 := Nat.le_trans K0.1 zq2
  have O2 : Old Z n0 T2.heap := O0.keep kq2 (allS g_a0b all0)
  have K2 : Keep h0 T2.heap [a0b] := K0.trans kq2 (allS (Or.inl (List.mem_of_getElem? (i := 0) rfl)) all0)
  have lt_tt2 := vq2.lt
  refine Go.tr (f' := (mkF m 9 #[rv a0b, rv a1] [])) st2 ?_
  refine Go.ret0 X2 hlk hx hret (hb hby d1_9) rfl ?_ (by decide) (by decide)
  exact ⟨rfl, N2, K2, eq2, cq2, tt2, kt2, sz_tt2, fq2, vq2⟩
set_option maxRecDepth 65536 in
set_option maxHeartbeats 40000000 in
theorem u1_3_3 (l : Launch) (Z : State) (a0 : Array Value) (hw : ∀ d ∈ tables_1, d.before a0 Z = true) (ws : List Jvm.Cond) (a0b : Addr) (a1 : Addr) (k1 : ClassId) (c0 : Int32) (c1 : Int32) (c2 : Int32) (i_COMPACT_STRINGS : Int32) (v_SIOOBE_FORMATTER : Value) (h0 : Heap) (n0 : Nat) (O0 : Old Z n0 h0) (hc_c0 : ¬ (255 : Int32) < c0) (hc_c1 : ¬ (255 : Int32) < c1) (hc_c2 : ¬ (255 : Int32) < c2) (g_a0b : n0 ≤ a0b) (nb1 : a0b ≠ a1) (E_a0b : Exa Z h0 a0b "java/lang/String") (F_a0b_coder : Fld Z h0 a0b "java/lang/String" "coder" "B" (.int 0)) (F_a0b_value : Fld Z h0 a0b "java/lang/String" "value" "[B" .null) (V_a1 : Arv Z h0 a1 k1 .char (3 : Int32) [(.int c0), (.int c1), (.int c2)] (.int 0)) (WW : World1 Z i_COMPACT_STRINGS v_SIOOBE_FORMATTER) :
    Con l Z (⟨"java/lang/String", "<init>", "([C)V"⟩ : MethodName) jdk_42_method_3_code 2 none ws ({ frames := 5, cells := 2, slots := 9, locals := 74 } : Room) #[(.ref a0b), (.ref a1)] h0 (fun v h L => v = none ∧ Fr n0 L ∧ Keep h0 h [a0b] ∧ Exa Z h a0b "java/lang/String" ∧ Fld Z h a0b "java/lang/String" "coder" "B" (.int 0) ∧ ∃ (t : Addr) (kt : ClassId), h0.size ≤ t ∧ Fld Z h a0b "java/lang/String" "value" "[B" (.ref t) ∧ Arv Z h t kt .byte (3 : Int32) [(.int (nar .byte (c0.toInt8.toInt32))), (.int (nar .byte (c1.toInt8.toInt32))), (.int (nar .byte (c2.toInt8.toInt32)))] (.int 0)) := by
  refine own_body (plainFor_of_name pn_java_lang_String) ?_
  intro p e s m below meth c s₁ hx hby hml hZ hown hnm hlk hret X0 e0
  have N0 := Fr.nil n0
  have K0 : Keep h0 h0 [a0b] := Keep.refl _ _
  refine Go.st (T' := s₁) (f' := (mkF m 0 #[rv a0b, rv a1] [])) (fun _ k => castTop (by first | (simp [entryFrame, mkF, argsToLocals, Value.category]; done) | rfl) k) ?_
  have ⟨S_i_COMPACT_STRINGS, nz_i_COMPACT_STRINGS, S_v_SIOOBE_FORMATTER, r_v_SIOOBE_FORMATTER, S_i__assertionsDisabled, S_i_HI_BYTE_SHIFT, S_i_LO_BYTE_SHIFT⟩ := WW
  have lt_a0b := E_a0b.lt
  have lt_a1 := V_a1.lt
  refine Go.st (f' := (mkF m 1 #[rv a0b, rv a1] [(.ref a0b)])) (fun _ k => XS.aloadN X0.here hx rfl (hb hby d1_0) rfl rfl k) ?_
  refine Go.st (f' := (mkF m 2 #[rv a0b, rv a1] [(.ref a1), (.ref a0b)])) (fun _ k => XS.aloadN X0.here hx rfl (hb hby d1_1) rfl rfl k) ?_
  refine Go.st (f' := (mkF m 3 #[rv a0b, rv a1] [(.int 0), (.ref a1), (.ref a0b)])) (fun _ k => XS.iconst X0.here hx rfl (hb hby d1_2) k) ?_
  refine Go.st (f' := (mkF m 4 #[rv a0b, rv a1] [(.ref a1), (.int 0), (.ref a1), (.ref a0b)])) (fun _ k => XS.aloadN X0.here hx rfl (hb hby d1_3) rfl rfl k) ?_
  obtain ⟨cl1, Ar1, -, S1, Nx1, -, -⟩ := id V_a1
  refine Go.st (T' := s₁) (f' := (mkF m 5 #[rv a0b, rv a1] [(.int 3), (.int 0), (.ref a1), (.ref a0b)])) (fun _ k => X0.arraylength hx (by rw [e0]; exact Ar1.1) (State.isArrayOf_alike hZ.alike Ar1.2.1) (g := (mkF m 4 #[rv a0b, rv a1] [(.ref a1), (.int 0), (.ref a1), (.ref a0b)])) rfl rfl (hb hby d1_4) _ (by rw [len_of S1 Nx1]; exact k)) ?_
  refine Go.st (f' := (mkF m 6 #[rv a0b, rv a1] [.null, (.int 3), (.int 0), (.ref a1), (.ref a0b)])) (fun _ k => XS.aconstNull X0.here hx rfl (hb hby d1_5) k) ?_
  obtain ⟨_, _, ⟨T2, L2, kk2, nn2⟩, -, X2, ⟨Lc2, hQ2, lq2, yq2, zz2⟩, st2⟩ := X0.specialBack hx (y := (⟨"java/lang/String", "<init>", "([CIILjava/lang/Void;)V"⟩ : MethodName)) rfl hown (mvT hZ (ww hw 16 rfl)) (mvT hZ (ww hw 17 rfl)) (mvT hZ (ww hw 19 rfl)) (by decide) (own_back (W := 0) (uv_3_3 l Z a0 hw [] a0b a1 k1 c0 c1 c2 i_COMPACT_STRINGS v_SIOOBE_FORMATTER h0 n0 O0 hc_c0 hc_c1 hc_c2 g_a0b nb1 E_a0b F_a0b_coder F_a0b_value V_a1 WW) hZ (ww hw 19 rfl) (ww hw 3 rfl) (by decide) (by decide)) (g := (mkF m 6 #[rv a0b, rv a1] [.null, (.int 3), (.int 0), (.ref a1), (.ref a0b)])) rfl (by rw [hml]; rfl) (Steps.refl _) (a := a0b) (argsL := [(.ref a1), (.int (0 : Int32)), (.int (3 : Int32)), .null]) (rest := []) (lenOf pd___CIILjava_lang_Void__V rfl) rfl (by show 2 * 0 + _ ≤ _; exact Nat.le_of_eq rfl) (hb hby d1_6) (fun _ _ => ⟨rfl, e0, (by decide : 0 + 1 ≤ _), (by decide : 0 + 3 ≤ _)⟩)
  dsimp only [Pt.U, Pt.locs, Pt.cells, Pt.slots] at X2 lq2 yq2 zz2 st2 hQ2
  subst lq2 yq2 zz2
  obtain ⟨rfl, Nq2, kq2, eq2, cq2, tt2, kt2, zq2, fq2, vq2⟩ := hQ2
  have N2 := Fr.app N0 Nq2
  have ne_a0b_tt2 : a0b ≠ tt2 := Nat.ne_of_lt (Nat.lt_of_lt_of_le lt_a0b zq2)
  have ne_a1_tt2 : a1 ≠ tt2 := Nat.ne_of_lt (Nat.lt_of_lt_of_le lt_a1 zq2)
  have g_tt2 : n0 ≤ tt2 := Nat.le_trans (O0.1 ▸ O0.2.1) zq2
  have sz_tt2 : h0.size ≤ tt2 := Nat.le_trans K0.1 zq2
  have O2 : Old Z n0 T2.heap := O0.keep kq2 (allS g_a0b all0)
  have K2 : Keep h0 T2.heap [a0b] := K0.trans kq2 (allS (Or.inl (List.mem_of_getElem? (i := 0) rfl)) all0)
  have lt_tt2 := vq2.lt
  refine Go.tr (f' := (mkF m 9 #[rv a0b, rv a1] [])) st2 ?_
  refine Go.ret0 X2 hlk hx hret (hb hby d1_9) rfl ?_ (by decide) (by decide)
  exact ⟨rfl, N2, K2, eq2, cq2, tt2, kt2, sz_tt2, fq2, vq2⟩
def Sx3 (Z : State) (h : Heap) (a0b t : Addr) (kt : ClassId) (c0 c1 c2 : Int32) : Prop := ((Fld Z h a0b "java/lang/String" "coder" "B" (.int (0 : Int32)) ∧ (¬ (255 : Int32) < c0 ∧ ¬ (255 : Int32) < c1 ∧ ¬ (255 : Int32) < c2) ∧ Arv Z h t kt .byte (3 : Int32) [(.int (nar .byte (c0.toInt8.toInt32))), (.int (nar .byte (c1.toInt8.toInt32))), (.int (nar .byte (c2.toInt8.toInt32)))] (.int (0 : Int32))) ∨ (Fld Z h a0b "java/lang/String" "coder" "B" (.int (1 : Int32)) ∧ Arv Z h t kt .byte (6 : Int32) [(.int (nar .byte ((c0 >>> ((0 : Int32) &&& 31)).toInt8.toInt32))), (.int (nar .byte ((c0 >>> ((8 : Int32) &&& 31)).toInt8.toInt32))), (.int (nar .byte ((c1 >>> ((0 : Int32) &&& 31)).toInt8.toInt32))), (.int (nar .byte ((c1 >>> ((8 : Int32) &&& 31)).toInt8.toInt32))), (.int (nar .byte ((c2 >>> ((0 : Int32) &&& 31)).toInt8.toInt32))), (.int (nar .byte ((c2 >>> ((8 : Int32) &&& 31)).toInt8.toInt32)))] (.int (0 : Int32))))
theorem uA_3 (l : Launch) (Z : State) (a0 : Array Value) (hw : ∀ d ∈ tables_1, d.before a0 Z = true) (ws : List Jvm.Cond) (a0b : Addr) (a1 : Addr) (k1 : ClassId) (c0 : Int32) (c1 : Int32) (c2 : Int32) (i_COMPACT_STRINGS : Int32) (v_SIOOBE_FORMATTER : Value) (h0 : Heap) (n0 : Nat) (O0 : Old Z n0 h0) (hk_c0 : 0 ≤ c0.toInt ∧ c0.toInt < 65536) (hk_c1 : 0 ≤ c1.toInt ∧ c1.toInt < 65536) (hk_c2 : 0 ≤ c2.toInt ∧ c2.toInt < 65536) (g_a0b : n0 ≤ a0b) (nb1 : a0b ≠ a1) (E_a0b : Exa Z h0 a0b "java/lang/String") (F_a0b_coder : Fld Z h0 a0b "java/lang/String" "coder" "B" (.int 0)) (F_a0b_value : Fld Z h0 a0b "java/lang/String" "value" "[B" .null) (V_a1 : Arv Z h0 a1 k1 .char (3 : Int32) [(.int c0), (.int c1), (.int c2)] (.int 0)) (WW : World1 Z i_COMPACT_STRINGS v_SIOOBE_FORMATTER) :
    Con l Z (⟨"java/lang/String", "<init>", "([C)V"⟩ : MethodName) jdk_42_method_3_code 2 none ws ({ frames := 5, cells := 2, slots := 9, locals := 74 } : Room) #[(.ref a0b), (.ref a1)] h0 (fun v h L => v = none ∧ Fr n0 L ∧ Keep h0 h [a0b] ∧ Exa Z h a0b "java/lang/String" ∧ ∃ (t : Addr) (kt : ClassId), h0.size ≤ t ∧ Fld Z h a0b "java/lang/String" "value" "[B" (.ref t) ∧ Sx3 Z h a0b t kt c0 c1 c2) := by
  by_cases q0 : (255 : Int32) < c0
  · exact Con.weaken (u1_3_u l Z a0 hw ws a0b a1 k1 c0 c1 c2 i_COMPACT_STRINGS v_SIOOBE_FORMATTER h0 n0 O0 (Or.inl q0) hk_c0 hk_c1 hk_c2 g_a0b nb1 E_a0b F_a0b_coder F_a0b_value V_a1 WW) (fun _ _ _ ⟨z1, z2, z3, z4, z5, t, kt, z6, z7, z8⟩ => ⟨z1, z2, z3, z4, t, kt, z6, z7, Or.inr ⟨z5, z8⟩⟩)
  by_cases q1 : (255 : Int32) < c1
  · exact Con.weaken (u1_3_u l Z a0 hw ws a0b a1 k1 c0 c1 c2 i_COMPACT_STRINGS v_SIOOBE_FORMATTER h0 n0 O0 (Or.inr (Or.inl q1)) hk_c0 hk_c1 hk_c2 g_a0b nb1 E_a0b F_a0b_coder F_a0b_value V_a1 WW) (fun _ _ _ ⟨z1, z2, z3, z4, z5, t, kt, z6, z7, z8⟩ => ⟨z1, z2, z3, z4, t, kt, z6, z7, Or.inr ⟨z5, z8⟩⟩)
  by_cases q2 : (255 : Int32) < c2
  · exact Con.weaken (u1_3_u l Z a0 hw ws a0b a1 k1 c0 c1 c2 i_COMPACT_STRINGS v_SIOOBE_FORMATTER h0 n0 O0 (Or.inr (Or.inr (q2))) hk_c0 hk_c1 hk_c2 g_a0b nb1 E_a0b F_a0b_coder F_a0b_value V_a1 WW) (fun _ _ _ ⟨z1, z2, z3, z4, z5, t, kt, z6, z7, z8⟩ => ⟨z1, z2, z3, z4, t, kt, z6, z7, Or.inr ⟨z5, z8⟩⟩)
  exact Con.weaken (u1_3_3 l Z a0 hw ws a0b a1 k1 c0 c1 c2 i_COMPACT_STRINGS v_SIOOBE_FORMATTER h0 n0 O0 q0 q1 q2 g_a0b nb1 E_a0b F_a0b_coder F_a0b_value V_a1 WW) (fun _ _ _ ⟨z1, z2, z3, z4, z5, t, kt, z6, z7, z8⟩ => ⟨z1, z2, z3, z4, t, kt, z6, z7, Or.inl ⟨z5, ⟨q0, q1, q2⟩, z8⟩⟩)
theorem own_neArv {Z : State} {h : Heap} {a b : Addr} {k1 k2 : ClassId} {t1 t2 : FieldType} {z1 z2 : Int32} {v1 v2 : List Value} {d1 d2 : Value} (A : Arv Z h a k1 t1 z1 v1 d1) (B : Arv Z h b k2 t2 z2 v2 d2) (q : t1 ≠ t2) : a ≠ b := fun e => by
  subst e
  obtain ⟨c, ⟨c1, ⟨-, k, c2, comp, c3⟩, -⟩, -⟩ := A
  obtain ⟨c', ⟨d1, ⟨-, k', d2, comp', d3⟩, -⟩, -⟩ := B
  cases c1.symm.trans d1
  cases c2.symm.trans d2
  have := c3.symm.trans d3
  injection this with _ e
  exact q e

theorem d2_8 : decode jdk_42_method_149_code 8 = .ok (.aload_n 0, 1) := by decide +kernel
theorem d2_9 : decode jdk_42_method_149_code 9 = .ok (.ldc 7, 2) := by decide +kernel
theorem d2_11 : decode jdk_42_method_149_code 11 = .ok (.getfield 9, 3) := by decide +kernel
theorem d2_14 : decode jdk_42_method_149_code 14 = .ok (.putfield 9, 3) := by decide +kernel
theorem d2_17 : decode jdk_42_method_149_code 17 = .ok (.aload_n 0, 1) := by decide +kernel
theorem d2_18 : decode jdk_42_method_149_code 18 = .ok (.ldc 7, 2) := by decide +kernel
theorem d2_20 : decode jdk_42_method_149_code 20 = .ok (.getfield 15, 3) := by decide +kernel
theorem d2_23 : decode jdk_42_method_149_code 23 = .ok (.putfield 15, 3) := by decide +kernel
theorem d2_26 : decode jdk_42_method_149_code 26 = .ok (.return_, 1) := by decide +kernel
set_option maxRecDepth 65536 in
set_option maxHeartbeats 40000000 in
theorem sv_0 (l : Launch) (Z : State) (a0 : Array Value) (hw : ∀ d ∈ tables_1, d.before a0 Z = true) (ws : List Jvm.Cond) (a0b : Addr) (a1 : Addr) (i_COMPACT_STRINGS : Int32) (v_SIOOBE_FORMATTER : Value) (h0 : Heap) (n0 : Nat) (O0 : Old Z n0 h0) (g_a0b : n0 ≤ a0b) (E_a0b : Exa Z h0 a0b "java/lang/String") (F_a0b_coder : Fld Z h0 a0b "java/lang/String" "coder" "B" (.int 0)) (F_a0b_value : Fld Z h0 a0b "java/lang/String" "value" "[B" .null) (WW : World1 Z i_COMPACT_STRINGS v_SIOOBE_FORMATTER) :
    ConW l Z EL (⟨"java/lang/String", "<init>", "([CIILjava/lang/Void;)V"⟩ : MethodName) jdk_42_method_149_code 6 none ws ({ frames := 1, cells := 4, slots := 8, locals := 12 } : Room) #[(.ref a0b), (.ref a1), (.int 0), (.int 0), .null] h0 (fun v h L => v = none ∧ Fr n0 L ∧ Keep h0 h [a0b] ∧ Exa Z h a0b "java/lang/String" ∧ Fld Z h a0b "java/lang/String" "coder" "B" (.int 0) ∧ ∃ (t : Addr) (kt : ClassId), Fld Z h a0b "java/lang/String" "value" "[B" (.ref t) ∧ Arv Z h t kt .byte (0 : Int32) [] (.int 0)) := by
  refine own_bodyW (plainFor_of_name pn_java_lang_String) ?_
  intro p e s m below meth c s₁ hx hby hml hZ hown hnm hlk hret X0 e0 hh hS CR0
  have hEL := own_EL hw
  have wS := own_wS hw
  have N0 := Fr.nil n0
  have K0 : Keep h0 h0 [a0b] := Keep.refl _ _
  refine Go.st (T' := s₁) (f' := (mkF m 0 #[rv a0b, rv a1, iv 0, iv 0, .val .null, .unset] [])) (fun _ k => castTop (by first | (simp [entryFrame, mkF, argsToLocals, Value.category]; done) | rfl) k) ?_
  have ⟨S_i_COMPACT_STRINGS, nz_i_COMPACT_STRINGS, S_v_SIOOBE_FORMATTER, r_v_SIOOBE_FORMATTER, S_i__assertionsDisabled, S_i_HI_BYTE_SHIFT, S_i_LO_BYTE_SHIFT⟩ := WW
  have lt_a0b := E_a0b.lt
  have sf_a0b : Safe Z EL s.vm h0 a0b := own_safe0 hZ.alike E_a0b F_a0b_value
  refine Go.st (f' := (mkF m 1 #[rv a0b, rv a1, iv 0, iv 0, .val .null, .unset] [(.ref a0b)])) (fun _ k => XS.aloadN X0.here hx rfl (hb hby d2_0) rfl rfl k) ?_
  obtain ⟨T1, X1, e1, st1⟩ := initO X0 hx hZ hown (ww hw 20 rfl) (ww hw 21 rfl) (ww hw 22 rfl) e0 (g := (mkF m 1 #[rv a0b, rv a1, iv 0, iv 0, .val .null, .unset] [(.ref a0b)])) rfl (by rw [hml]; rfl) rfl (hb hby d2_1) (by decide) (W := 0) (by show 2 * 0 + _ ≤ _; exact Nat.le_of_eq rfl) (by decide)
  refine Go.st (f' := (mkF m 4 #[rv a0b, rv a1, iv 0, iv 0, .val .null, .unset] [])) (fun _ k => st1 _ k) ?_
  refine Go.st (f' := (mkF m 5 #[rv a0b, rv a1, iv 0, iv 0, .val .null, .unset] [(.int 0)])) (fun _ k => XS.iloadN X1.here hx rfl (hb hby d2_4) rfl k) ?_
  refine Go.st (f' := (mkF m 8 #[rv a0b, rv a1, iv 0, iv 0, .val .null, .unset] [])) (fun _ k => XS.ifNo X1.here hx rfl (hb hby d2_5) rfl (by decide) k) ?_
  refine Go.st (f' := (mkF m 9 #[rv a0b, rv a1, iv 0, iv 0, .val .null, .unset] [(.ref a0b)])) (fun _ k => XS.aloadN X1.here hx rfl (hb hby d2_8) rfl rfl k) ?_
  obtain ⟨b2, T2, h2, k12, t2, kt2, X2, e2, E2, hS2, hk2, hZ2, hown2, A2, cq2, fq2, vq2, lt_b2, lt_t2, crw2, -, sfx2, st2⟩ := ldcCH (EL := EL) X1 hx hZ hown (ww hw 23 rfl) wS e1 hS (Nat.zero_le _) hEL (List.mem_of_getElem? (i := 2) rfl) CR0.1 (vs := []) (z := (0 : Int32)) ⟨by decide, by decide⟩ (by decide) rfl (g := (mkF m 9 #[rv a0b, rv a1, iv 0, iv 0, .val .null, .unset] [(.ref a0b)])) rfl (hb hby d2_9) (n := 0) (by decide) (by decide) (by decide) (by decide)
  have O2 : Old Z n0 h2 := O0.ext E2
  have K2 : Keep h0 h2 [a0b] := K0.ext E2
  have sf3 := crw2.safe lt_a0b sf_a0b
  have CR2 := CR0.trans crw2
  refine Go.st (f' := (mkF m 11 #[rv a0b, rv a1, iv 0, iv 0, .val .null, .unset] [(.ref b2), (.ref a0b)])) (fun _ k => st2 _ k) ?_
  obtain ⟨T4, X4, e4, st4⟩ := getF X2 hx hZ2 hown2 (host := "") (Or.inl (ww hw 24 rfl)) Via.refl e2 fq2 (g := (mkF m 11 #[rv a0b, rv a1, iv 0, iv 0, .val .null, .unset] [(.ref b2), (.ref a0b)])) rfl rfl (hb hby d2_11)
  refine Go.st (f' := (mkF m 14 #[rv a0b, rv a1, iv 0, iv 0, .val .null, .unset] [(.ref t2), (.ref a0b)])) (fun _ k => st4 _ k) ?_
  have ft5 := (E_a0b.ext E2)
  have ft6 := (F_a0b_value.ext E2)
  obtain ⟨T7, h7, X7, e7, W7, st7⟩ := putF X4 hx hZ2 hown2 (host := "") (Or.inl (ww hw 24 rfl)) Via.refl e4 ft6 ft5 (Or.inr ⟨(ww hw 6 rfl), rfl, hnm⟩) (ww hw 4 rfl) (ty := (.array .byte)) (by decide) rfl rfl (g := (mkF m 14 #[rv a0b, rv a1, iv 0, iv 0, .val .null, .unset] [(.ref t2), (.ref a0b)])) rfl rfl (hb hby d2_14)
  have N7 := Fr.snoc X7 N0 g_a0b
  have O7 : Old Z n0 h7 := O2.wr W7 g_a0b
  have K7 : Keep h0 h7 [a0b] := K2.wr W7 (Or.inl (List.mem_of_getElem? (i := 0) rfl))
  have CR7 : CHr Z EL s.vm h0 T2.vm h7 := CR2.trans (CHr.wr W7 sf3 CR2.1)
  have Fw7 := ft6.same W7
  refine Go.st (f' := (mkF m 17 #[rv a0b, rv a1, iv 0, iv 0, .val .null, .unset] [])) (fun _ k => st7 _ k) ?_
  refine Go.st (f' := (mkF m 18 #[rv a0b, rv a1, iv 0, iv 0, .val .null, .unset] [(.ref a0b)])) (fun _ k => XS.aloadN X7.here hx rfl (hb hby d2_17) rfl rfl k) ?_
  have ft9 := (Nat.le_trans hk2 (Nat.le_of_eq W7.size.symm))
  obtain ⟨b8, T8, h8, k18, t8, kt8, X8, e8, E8, hS8, hk8, hZ8, hown8, A8, cq8, fq8, vq8, lt_b8, lt_t8, crw8, -, sfx8, st8⟩ := ldcCH (EL := EL) X7 hx hZ2 hown2 (ww hw 23 rfl) wS e7 hS2 ft9 hEL (List.mem_of_getElem? (i := 2) rfl) CR7.1 (vs := []) (z := (0 : Int32)) ⟨by decide, by decide⟩ (by decide) rfl (g := (mkF m 18 #[rv a0b, rv a1, iv 0, iv 0, .val .null, .unset] [(.ref a0b)])) rfl (hb hby d2_18) (n := 0) (by decide) (by decide) (by decide) (by decide)
  have ft10 := (Safe.wr W7 sf3 CR2.1 sf3)
  have ft11 := (Nat.lt_of_lt_of_eq (Nat.lt_of_lt_of_le lt_a0b E2.1) W7.size.symm)
  have O8 : Old Z n0 h8 := O7.ext E8
  have K8 : Keep h0 h8 [a0b] := K7.ext E8
  have sf12 := crw8.safe ft11 ft10
  have CR8 := CR7.trans crw8
  refine Go.st (f' := (mkF m 20 #[rv a0b, rv a1, iv 0, iv 0, .val .null, .unset] [(.ref b8), (.ref a0b)])) (fun _ k => st8 _ k) ?_
  obtain ⟨T13, X13, e13, st13⟩ := getF X8 hx hZ8 hown8 (host := "") (Or.inl (ww hw 25 rfl)) Via.refl e8 cq8 (g := (mkF m 20 #[rv a0b, rv a1, iv 0, iv 0, .val .null, .unset] [(.ref b8), (.ref a0b)])) rfl rfl (hb hby d2_20)
  refine Go.st (f' := (mkF m 23 #[rv a0b, rv a1, iv 0, iv 0, .val .null, .unset] [(.int 0), (.ref a0b)])) (fun _ k => st13 _ k) ?_
  have ft14 := ((ft5.wr W7).ext E8)
  have ft15 := (((F_a0b_coder.ext E2).other W7 (Or.inr (slot_ne (Or.inr (ww hw 7 rfl)) (Or.inr (ww hw 6 rfl)) (by decide) (t := .byte) (t' := (.array .byte)) (by decide) (by decide)))).ext E8)
  obtain ⟨T16, h16, X16, e16, W16, st16⟩ := putFN X13 hx hZ8 hown8 (ww hw 25 rfl) Via.refl e13 ft15 ft14 (Or.inr ⟨(ww hw 7 rfl), rfl, hnm⟩) (ww hw 4 rfl) (ty := .byte) (v' := (.int (0 : Int32))) (by decide) rfl (by decide) (g := (mkF m 23 #[rv a0b, rv a1, iv 0, iv 0, .val .null, .unset] [(.int 0), (.ref a0b)])) rfl rfl (hb hby d2_23)
  have N16 := Fr.snoc X16 N7 g_a0b
  have O16 : Old Z n0 h16 := O8.wr W16 g_a0b
  have K16 : Keep h0 h16 [a0b] := K8.wr W16 (Or.inl (List.mem_of_getElem? (i := 0) rfl))
  have CR16 : CHr Z EL s.vm h0 T8.vm h16 := CR8.trans (CHr.wr W16 sf12 CR8.1)
  have Fw16 := ft15.same W16
  refine Go.st (f' := (mkF m 26 #[rv a0b, rv a1, iv 0, iv 0, .val .null, .unset] [])) (fun _ k => st16 _ k) ?_
  have ft17 := (Nat.le_trans hk8 (Nat.le_of_eq W16.size.symm))
  refine GoW.ret0 X16 hlk hx hret (hb hby d2_26) e16 hS8 ft17 hZ8 hEL CR16 hh ?_ (by decide) (by decide)
  have ft18 := (ft14.wr W16)
  have ft19 := ((Fw7.ext E8).other W16 (Or.inr (slot_ne (Or.inr (ww hw 6 rfl)) (Or.inr (ww hw 7 rfl)) (by decide) (t := (.array .byte)) (t' := .byte) (by decide) (by decide))))
  have ft20 := (((vq2.other W7 (Ne.symm (sfx2 _ sf3).2)).ext E8).other W16 (Ne.symm (sfx2 _ sf3).2))
  exact ⟨rfl, N16, K16, ft18, Fw16, t2, kt2, ft19, ft20⟩
set_option maxRecDepth 65536 in
set_option maxHeartbeats 40000000 in
theorem s1_0 (l : Launch) (Z : State) (a0 : Array Value) (hw : ∀ d ∈ tables_1, d.before a0 Z = true) (ws : List Jvm.Cond) (a0b : Addr) (a1 : Addr) (k1 : ClassId) (i_COMPACT_STRINGS : Int32) (v_SIOOBE_FORMATTER : Value) (h0 : Heap) (n0 : Nat) (O0 : Old Z n0 h0) (g_a0b : n0 ≤ a0b) (E_a0b : Exa Z h0 a0b "java/lang/String") (F_a0b_coder : Fld Z h0 a0b "java/lang/String" "coder" "B" (.int 0)) (F_a0b_value : Fld Z h0 a0b "java/lang/String" "value" "[B" .null) (V_a1 : Arv Z h0 a1 k1 .char (0 : Int32) [] (.int 0)) (WW : World1 Z i_COMPACT_STRINGS v_SIOOBE_FORMATTER) :
    ConW l Z EL (⟨"java/lang/String", "<init>", "([C)V"⟩ : MethodName) jdk_42_method_3_code 2 none ws ({ frames := 2, cells := 4, slots := 8, locals := 29 } : Room) #[(.ref a0b), (.ref a1)] h0 (fun v h L => v = none ∧ Fr n0 L ∧ Keep h0 h [a0b] ∧ Exa Z h a0b "java/lang/String" ∧ Fld Z h a0b "java/lang/String" "coder" "B" (.int 0) ∧ ∃ (t : Addr) (kt : ClassId), Fld Z h a0b "java/lang/String" "value" "[B" (.ref t) ∧ Arv Z h t kt .byte (0 : Int32) [] (.int 0)) := by
  refine own_bodyW (plainFor_of_name pn_java_lang_String) ?_
  intro p e s m below meth c s₁ hx hby hml hZ hown hnm hlk hret X0 e0 hh hS CR0
  have hEL := own_EL hw
  have wS := own_wS hw
  have N0 := Fr.nil n0
  have K0 : Keep h0 h0 [a0b] := Keep.refl _ _
  refine Go.st (T' := s₁) (f' := (mkF m 0 #[rv a0b, rv a1] [])) (fun _ k => castTop (by first | (simp [entryFrame, mkF, argsToLocals, Value.category]; done) | rfl) k) ?_
  have ⟨S_i_COMPACT_STRINGS, nz_i_COMPACT_STRINGS, S_v_SIOOBE_FORMATTER, r_v_SIOOBE_FORMATTER, S_i__assertionsDisabled, S_i_HI_BYTE_SHIFT, S_i_LO_BYTE_SHIFT⟩ := WW
  have lt_a0b := E_a0b.lt
  have sf_a0b : Safe Z EL s.vm h0 a0b := own_safe0 hZ.alike E_a0b F_a0b_value
  have lt_a1 := V_a1.lt
  have nt_a0b_a1 : a0b ≠ a1 := Exa.neArv E_a0b V_a1 (ww hw 4 rfl)
  refine Go.st (f' := (mkF m 1 #[rv a0b, rv a1] [(.ref a0b)])) (fun _ k => XS.aloadN X0.here hx rfl (hb hby d1_0) rfl rfl k) ?_
  refine Go.st (f' := (mkF m 2 #[rv a0b, rv a1] [(.ref a1), (.ref a0b)])) (fun _ k => XS.aloadN X0.here hx rfl (hb hby d1_1) rfl rfl k) ?_
  refine Go.st (f' := (mkF m 3 #[rv a0b, rv a1] [(.int 0), (.ref a1), (.ref a0b)])) (fun _ k => XS.iconst X0.here hx rfl (hb hby d1_2) k) ?_
  refine Go.st (f' := (mkF m 4 #[rv a0b, rv a1] [(.ref a1), (.int 0), (.ref a1), (.ref a0b)])) (fun _ k => XS.aloadN X0.here hx rfl (hb hby d1_3) rfl rfl k) ?_
  obtain ⟨cl1, Ar1, -, S1, Nx1, -, -⟩ := id V_a1
  refine Go.st (T' := s₁) (f' := (mkF m 5 #[rv a0b, rv a1] [(.int 0), (.int 0), (.ref a1), (.ref a0b)])) (fun _ k => X0.arraylength hx (by rw [e0]; exact Ar1.1) (State.isArrayOf_alike hZ.alike Ar1.2.1) (g := (mkF m 4 #[rv a0b, rv a1] [(.ref a1), (.int 0), (.ref a1), (.ref a0b)])) rfl rfl (hb hby d1_4) _ (by rw [len_of S1 Nx1]; exact k)) ?_
  refine Go.st (f' := (mkF m 6 #[rv a0b, rv a1] [.null, (.int 0), (.int 0), (.ref a1), (.ref a0b)])) (fun _ k => XS.aconstNull X0.here hx rfl (hb hby d1_5) k) ?_
  obtain ⟨_, _, ⟨T2, L2, kk2, nn2⟩, -, Xw2, hSw2, hgw2, ⟨Lc2, hQ2, lq2, yq2, zz2, crw2⟩, st2⟩ := X0.specialBackS hx (y := (⟨"java/lang/String", "<init>", "([CIILjava/lang/Void;)V"⟩ : MethodName)) rfl hown (mvT hZ (ww hw 16 rfl)) (mvT hZ (ww hw 17 rfl)) (mvT hZ (ww hw 19 rfl)) (by decide) (own_backW (W := 0) (sv_0 l Z a0 hw [] a0b a1 i_COMPACT_STRINGS v_SIOOBE_FORMATTER h0 n0 O0 g_a0b E_a0b F_a0b_coder F_a0b_value WW) hZ (ww hw 19 rfl) (ww hw 3 rfl) (by decide) (by decide) hEL CR0.1) (g := (mkF m 6 #[rv a0b, rv a1] [.null, (.int 0), (.int 0), (.ref a1), (.ref a0b)])) rfl (by rw [hml]; rfl) (Steps.refl _) (a := a0b) (argsL := [(.ref a1), (.int (0 : Int32)), (.int (0 : Int32)), .null]) (rest := []) (lenOf pd___CIILjava_lang_Void__V rfl) rfl (by show 2 * 0 + _ ≤ _; exact Nat.le_of_eq rfl) (hb hby d1_6) (fun _ _ => ⟨rfl, e0, (by decide : 0 + 4 ≤ _), (by decide : 0 + 8 ≤ _)⟩)
  dsimp only [Pt.U, Pt.locs, Pt.cells, Pt.slots] at Xw2 lq2 yq2 zz2 st2 hQ2 hSw2 hgw2 crw2
  subst lq2 yq2 zz2
  obtain ⟨X2, hS2, hZ2, hown2⟩ := rebS hS (by rw [e0]; exact (Nat.zero_le _)) Xw2 hSw2 hgw2 hZ hown
  obtain ⟨rfl, Nq2, kq2, eq2, cq2, tt2, kt2, fq2, vq2⟩ := hQ2
  have N2 := Fr.app N0 Nq2
  have O2 : Old Z n0 T2.heap := O0.keep kq2 (allS g_a0b all0)
  have K2 : Keep h0 T2.heap [a0b] := K0.trans kq2 (allS (Or.inl (List.mem_of_getElem? (i := 0) rfl)) all0)
  have lt_tt2 := vq2.lt
  have nt_a0b_tt2 : a0b ≠ tt2 := Exa.neArv eq2 vq2 (ww hw 4 rfl)
  have ft3 := (V_a1.keep kq2 (ninS (Ne.symm nt_a0b_a1) nin0))
  have nt_a1_tt2 : a1 ≠ tt2 := own_neArv ft3 vq2 (by decide)
  have hk2 : T2.heap.size ≤ T2.heap.size := Nat.le_refl _
  have sf4 := crw2.safe lt_a0b sf_a0b
  have CR2 := CR0.trans crw2
  refine Go.tr (f' := (mkF m 9 #[rv a0b, rv a1] [])) st2 ?_
  refine GoW.ret0 X2 hlk hx hret (hb hby d1_9) rfl hS2 hk2 hZ2 hEL CR2 hh ?_ (by decide) (by decide)
  exact ⟨rfl, N2, K2, eq2, cq2, tt2, kt2, fq2, vq2⟩
theorem pn_jdk_internal_util_Preconditions : plainName "jdk/internal/util/Preconditions" = true := by first | (simp [plainName, overriddenIn]; done) | decide +kernel
theorem d15_0 : decode jdk_41_method_11_code 0 = .ok (.iload_n 0, 1) := by decide +kernel
theorem d15_1 : decode jdk_41_method_11_code 1 = .ok (.ifCond .lt 8, 3) := by decide +kernel
theorem d15_4 : decode jdk_41_method_11_code 4 = .ok (.iload_n 0, 1) := by decide +kernel
theorem d15_5 : decode jdk_41_method_11_code 5 = .ok (.iload_n 1, 1) := by decide +kernel
theorem d15_6 : decode jdk_41_method_11_code 6 = .ok (.if_icmp .lt 10, 3) := by decide +kernel
theorem d15_16 : decode jdk_41_method_11_code 16 = .ok (.iload_n 0, 1) := by decide +kernel
theorem d15_17 : decode jdk_41_method_11_code 17 = .ok (.ireturn, 1) := by decide +kernel
set_option maxRecDepth 65536 in
set_option maxHeartbeats 40000000 in
theorem ck_n (l : Launch) (Z : State) (a0 : Array Value) (hw : ∀ d ∈ tables_1, d.before a0 Z = true) (ws : List Jvm.Cond) (i : Int32) (n : Int32) (h0 : Heap) (n0 : Nat) (O0 : Old Z n0 h0) (hlo : ¬ i < (0 : Int32)) (hhi : i < n) :
    Con l Z (⟨"jdk/internal/util/Preconditions", "checkIndex", "(IILjava/util/function/BiFunction;)I"⟩ : MethodName) jdk_41_method_11_code 3 (some .int) ws ({ frames := 0, cells := 0, slots := 0, locals := 0 } : Room) #[(.int i), (.int n), .null] h0 (fun v h L => v = some (.int i) ∧ Fr n0 L ∧ h = h0) := by
  refine own_body (plainFor_of_name pn_jdk_internal_util_Preconditions) ?_
  intro p e s m below meth c s₁ hx hby hml hZ hown hnm hlk hret X0 e0
  have N0 := Fr.nil n0
  refine Go.st (T' := s₁) (f' := (mkF m 0 #[iv i, iv n, .val .null] [])) (fun _ k => castTop (by first | (simp [entryFrame, mkF, argsToLocals, Value.category]; done) | rfl) k) ?_
  refine Go.st (f' := (mkF m 1 #[iv i, iv n, .val .null] [(.int i)])) (fun _ k => XS.iloadN X0.here hx rfl (hb hby d15_0) rfl k) ?_
  refine Go.st (f' := (mkF m 4 #[iv i, iv n, .val .null] [])) (fun _ k => XS.ifNo X0.here hx rfl (hb hby d15_1) rfl ((if0 _ _).trans (flt hlo).1) k) ?_
  refine Go.st (f' := (mkF m 5 #[iv i, iv n, .val .null] [(.int i)])) (fun _ k => XS.iloadN X0.here hx rfl (hb hby d15_4) rfl k) ?_
  refine Go.st (f' := (mkF m 6 #[iv i, iv n, .val .null] [(.int n), (.int i)])) (fun _ k => XS.iloadN X0.here hx rfl (hb hby d15_5) rfl k) ?_
  refine Go.st (f' := (mkF m 16 #[iv i, iv n, .val .null] [])) (fun _ k => XS.icmpYes X0.here hx rfl (pc0 := 6) (pc' := 16) rfl (hb hby d15_6) rfl (tlt hhi).1 (by decide) (by decide) k) ?_
  refine Go.st (f' := (mkF m 17 #[iv i, iv n, .val .null] [(.int i)])) (fun _ k => XS.iloadN X0.here hx rfl (hb hby d15_16) rfl k) ?_
  refine Go.retV X0 hlk hx (t := .int) hret rfl (Or.inl ⟨rfl, Or.inl rfl, _, rfl⟩) (hb hby d15_17) e0 ?_ (by decide) (by decide)
  exact ⟨rfl, N0, rfl⟩
set_option maxRecDepth 65536 in
set_option maxHeartbeats 40000000 in
theorem ck_r (l : Launch) (Z : State) (a0 : Array Value) (hw : ∀ d ∈ tables_1, d.before a0 Z = true) (ws : List Jvm.Cond) (i : Int32) (n : Int32) (a1 : Addr) (h0 : Heap) (n0 : Nat) (O0 : Old Z n0 h0) (hlo : ¬ i < (0 : Int32)) (hhi : i < n) :
    Con l Z (⟨"jdk/internal/util/Preconditions", "checkIndex", "(IILjava/util/function/BiFunction;)I"⟩ : MethodName) jdk_41_method_11_code 3 (some .int) ws ({ frames := 0, cells := 0, slots := 0, locals := 0 } : Room) #[(.int i), (.int n), (.ref a1)] h0 (fun v h L => v = some (.int i) ∧ Fr n0 L ∧ h = h0) := by
  refine own_body (plainFor_of_name pn_jdk_internal_util_Preconditions) ?_
  intro p e s m below meth c s₁ hx hby hml hZ hown hnm hlk hret X0 e0
  have N0 := Fr.nil n0
  refine Go.st (T' := s₁) (f' := (mkF m 0 #[iv i, iv n, rv a1] [])) (fun _ k => castTop (by first | (simp [entryFrame, mkF, argsToLocals, Value.category]; done) | rfl) k) ?_
  refine Go.st (f' := (mkF m 1 #[iv i, iv n, rv a1] [(.int i)])) (fun _ k => XS.iloadN X0.here hx rfl (hb hby d15_0) rfl k) ?_
  refine Go.st (f' := (mkF m 4 #[iv i, iv n, rv a1] [])) (fun _ k => XS.ifNo X0.here hx rfl (hb hby d15_1) rfl ((if0 _ _).trans (flt hlo).1) k) ?_
  refine Go.st (f' := (mkF m 5 #[iv i, iv n, rv a1] [(.int i)])) (fun _ k => XS.iloadN X0.here hx rfl (hb hby d15_4) rfl k) ?_
  refine Go.st (f' := (mkF m 6 #[iv i, iv n, rv a1] [(.int n), (.int i)])) (fun _ k => XS.iloadN X0.here hx rfl (hb hby d15_5) rfl k) ?_
  refine Go.st (f' := (mkF m 16 #[iv i, iv n, rv a1] [])) (fun _ k => XS.icmpYes X0.here hx rfl (pc0 := 6) (pc' := 16) rfl (hb hby d15_6) rfl (tlt hhi).1 (by decide) (by decide) k) ?_
  refine Go.st (f' := (mkF m 17 #[iv i, iv n, rv a1] [(.int i)])) (fun _ k => XS.iloadN X0.here hx rfl (hb hby d15_16) rfl k) ?_
  refine Go.retV X0 hlk hx (t := .int) hret rfl (Or.inl ⟨rfl, Or.inl rfl, _, rfl⟩) (hb hby d15_17) e0 ?_ (by decide) (by decide)
  exact ⟨rfl, N0, rfl⟩
theorem ck_v (l : Launch) (Z : State) (a0 : Array Value) (hw : ∀ d ∈ tables_1, d.before a0 Z = true) (ws : List Jvm.Cond) (i : Int32) (n : Int32) (nv : Value) (h0 : Heap) (n0 : Nat) (O0 : Old Z n0 h0) (hnv : nv.isRef = true) (hlo : ¬ i < (0 : Int32)) (hhi : i < n) :
    Con l Z (⟨"jdk/internal/util/Preconditions", "checkIndex", "(IILjava/util/function/BiFunction;)I"⟩ : MethodName) jdk_41_method_11_code 3 (some .int) ws ({ frames := 0, cells := 0, slots := 0, locals := 0 } : Room) #[(.int i), (.int n), nv] h0 (fun v h L => v = some (.int i) ∧ Fr n0 L ∧ h = h0) := by
  rcases ref_cases hnv with rfl | ⟨a, rfl⟩
  · exact ck_n l Z a0 hw ws i n h0 n0 O0 hlo hhi
  · exact ck_r l Z a0 hw ws i n a h0 n0 O0 hlo hhi
theorem d14_0 : decode jdk_42_method_155_code 0 = .ok (.iload_n 0, 1) := by decide +kernel
theorem d14_1 : decode jdk_42_method_155_code 1 = .ok (.iload_n 1, 1) := by decide +kernel
theorem d14_2 : decode jdk_42_method_155_code 2 = .ok (.getstatic 1053, 3) := by decide +kernel
theorem d14_5 : decode jdk_42_method_155_code 5 = .ok (.invokestatic 1059, 3) := by decide +kernel
theorem pd__IILjava_util_function_BiFunction__I : parseMethodDescriptor "(IILjava/util/function/BiFunction;)I" = some ⟨[.int, .int, (.object "java/util/function/BiFunction")], some .int⟩ := by decide +kernel
theorem d14_8 : decode jdk_42_method_155_code 8 = .ok (.pop, 1) := by decide +kernel
theorem d14_9 : decode jdk_42_method_155_code 9 = .ok (.return_, 1) := by decide +kernel
set_option maxRecDepth 65536 in
set_option maxHeartbeats 40000000 in
theorem ck_s (l : Launch) (Z : State) (a0 : Array Value) (hw : ∀ d ∈ tables_1, d.before a0 Z = true) (ws : List Jvm.Cond) (i : Int32) (n : Int32) (i_COMPACT_STRINGS : Int32) (v_SIOOBE_FORMATTER : Value) (h0 : Heap) (n0 : Nat) (O0 : Old Z n0 h0) (hlo : ¬ i < (0 : Int32)) (hhi : i < n) (WW : World1 Z i_COMPACT_STRINGS v_SIOOBE_FORMATTER) :
    Con l Z (⟨"java/lang/String", "checkIndex", "(II)V"⟩ : MethodName) jdk_42_method_155_code 2 none ws ({ frames := 1, cells := 0, slots := 0, locals := 14 } : Room) #[(.int i), (.int n)] h0 (fun v h L => v = none ∧ Fr n0 L ∧ h = h0) := by
  refine own_body (plainFor_of_name pn_java_lang_String) ?_
  intro p e s m below meth c s₁ hx hby hml hZ hown hnm hlk hret X0 e0
  have N0 := Fr.nil n0
  refine Go.st (T' := s₁) (f' := (mkF m 0 #[iv i, iv n] [])) (fun _ k => castTop (by first | (simp [entryFrame, mkF, argsToLocals, Value.category]; done) | rfl) k) ?_
  have ⟨S_i_COMPACT_STRINGS, nz_i_COMPACT_STRINGS, S_v_SIOOBE_FORMATTER, r_v_SIOOBE_FORMATTER, S_i__assertionsDisabled, S_i_HI_BYTE_SHIFT, S_i_LO_BYTE_SHIFT⟩ := WW
  refine Go.st (f' := (mkF m 1 #[iv i, iv n] [(.int i)])) (fun _ k => XS.iloadN X0.here hx rfl (hb hby d14_0) rfl k) ?_
  refine Go.st (f' := (mkF m 2 #[iv i, iv n] [(.int n), (.int i)])) (fun _ k => XS.iloadN X0.here hx rfl (hb hby d14_1) rfl k) ?_
  obtain ⟨T1, X1, e1, st1⟩ := getS2 X0 hx hZ hown (host := "") (Or.inl (ww hw 72 rfl)) Via.refl e0 (S_v_SIOOBE_FORMATTER.ext O0.2) (g := (mkF m 2 #[iv i, iv n] [(.int n), (.int i)])) rfl (hb hby d14_2)
  refine Go.st (f' := (mkF m 5 #[iv i, iv n] [v_SIOOBE_FORMATTER, (.int n), (.int i)])) (fun _ k => st1 _ k) ?_
  obtain ⟨_, _, ⟨T2, L2, kk2, nn2⟩, -, X2, ⟨Lc2, hQ2, lq2, yq2, zz2⟩, st2⟩ := Jvm.LawKit.callS X1 hx (y := (⟨"jdk/internal/util/Preconditions", "checkIndex", "(IILjava/util/function/BiFunction;)I"⟩ : MethodName)) hown (mvT hZ (ww hw 74 rfl)) (mvT hZ (ww hw 75 rfl)) (mvT hZ (ww hw 73 rfl)) (mvT hZ (ww hw 76 rfl)) (by decide) (own_back (W := 0) (ck_v l Z a0 hw [] i n v_SIOOBE_FORMATTER h0 n0 O0 r_v_SIOOBE_FORMATTER hlo hhi) hZ (ww hw 76 rfl) (ww hw 73 rfl) (by decide) (by decide)) (g := (mkF m 5 #[iv i, iv n] [v_SIOOBE_FORMATTER, (.int n), (.int i)])) rfl (by rw [hml]; rfl) (argsL := [(.int i), (.int n), v_SIOOBE_FORMATTER]) (rest := []) (lenOf pd__IILjava_util_function_BiFunction__I rfl) rfl (by show 2 * 0 + _ ≤ _; exact Nat.le_of_eq rfl) (hb hby d14_5) (fun _ _ => ⟨rfl, e1, (by decide : 0 + 0 ≤ _), (by decide : 0 + 0 ≤ _)⟩)
  dsimp only [Pt.U, Pt.locs, Pt.cells, Pt.slots] at X2 lq2 yq2 zz2 st2 hQ2
  subst lq2 yq2 zz2
  obtain ⟨rfl, Nq2, kq2⟩ := hQ2
  have N2 := Fr.app N0 Nq2
  refine Go.st (f' := (mkF m 8 #[iv i, iv n] [(.int i)])) (fun _ k => st2 _ k) ?_
  refine Go.st (f' := (mkF m 9 #[iv i, iv n] [])) (fun _ k => XS.pop X2.here hx rfl (hb hby d14_8) rfl rfl k) ?_
  refine Go.ret0 X2 hlk hx hret (hb hby d14_9) kq2 ?_ (by decide) (by decide)
  exact ⟨rfl, N2, rfl⟩
theorem d6_0 : decode jdk_42_method_152_code 0 = .ok (.getstatic 38, 3) := by decide +kernel
theorem d6_3 : decode jdk_42_method_152_code 3 = .ok (.ifCond .eq 10, 3) := by decide +kernel
theorem d6_6 : decode jdk_42_method_152_code 6 = .ok (.aload_n 0, 1) := by decide +kernel
theorem d6_7 : decode jdk_42_method_152_code 7 = .ok (.getfield 15, 3) := by decide +kernel
theorem d6_10 : decode jdk_42_method_152_code 10 = .ok (.goto 4, 3) := by decide +kernel
theorem d6_14 : decode jdk_42_method_152_code 14 = .ok (.ireturn, 1) := by decide +kernel
set_option maxRecDepth 65536 in
set_option maxHeartbeats 40000000 in
theorem cod0 (l : Launch) (Z : State) (a0 : Array Value) (hw : ∀ d ∈ tables_1, d.before a0 Z = true) (ws : List Jvm.Cond) (a1 : Addr) (i_COMPACT_STRINGS : Int32) (v_SIOOBE_FORMATTER : Value) (h0 : Heap) (n0 : Nat) (O0 : Old Z n0 h0) (E_a1 : Exa Z h0 a1 "java/lang/String") (F_a1_coder : Fld Z h0 a1 "java/lang/String" "coder" "B" (.int 0)) (WW : World1 Z i_COMPACT_STRINGS v_SIOOBE_FORMATTER) :
    Con l Z (⟨"java/lang/String", "coder", "()B"⟩ : MethodName) jdk_42_method_152_code 1 (some .byte) ws ({ frames := 0, cells := 0, slots := 0, locals := 0 } : Room) #[(.ref a1)] h0 (fun v h L => v = some (.int 0) ∧ Fr n0 L ∧ h = h0) := by
  refine own_body (plainFor_of_name pn_java_lang_String) ?_
  intro p e s m below meth c s₁ hx hby hml hZ hown hnm hlk hret X0 e0
  have N0 := Fr.nil n0
  refine Go.st (T' := s₁) (f' := (mkF m 0 #[rv a1] [])) (fun _ k => castTop (by first | (simp [entryFrame, mkF, argsToLocals, Value.category]; done) | rfl) k) ?_
  have ⟨S_i_COMPACT_STRINGS, nz_i_COMPACT_STRINGS, S_v_SIOOBE_FORMATTER, r_v_SIOOBE_FORMATTER, S_i__assertionsDisabled, S_i_HI_BYTE_SHIFT, S_i_LO_BYTE_SHIFT⟩ := WW
  have lt_a1 := E_a1.lt
  obtain ⟨T1, X1, e1, st1⟩ := getS2 X0 hx hZ hown (host := "") (Or.inl (ww hw 40 rfl)) Via.refl e0 (S_i_COMPACT_STRINGS.ext O0.2) (g := (mkF m 0 #[rv a1] [])) rfl (hb hby d6_0)
  refine Go.st (f' := (mkF m 3 #[rv a1] [(.int i_COMPACT_STRINGS)])) (fun _ k => st1 _ k) ?_
  refine Go.st (f' := (mkF m 6 #[rv a1] [])) (fun _ k => XS.ifNo X1.here hx rfl (hb hby d6_3) rfl ((if0 _ _).trans (feq nz_i_COMPACT_STRINGS).1) k) ?_
  refine Go.st (f' := (mkF m 7 #[rv a1] [(.ref a1)])) (fun _ k => XS.aloadN X1.here hx rfl (hb hby d6_6) rfl rfl k) ?_
  obtain ⟨T2, X2, e2, st2⟩ := getF X1 hx hZ hown (host := "") (Or.inl (ww hw 25 rfl)) Via.refl e1 F_a1_coder (g := (mkF m 7 #[rv a1] [(.ref a1)])) rfl rfl (hb hby d6_7)
  refine Go.st (f' := (mkF m 10 #[rv a1] [(.int 0)])) (fun _ k => st2 _ k) ?_
  refine Go.st (f' := (mkF m 14 #[rv a1] [(.int 0)])) (fun _ k => XS.goto X2.here hx rfl (pc0 := 10) (pc' := 14) rfl (hb hby d6_10) (by decide) (by decide) k) ?_
  refine Go.retB X2 hlk hx (t := .byte) hret (by simp) (hb hby d6_14) e2 ?_ (by decide) (by decide)
  exact ⟨rfl, N0, rfl⟩
set_option maxRecDepth 65536 in
set_option maxHeartbeats 40000000 in
theorem cod1 (l : Launch) (Z : State) (a0 : Array Value) (hw : ∀ d ∈ tables_1, d.before a0 Z = true) (ws : List Jvm.Cond) (a1 : Addr) (i_COMPACT_STRINGS : Int32) (v_SIOOBE_FORMATTER : Value) (h0 : Heap) (n0 : Nat) (O0 : Old Z n0 h0) (E_a1 : Exa Z h0 a1 "java/lang/String") (F_a1_coder : Fld Z h0 a1 "java/lang/String" "coder" "B" (.int 1)) (WW : World1 Z i_COMPACT_STRINGS v_SIOOBE_FORMATTER) :
    Con l Z (⟨"java/lang/String", "coder", "()B"⟩ : MethodName) jdk_42_method_152_code 1 (some .byte) ws ({ frames := 0, cells := 0, slots := 0, locals := 0 } : Room) #[(.ref a1)] h0 (fun v h L => v = some (.int 1) ∧ Fr n0 L ∧ h = h0) := by
  refine own_body (plainFor_of_name pn_java_lang_String) ?_
  intro p e s m below meth c s₁ hx hby hml hZ hown hnm hlk hret X0 e0
  have N0 := Fr.nil n0
  refine Go.st (T' := s₁) (f' := (mkF m 0 #[rv a1] [])) (fun _ k => castTop (by first | (simp [entryFrame, mkF, argsToLocals, Value.category]; done) | rfl) k) ?_
  have ⟨S_i_COMPACT_STRINGS, nz_i_COMPACT_STRINGS, S_v_SIOOBE_FORMATTER, r_v_SIOOBE_FORMATTER, S_i__assertionsDisabled, S_i_HI_BYTE_SHIFT, S_i_LO_BYTE_SHIFT⟩ := WW
  have lt_a1 := E_a1.lt
  obtain ⟨T1, X1, e1, st1⟩ := getS2 X0 hx hZ hown (host := "") (Or.inl (ww hw 40 rfl)) Via.refl e0 (S_i_COMPACT_STRINGS.ext O0.2) (g := (mkF m 0 #[rv a1] [])) rfl (hb hby d6_0)
  refine Go.st (f' := (mkF m 3 #[rv a1] [(.int i_COMPACT_STRINGS)])) (fun _ k => st1 _ k) ?_
  refine Go.st (f' := (mkF m 6 #[rv a1] [])) (fun _ k => XS.ifNo X1.here hx rfl (hb hby d6_3) rfl ((if0 _ _).trans (feq nz_i_COMPACT_STRINGS).1) k) ?_
  refine Go.st (f' := (mkF m 7 #[rv a1] [(.ref a1)])) (fun _ k => XS.aloadN X1.here hx rfl (hb hby d6_6) rfl rfl k) ?_
  obtain ⟨T2, X2, e2, st2⟩ := getF X1 hx hZ hown (host := "") (Or.inl (ww hw 25 rfl)) Via.refl e1 F_a1_coder (g := (mkF m 7 #[rv a1] [(.ref a1)])) rfl rfl (hb hby d6_7)
  refine Go.st (f' := (mkF m 10 #[rv a1] [(.int 1)])) (fun _ k => st2 _ k) ?_
  refine Go.st (f' := (mkF m 14 #[rv a1] [(.int 1)])) (fun _ k => XS.goto X2.here hx rfl (pc0 := 10) (pc' := 14) rfl (hb hby d6_10) (by decide) (by decide) k) ?_
  refine Go.retB X2 hlk hx (t := .byte) hret (by simp) (hb hby d6_14) e2 ?_ (by decide) (by decide)
  exact ⟨rfl, N0, rfl⟩
theorem d12_0 : decode jdk_42_method_154_code 0 = .ok (.getstatic 38, 3) := by decide +kernel
theorem d12_3 : decode jdk_42_method_154_code 3 = .ok (.ifCond .eq 14, 3) := by decide +kernel
theorem d12_6 : decode jdk_42_method_154_code 6 = .ok (.aload_n 0, 1) := by decide +kernel
theorem d12_7 : decode jdk_42_method_154_code 7 = .ok (.getfield 15, 3) := by decide +kernel
theorem d12_10 : decode jdk_42_method_154_code 10 = .ok (.ifCond .ne 7, 3) := by decide +kernel
theorem d12_13 : decode jdk_42_method_154_code 13 = .ok (.iconst 1, 1) := by decide +kernel
theorem d12_14 : decode jdk_42_method_154_code 14 = .ok (.goto 4, 3) := by decide +kernel
theorem d12_18 : decode jdk_42_method_154_code 18 = .ok (.ireturn, 1) := by decide +kernel
set_option maxRecDepth 65536 in
set_option maxHeartbeats 40000000 in
theorem lat0 (l : Launch) (Z : State) (a0 : Array Value) (hw : ∀ d ∈ tables_1, d.before a0 Z = true) (ws : List Jvm.Cond) (a1 : Addr) (i_COMPACT_STRINGS : Int32) (v_SIOOBE_FORMATTER : Value) (h0 : Heap) (n0 : Nat) (O0 : Old Z n0 h0) (E_a1 : Exa Z h0 a1 "java/lang/String") (F_a1_coder : Fld Z h0 a1 "java/lang/String" "coder" "B" (.int 0)) (WW : World1 Z i_COMPACT_STRINGS v_SIOOBE_FORMATTER) :
    Con l Z (⟨"java/lang/String", "isLatin1", "()Z"⟩ : MethodName) jdk_42_method_154_code 1 (some .boolean) ws ({ frames := 0, cells := 0, slots := 0, locals := 0 } : Room) #[(.ref a1)] h0 (fun v h L => v = some (.int 1) ∧ Fr n0 L ∧ h = h0) := by
  refine own_body (plainFor_of_name pn_java_lang_String) ?_
  intro p e s m below meth c s₁ hx hby hml hZ hown hnm hlk hret X0 e0
  have N0 := Fr.nil n0
  refine Go.st (T' := s₁) (f' := (mkF m 0 #[rv a1] [])) (fun _ k => castTop (by first | (simp [entryFrame, mkF, argsToLocals, Value.category]; done) | rfl) k) ?_
  have ⟨S_i_COMPACT_STRINGS, nz_i_COMPACT_STRINGS, S_v_SIOOBE_FORMATTER, r_v_SIOOBE_FORMATTER, S_i__assertionsDisabled, S_i_HI_BYTE_SHIFT, S_i_LO_BYTE_SHIFT⟩ := WW
  have lt_a1 := E_a1.lt
  obtain ⟨T1, X1, e1, st1⟩ := getS2 X0 hx hZ hown (host := "") (Or.inl (ww hw 40 rfl)) Via.refl e0 (S_i_COMPACT_STRINGS.ext O0.2) (g := (mkF m 0 #[rv a1] [])) rfl (hb hby d12_0)
  refine Go.st (f' := (mkF m 3 #[rv a1] [(.int i_COMPACT_STRINGS)])) (fun _ k => st1 _ k) ?_
  refine Go.st (f' := (mkF m 6 #[rv a1] [])) (fun _ k => XS.ifNo X1.here hx rfl (hb hby d12_3) rfl ((if0 _ _).trans (feq nz_i_COMPACT_STRINGS).1) k) ?_
  refine Go.st (f' := (mkF m 7 #[rv a1] [(.ref a1)])) (fun _ k => XS.aloadN X1.here hx rfl (hb hby d12_6) rfl rfl k) ?_
  obtain ⟨T2, X2, e2, st2⟩ := getF X1 hx hZ hown (host := "") (Or.inl (ww hw 25 rfl)) Via.refl e1 F_a1_coder (g := (mkF m 7 #[rv a1] [(.ref a1)])) rfl rfl (hb hby d12_7)
  refine Go.st (f' := (mkF m 10 #[rv a1] [(.int 0)])) (fun _ k => st2 _ k) ?_
  refine Go.st (f' := (mkF m 13 #[rv a1] [])) (fun _ k => XS.ifNo X2.here hx rfl (hb hby d12_10) rfl (by decide) k) ?_
  refine Go.st (f' := (mkF m 14 #[rv a1] [(.int 1)])) (fun _ k => XS.iconst X2.here hx rfl (hb hby d12_13) k) ?_
  refine Go.st (f' := (mkF m 18 #[rv a1] [(.int 1)])) (fun _ k => XS.goto X2.here hx rfl (pc0 := 14) (pc' := 18) rfl (hb hby d12_14) (by decide) (by decide) k) ?_
  refine Go.retB X2 hlk hx (t := .boolean) hret (by simp) (hb hby d12_18) e2 ?_ (by decide) (by decide)
  exact ⟨rfl, N0, rfl⟩
theorem d12_17 : decode jdk_42_method_154_code 17 = .ok (.iconst 0, 1) := by decide +kernel
set_option maxRecDepth 65536 in
set_option maxHeartbeats 40000000 in
theorem lat1 (l : Launch) (Z : State) (a0 : Array Value) (hw : ∀ d ∈ tables_1, d.before a0 Z = true) (ws : List Jvm.Cond) (a1 : Addr) (i_COMPACT_STRINGS : Int32) (v_SIOOBE_FORMATTER : Value) (h0 : Heap) (n0 : Nat) (O0 : Old Z n0 h0) (E_a1 : Exa Z h0 a1 "java/lang/String") (F_a1_coder : Fld Z h0 a1 "java/lang/String" "coder" "B" (.int 1)) (WW : World1 Z i_COMPACT_STRINGS v_SIOOBE_FORMATTER) :
    Con l Z (⟨"java/lang/String", "isLatin1", "()Z"⟩ : MethodName) jdk_42_method_154_code 1 (some .boolean) ws ({ frames := 0, cells := 0, slots := 0, locals := 0 } : Room) #[(.ref a1)] h0 (fun v h L => v = some (.int 0) ∧ Fr n0 L ∧ h = h0) := by
  refine own_body (plainFor_of_name pn_java_lang_String) ?_
  intro p e s m below meth c s₁ hx hby hml hZ hown hnm hlk hret X0 e0
  have N0 := Fr.nil n0
  refine Go.st (T' := s₁) (f' := (mkF m 0 #[rv a1] [])) (fun _ k => castTop (by first | (simp [entryFrame, mkF, argsToLocals, Value.category]; done) | rfl) k) ?_
  have ⟨S_i_COMPACT_STRINGS, nz_i_COMPACT_STRINGS, S_v_SIOOBE_FORMATTER, r_v_SIOOBE_FORMATTER, S_i__assertionsDisabled, S_i_HI_BYTE_SHIFT, S_i_LO_BYTE_SHIFT⟩ := WW
  have lt_a1 := E_a1.lt
  obtain ⟨T1, X1, e1, st1⟩ := getS2 X0 hx hZ hown (host := "") (Or.inl (ww hw 40 rfl)) Via.refl e0 (S_i_COMPACT_STRINGS.ext O0.2) (g := (mkF m 0 #[rv a1] [])) rfl (hb hby d12_0)
  refine Go.st (f' := (mkF m 3 #[rv a1] [(.int i_COMPACT_STRINGS)])) (fun _ k => st1 _ k) ?_
  refine Go.st (f' := (mkF m 6 #[rv a1] [])) (fun _ k => XS.ifNo X1.here hx rfl (hb hby d12_3) rfl ((if0 _ _).trans (feq nz_i_COMPACT_STRINGS).1) k) ?_
  refine Go.st (f' := (mkF m 7 #[rv a1] [(.ref a1)])) (fun _ k => XS.aloadN X1.here hx rfl (hb hby d12_6) rfl rfl k) ?_
  obtain ⟨T2, X2, e2, st2⟩ := getF X1 hx hZ hown (host := "") (Or.inl (ww hw 25 rfl)) Via.refl e1 F_a1_coder (g := (mkF m 7 #[rv a1] [(.ref a1)])) rfl rfl (hb hby d12_7)
  refine Go.st (f' := (mkF m 10 #[rv a1] [(.int 1)])) (fun _ k => st2 _ k) ?_
  refine Go.st (f' := (mkF m 17 #[rv a1] [])) (fun _ k => XS.ifYes X2.here hx rfl (pc0 := 10) (pc' := 17) rfl (hb hby d12_10) rfl (by decide) (by decide) (by decide) k) ?_
  refine Go.st (f' := (mkF m 18 #[rv a1] [(.int 0)])) (fun _ k => XS.iconst X2.here hx rfl (hb hby d12_17) k) ?_
  refine Go.retB X2 hlk hx (t := .boolean) hret (by simp) (hb hby d12_18) e2 ?_ (by decide) (by decide)
  exact ⟨rfl, N0, rfl⟩
theorem d5_0 : decode jdk_42_method_54_code 0 = .ok (.aload_n 0, 1) := by decide +kernel
theorem d5_1 : decode jdk_42_method_54_code 1 = .ok (.getfield 9, 3) := by decide +kernel
theorem d5_4 : decode jdk_42_method_54_code 4 = .ok (.arraylength, 1) := by decide +kernel
theorem d5_5 : decode jdk_42_method_54_code 5 = .ok (.aload_n 0, 1) := by decide +kernel
theorem d5_6 : decode jdk_42_method_54_code 6 = .ok (.invokevirtual 335, 3) := by decide +kernel
theorem pd___B : parseMethodDescriptor "()B" = some ⟨[], some .byte⟩ := by decide +kernel
theorem d5_9 : decode jdk_42_method_54_code 9 = .ok (.ishr, 1) := by decide +kernel
theorem d5_10 : decode jdk_42_method_54_code 10 = .ok (.ireturn, 1) := by decide +kernel
set_option maxRecDepth 65536 in
set_option maxHeartbeats 40000000 in
theorem ln_0_0 (l : Launch) (Z : State) (a0 : Array Value) (hw : ∀ d ∈ tables_1, d.before a0 Z = true) (ws : List Jvm.Cond) (a1 : Addr) (t1 : Addr) (k1 : ClassId) (es : List Value) (i_COMPACT_STRINGS : Int32) (v_SIOOBE_FORMATTER : Value) (h0 : Heap) (n0 : Nat) (O0 : Old Z n0 h0) (E_a1 : Exa Z h0 a1 "java/lang/String") (F_a1_coder : Fld Z h0 a1 "java/lang/String" "coder" "B" (.int 0)) (F_a1_value : Fld Z h0 a1 "java/lang/String" "value" "[B" (.ref t1)) (V_t1 : Arv Z h0 t1 k1 .byte (0 : Int32) es (.int 0)) (WW : World1 Z i_COMPACT_STRINGS v_SIOOBE_FORMATTER) :
    Con l Z (⟨"java/lang/String", "length", "()I"⟩ : MethodName) jdk_42_method_54_code 1 (some .int) ws ({ frames := 1, cells := 0, slots := 0, locals := 13 } : Room) #[(.ref a1)] h0 (fun v h L => v = some (.int 0) ∧ Fr n0 L ∧ h = h0) := by
  refine own_body (plainFor_of_name pn_java_lang_String) ?_
  intro p e s m below meth c s₁ hx hby hml hZ hown hnm hlk hret X0 e0
  have N0 := Fr.nil n0
  refine Go.st (T' := s₁) (f' := (mkF m 0 #[rv a1] [])) (fun _ k => castTop (by first | (simp [entryFrame, mkF, argsToLocals, Value.category]; done) | rfl) k) ?_
  have ⟨S_i_COMPACT_STRINGS, nz_i_COMPACT_STRINGS, S_v_SIOOBE_FORMATTER, r_v_SIOOBE_FORMATTER, S_i__assertionsDisabled, S_i_HI_BYTE_SHIFT, S_i_LO_BYTE_SHIFT⟩ := WW
  have lt_a1 := E_a1.lt
  have lt_t1 := V_t1.lt
  refine Go.st (f' := (mkF m 1 #[rv a1] [(.ref a1)])) (fun _ k => XS.aloadN X0.here hx rfl (hb hby d5_0) rfl rfl k) ?_
  obtain ⟨T1, X1, e1, st1⟩ := getF X0 hx hZ hown (host := "") (Or.inl (ww hw 24 rfl)) Via.refl e0 F_a1_value (g := (mkF m 1 #[rv a1] [(.ref a1)])) rfl rfl (hb hby d5_1)
  refine Go.st (f' := (mkF m 4 #[rv a1] [(.ref t1)])) (fun _ k => st1 _ k) ?_
  obtain ⟨cl2, Ar2, -, S2, Nx2, -, -⟩ := id V_t1
  refine Go.st (T' := T1) (f' := (mkF m 5 #[rv a1] [(.int 0)])) (fun _ k => X1.arraylength hx (by rw [e1]; exact Ar2.1) (State.isArrayOf_alike hZ.alike Ar2.2.1) (g := (mkF m 4 #[rv a1] [(.ref t1)])) rfl rfl (hb hby d5_4) _ (by rw [len_of S2 Nx2]; exact k)) ?_
  refine Go.st (f' := (mkF m 6 #[rv a1] [(.ref a1), (.int 0)])) (fun _ k => XS.aloadN X1.here hx rfl (hb hby d5_5) rfl rfl k) ?_
  obtain ⟨cq3, kq3, q3a, q3b, q3c⟩ := isOf hZ e1 E_a1
  obtain ⟨_, _, ⟨T3, L3, kk3, nn3⟩, -, X3, ⟨Lc3, hQ3, lq3, yq3, zz3⟩, st3⟩ := X1.virtualBack hx (y := (⟨"java/lang/String", "coder", "()B"⟩ : MethodName)) (z := (⟨"java/lang/String", "coder", "()B"⟩ : MethodName)) hown (mvT hZ (ww hw 35 rfl)) (mvT hZ (ww hw 36 rfl)) (notFace_of_selects (args := #[]) (mvT hZ (ww hw 38 rfl))) (mvT hZ (ww hw 38 rfl)) (mvT hZ (ww hw 37 rfl)) (by decide) (own_back (W := 1) (cod0 l Z a0 hw [] a1 i_COMPACT_STRINGS v_SIOOBE_FORMATTER h0 n0 O0 E_a1 F_a1_coder WW) hZ (ww hw 39 rfl) (ww hw 3 rfl) (by decide) (by decide)) q3a q3c (g := (mkF m 6 #[rv a1] [(.ref a1), (.int 0)])) rfl (by rw [hml]; rfl) (Steps.refl _) (argsL := []) (rest := [(.int (0 : Int32))]) (lenOf pd___B rfl) rfl (by show 2 * 0 + _ ≤ _; exact Nat.le_of_eq rfl) (hb hby d5_6) (fun _ _ => ⟨rfl, e1, (by decide : 0 + 0 ≤ _), (by decide : 0 + 0 ≤ _)⟩)
  dsimp only [Pt.U, Pt.locs, Pt.cells, Pt.slots] at X3 lq3 yq3 zz3 st3 hQ3
  subst lq3 yq3 zz3
  obtain ⟨rfl, Nq3, kq3⟩ := hQ3
  have N3 := Fr.app N0 Nq3
  refine Go.tr (f' := (mkF m 9 #[rv a1] [(.int 0), (.int 0)])) st3 ?_
  refine Go.st (f' := (mkF m 10 #[rv a1] [(.int 0)])) (fun _ k => XS.ishr X3.here hx rfl (hb hby d5_9) rfl k) ?_
  refine Go.retV X3 hlk hx (t := .int) hret rfl (Or.inl ⟨rfl, Or.inl rfl, _, rfl⟩) (hb hby d5_10) kq3 ?_ (by decide) (by decide)
  exact ⟨rfl, N3, rfl⟩
set_option maxRecDepth 65536 in
set_option maxHeartbeats 40000000 in
theorem ln_1_0 (l : Launch) (Z : State) (a0 : Array Value) (hw : ∀ d ∈ tables_1, d.before a0 Z = true) (ws : List Jvm.Cond) (a1 : Addr) (t1 : Addr) (k1 : ClassId) (es : List Value) (i_COMPACT_STRINGS : Int32) (v_SIOOBE_FORMATTER : Value) (h0 : Heap) (n0 : Nat) (O0 : Old Z n0 h0) (E_a1 : Exa Z h0 a1 "java/lang/String") (F_a1_coder : Fld Z h0 a1 "java/lang/String" "coder" "B" (.int 0)) (F_a1_value : Fld Z h0 a1 "java/lang/String" "value" "[B" (.ref t1)) (V_t1 : Arv Z h0 t1 k1 .byte (1 : Int32) es (.int 0)) (WW : World1 Z i_COMPACT_STRINGS v_SIOOBE_FORMATTER) :
    Con l Z (⟨"java/lang/String", "length", "()I"⟩ : MethodName) jdk_42_method_54_code 1 (some .int) ws ({ frames := 1, cells := 0, slots := 0, locals := 13 } : Room) #[(.ref a1)] h0 (fun v h L => v = some (.int 1) ∧ Fr n0 L ∧ h = h0) := by
  refine own_body (plainFor_of_name pn_java_lang_String) ?_
  intro p e s m below meth c s₁ hx hby hml hZ hown hnm hlk hret X0 e0
  have N0 := Fr.nil n0
  refine Go.st (T' := s₁) (f' := (mkF m 0 #[rv a1] [])) (fun _ k => castTop (by first | (simp [entryFrame, mkF, argsToLocals, Value.category]; done) | rfl) k) ?_
  have ⟨S_i_COMPACT_STRINGS, nz_i_COMPACT_STRINGS, S_v_SIOOBE_FORMATTER, r_v_SIOOBE_FORMATTER, S_i__assertionsDisabled, S_i_HI_BYTE_SHIFT, S_i_LO_BYTE_SHIFT⟩ := WW
  have lt_a1 := E_a1.lt
  have lt_t1 := V_t1.lt
  refine Go.st (f' := (mkF m 1 #[rv a1] [(.ref a1)])) (fun _ k => XS.aloadN X0.here hx rfl (hb hby d5_0) rfl rfl k) ?_
  obtain ⟨T1, X1, e1, st1⟩ := getF X0 hx hZ hown (host := "") (Or.inl (ww hw 24 rfl)) Via.refl e0 F_a1_value (g := (mkF m 1 #[rv a1] [(.ref a1)])) rfl rfl (hb hby d5_1)
  refine Go.st (f' := (mkF m 4 #[rv a1] [(.ref t1)])) (fun _ k => st1 _ k) ?_
  obtain ⟨cl2, Ar2, -, S2, Nx2, -, -⟩ := id V_t1
  refine Go.st (T' := T1) (f' := (mkF m 5 #[rv a1] [(.int 1)])) (fun _ k => X1.arraylength hx (by rw [e1]; exact Ar2.1) (State.isArrayOf_alike hZ.alike Ar2.2.1) (g := (mkF m 4 #[rv a1] [(.ref t1)])) rfl rfl (hb hby d5_4) _ (by rw [len_of S2 Nx2]; exact k)) ?_
  refine Go.st (f' := (mkF m 6 #[rv a1] [(.ref a1), (.int 1)])) (fun _ k => XS.aloadN X1.here hx rfl (hb hby d5_5) rfl rfl k) ?_
  obtain ⟨cq3, kq3, q3a, q3b, q3c⟩ := isOf hZ e1 E_a1
  obtain ⟨_, _, ⟨T3, L3, kk3, nn3⟩, -, X3, ⟨Lc3, hQ3, lq3, yq3, zz3⟩, st3⟩ := X1.virtualBack hx (y := (⟨"java/lang/String", "coder", "()B"⟩ : MethodName)) (z := (⟨"java/lang/String", "coder", "()B"⟩ : MethodName)) hown (mvT hZ (ww hw 35 rfl)) (mvT hZ (ww hw 36 rfl)) (notFace_of_selects (args := #[]) (mvT hZ (ww hw 38 rfl))) (mvT hZ (ww hw 38 rfl)) (mvT hZ (ww hw 37 rfl)) (by decide) (own_back (W := 1) (cod0 l Z a0 hw [] a1 i_COMPACT_STRINGS v_SIOOBE_FORMATTER h0 n0 O0 E_a1 F_a1_coder WW) hZ (ww hw 39 rfl) (ww hw 3 rfl) (by decide) (by decide)) q3a q3c (g := (mkF m 6 #[rv a1] [(.ref a1), (.int 1)])) rfl (by rw [hml]; rfl) (Steps.refl _) (argsL := []) (rest := [(.int (1 : Int32))]) (lenOf pd___B rfl) rfl (by show 2 * 0 + _ ≤ _; exact Nat.le_of_eq rfl) (hb hby d5_6) (fun _ _ => ⟨rfl, e1, (by decide : 0 + 0 ≤ _), (by decide : 0 + 0 ≤ _)⟩)
  dsimp only [Pt.U, Pt.locs, Pt.cells, Pt.slots] at X3 lq3 yq3 zz3 st3 hQ3
  subst lq3 yq3 zz3
  obtain ⟨rfl, Nq3, kq3⟩ := hQ3
  have N3 := Fr.app N0 Nq3
  refine Go.tr (f' := (mkF m 9 #[rv a1] [(.int 0), (.int 1)])) st3 ?_
  refine Go.st (f' := (mkF m 10 #[rv a1] [(.int 1)])) (fun _ k => XS.ishr X3.here hx rfl (hb hby d5_9) rfl k) ?_
  refine Go.retV X3 hlk hx (t := .int) hret rfl (Or.inl ⟨rfl, Or.inl rfl, _, rfl⟩) (hb hby d5_10) kq3 ?_ (by decide) (by decide)
  exact ⟨rfl, N3, rfl⟩
set_option maxRecDepth 65536 in
set_option maxHeartbeats 40000000 in
theorem ln_2_0 (l : Launch) (Z : State) (a0 : Array Value) (hw : ∀ d ∈ tables_1, d.before a0 Z = true) (ws : List Jvm.Cond) (a1 : Addr) (t1 : Addr) (k1 : ClassId) (es : List Value) (i_COMPACT_STRINGS : Int32) (v_SIOOBE_FORMATTER : Value) (h0 : Heap) (n0 : Nat) (O0 : Old Z n0 h0) (E_a1 : Exa Z h0 a1 "java/lang/String") (F_a1_coder : Fld Z h0 a1 "java/lang/String" "coder" "B" (.int 0)) (F_a1_value : Fld Z h0 a1 "java/lang/String" "value" "[B" (.ref t1)) (V_t1 : Arv Z h0 t1 k1 .byte (2 : Int32) es (.int 0)) (WW : World1 Z i_COMPACT_STRINGS v_SIOOBE_FORMATTER) :
    Con l Z (⟨"java/lang/String", "length", "()I"⟩ : MethodName) jdk_42_method_54_code 1 (some .int) ws ({ frames := 1, cells := 0, slots := 0, locals := 13 } : Room) #[(.ref a1)] h0 (fun v h L => v = some (.int 2) ∧ Fr n0 L ∧ h = h0) := by
  refine own_body (plainFor_of_name pn_java_lang_String) ?_
  intro p e s m below meth c s₁ hx hby hml hZ hown hnm hlk hret X0 e0
  have N0 := Fr.nil n0
  refine Go.st (T' := s₁) (f' := (mkF m 0 #[rv a1] [])) (fun _ k => castTop (by first | (simp [entryFrame, mkF, argsToLocals, Value.category]; done) | rfl) k) ?_
  have ⟨S_i_COMPACT_STRINGS, nz_i_COMPACT_STRINGS, S_v_SIOOBE_FORMATTER, r_v_SIOOBE_FORMATTER, S_i__assertionsDisabled, S_i_HI_BYTE_SHIFT, S_i_LO_BYTE_SHIFT⟩ := WW
  have lt_a1 := E_a1.lt
  have lt_t1 := V_t1.lt
  refine Go.st (f' := (mkF m 1 #[rv a1] [(.ref a1)])) (fun _ k => XS.aloadN X0.here hx rfl (hb hby d5_0) rfl rfl k) ?_
  obtain ⟨T1, X1, e1, st1⟩ := getF X0 hx hZ hown (host := "") (Or.inl (ww hw 24 rfl)) Via.refl e0 F_a1_value (g := (mkF m 1 #[rv a1] [(.ref a1)])) rfl rfl (hb hby d5_1)
  refine Go.st (f' := (mkF m 4 #[rv a1] [(.ref t1)])) (fun _ k => st1 _ k) ?_
  obtain ⟨cl2, Ar2, -, S2, Nx2, -, -⟩ := id V_t1
  refine Go.st (T' := T1) (f' := (mkF m 5 #[rv a1] [(.int 2)])) (fun _ k => X1.arraylength hx (by rw [e1]; exact Ar2.1) (State.isArrayOf_alike hZ.alike Ar2.2.1) (g := (mkF m 4 #[rv a1] [(.ref t1)])) rfl rfl (hb hby d5_4) _ (by rw [len_of S2 Nx2]; exact k)) ?_
  refine Go.st (f' := (mkF m 6 #[rv a1] [(.ref a1), (.int 2)])) (fun _ k => XS.aloadN X1.here hx rfl (hb hby d5_5) rfl rfl k) ?_
  obtain ⟨cq3, kq3, q3a, q3b, q3c⟩ := isOf hZ e1 E_a1
  obtain ⟨_, _, ⟨T3, L3, kk3, nn3⟩, -, X3, ⟨Lc3, hQ3, lq3, yq3, zz3⟩, st3⟩ := X1.virtualBack hx (y := (⟨"java/lang/String", "coder", "()B"⟩ : MethodName)) (z := (⟨"java/lang/String", "coder", "()B"⟩ : MethodName)) hown (mvT hZ (ww hw 35 rfl)) (mvT hZ (ww hw 36 rfl)) (notFace_of_selects (args := #[]) (mvT hZ (ww hw 38 rfl))) (mvT hZ (ww hw 38 rfl)) (mvT hZ (ww hw 37 rfl)) (by decide) (own_back (W := 1) (cod0 l Z a0 hw [] a1 i_COMPACT_STRINGS v_SIOOBE_FORMATTER h0 n0 O0 E_a1 F_a1_coder WW) hZ (ww hw 39 rfl) (ww hw 3 rfl) (by decide) (by decide)) q3a q3c (g := (mkF m 6 #[rv a1] [(.ref a1), (.int 2)])) rfl (by rw [hml]; rfl) (Steps.refl _) (argsL := []) (rest := [(.int (2 : Int32))]) (lenOf pd___B rfl) rfl (by show 2 * 0 + _ ≤ _; exact Nat.le_of_eq rfl) (hb hby d5_6) (fun _ _ => ⟨rfl, e1, (by decide : 0 + 0 ≤ _), (by decide : 0 + 0 ≤ _)⟩)
  dsimp only [Pt.U, Pt.locs, Pt.cells, Pt.slots] at X3 lq3 yq3 zz3 st3 hQ3
  subst lq3 yq3 zz3
  obtain ⟨rfl, Nq3, kq3⟩ := hQ3
  have N3 := Fr.app N0 Nq3
  refine Go.tr (f' := (mkF m 9 #[rv a1] [(.int 0), (.int 2)])) st3 ?_
  refine Go.st (f' := (mkF m 10 #[rv a1] [(.int 2)])) (fun _ k => XS.ishr X3.here hx rfl (hb hby d5_9) rfl k) ?_
  refine Go.retV X3 hlk hx (t := .int) hret rfl (Or.inl ⟨rfl, Or.inl rfl, _, rfl⟩) (hb hby d5_10) kq3 ?_ (by decide) (by decide)
  exact ⟨rfl, N3, rfl⟩
set_option maxRecDepth 65536 in
set_option maxHeartbeats 40000000 in
theorem ln_3_0 (l : Launch) (Z : State) (a0 : Array Value) (hw : ∀ d ∈ tables_1, d.before a0 Z = true) (ws : List Jvm.Cond) (a1 : Addr) (t1 : Addr) (k1 : ClassId) (es : List Value) (i_COMPACT_STRINGS : Int32) (v_SIOOBE_FORMATTER : Value) (h0 : Heap) (n0 : Nat) (O0 : Old Z n0 h0) (E_a1 : Exa Z h0 a1 "java/lang/String") (F_a1_coder : Fld Z h0 a1 "java/lang/String" "coder" "B" (.int 0)) (F_a1_value : Fld Z h0 a1 "java/lang/String" "value" "[B" (.ref t1)) (V_t1 : Arv Z h0 t1 k1 .byte (3 : Int32) es (.int 0)) (WW : World1 Z i_COMPACT_STRINGS v_SIOOBE_FORMATTER) :
    Con l Z (⟨"java/lang/String", "length", "()I"⟩ : MethodName) jdk_42_method_54_code 1 (some .int) ws ({ frames := 1, cells := 0, slots := 0, locals := 13 } : Room) #[(.ref a1)] h0 (fun v h L => v = some (.int 3) ∧ Fr n0 L ∧ h = h0) := by
  refine own_body (plainFor_of_name pn_java_lang_String) ?_
  intro p e s m below meth c s₁ hx hby hml hZ hown hnm hlk hret X0 e0
  have N0 := Fr.nil n0
  refine Go.st (T' := s₁) (f' := (mkF m 0 #[rv a1] [])) (fun _ k => castTop (by first | (simp [entryFrame, mkF, argsToLocals, Value.category]; done) | rfl) k) ?_
  have ⟨S_i_COMPACT_STRINGS, nz_i_COMPACT_STRINGS, S_v_SIOOBE_FORMATTER, r_v_SIOOBE_FORMATTER, S_i__assertionsDisabled, S_i_HI_BYTE_SHIFT, S_i_LO_BYTE_SHIFT⟩ := WW
  have lt_a1 := E_a1.lt
  have lt_t1 := V_t1.lt
  refine Go.st (f' := (mkF m 1 #[rv a1] [(.ref a1)])) (fun _ k => XS.aloadN X0.here hx rfl (hb hby d5_0) rfl rfl k) ?_
  obtain ⟨T1, X1, e1, st1⟩ := getF X0 hx hZ hown (host := "") (Or.inl (ww hw 24 rfl)) Via.refl e0 F_a1_value (g := (mkF m 1 #[rv a1] [(.ref a1)])) rfl rfl (hb hby d5_1)
  refine Go.st (f' := (mkF m 4 #[rv a1] [(.ref t1)])) (fun _ k => st1 _ k) ?_
  obtain ⟨cl2, Ar2, -, S2, Nx2, -, -⟩ := id V_t1
  refine Go.st (T' := T1) (f' := (mkF m 5 #[rv a1] [(.int 3)])) (fun _ k => X1.arraylength hx (by rw [e1]; exact Ar2.1) (State.isArrayOf_alike hZ.alike Ar2.2.1) (g := (mkF m 4 #[rv a1] [(.ref t1)])) rfl rfl (hb hby d5_4) _ (by rw [len_of S2 Nx2]; exact k)) ?_
  refine Go.st (f' := (mkF m 6 #[rv a1] [(.ref a1), (.int 3)])) (fun _ k => XS.aloadN X1.here hx rfl (hb hby d5_5) rfl rfl k) ?_
  obtain ⟨cq3, kq3, q3a, q3b, q3c⟩ := isOf hZ e1 E_a1
  obtain ⟨_, _, ⟨T3, L3, kk3, nn3⟩, -, X3, ⟨Lc3, hQ3, lq3, yq3, zz3⟩, st3⟩ := X1.virtualBack hx (y := (⟨"java/lang/String", "coder", "()B"⟩ : MethodName)) (z := (⟨"java/lang/String", "coder", "()B"⟩ : MethodName)) hown (mvT hZ (ww hw 35 rfl)) (mvT hZ (ww hw 36 rfl)) (notFace_of_selects (args := #[]) (mvT hZ (ww hw 38 rfl))) (mvT hZ (ww hw 38 rfl)) (mvT hZ (ww hw 37 rfl)) (by decide) (own_back (W := 1) (cod0 l Z a0 hw [] a1 i_COMPACT_STRINGS v_SIOOBE_FORMATTER h0 n0 O0 E_a1 F_a1_coder WW) hZ (ww hw 39 rfl) (ww hw 3 rfl) (by decide) (by decide)) q3a q3c (g := (mkF m 6 #[rv a1] [(.ref a1), (.int 3)])) rfl (by rw [hml]; rfl) (Steps.refl _) (argsL := []) (rest := [(.int (3 : Int32))]) (lenOf pd___B rfl) rfl (by show 2 * 0 + _ ≤ _; exact Nat.le_of_eq rfl) (hb hby d5_6) (fun _ _ => ⟨rfl, e1, (by decide : 0 + 0 ≤ _), (by decide : 0 + 0 ≤ _)⟩)
  dsimp only [Pt.U, Pt.locs, Pt.cells, Pt.slots] at X3 lq3 yq3 zz3 st3 hQ3
  subst lq3 yq3 zz3
  obtain ⟨rfl, Nq3, kq3⟩ := hQ3
  have N3 := Fr.app N0 Nq3
  refine Go.tr (f' := (mkF m 9 #[rv a1] [(.int 0), (.int 3)])) st3 ?_
  refine Go.st (f' := (mkF m 10 #[rv a1] [(.int 3)])) (fun _ k => XS.ishr X3.here hx rfl (hb hby d5_9) rfl k) ?_
  refine Go.retV X3 hlk hx (t := .int) hret rfl (Or.inl ⟨rfl, Or.inl rfl, _, rfl⟩) (hb hby d5_10) kq3 ?_ (by decide) (by decide)
  exact ⟨rfl, N3, rfl⟩
set_option maxRecDepth 65536 in
set_option maxHeartbeats 40000000 in
theorem ln_2_1 (l : Launch) (Z : State) (a0 : Array Value) (hw : ∀ d ∈ tables_1, d.before a0 Z = true) (ws : List Jvm.Cond) (a1 : Addr) (t1 : Addr) (k1 : ClassId) (es : List Value) (i_COMPACT_STRINGS : Int32) (v_SIOOBE_FORMATTER : Value) (h0 : Heap) (n0 : Nat) (O0 : Old Z n0 h0) (E_a1 : Exa Z h0 a1 "java/lang/String") (F_a1_coder : Fld Z h0 a1 "java/lang/String" "coder" "B" (.int 1)) (F_a1_value : Fld Z h0 a1 "java/lang/String" "value" "[B" (.ref t1)) (V_t1 : Arv Z h0 t1 k1 .byte (2 : Int32) es (.int 0)) (WW : World1 Z i_COMPACT_STRINGS v_SIOOBE_FORMATTER) :
    Con l Z (⟨"java/lang/String", "length", "()I"⟩ : MethodName) jdk_42_method_54_code 1 (some .int) ws ({ frames := 1, cells := 0, slots := 0, locals := 13 } : Room) #[(.ref a1)] h0 (fun v h L => v = some (.int 1) ∧ Fr n0 L ∧ h = h0) := by
  refine own_body (plainFor_of_name pn_java_lang_String) ?_
  intro p e s m below meth c s₁ hx hby hml hZ hown hnm hlk hret X0 e0
  have N0 := Fr.nil n0
  refine Go.st (T' := s₁) (f' := (mkF m 0 #[rv a1] [])) (fun _ k => castTop (by first | (simp [entryFrame, mkF, argsToLocals, Value.category]; done) | rfl) k) ?_
  have ⟨S_i_COMPACT_STRINGS, nz_i_COMPACT_STRINGS, S_v_SIOOBE_FORMATTER, r_v_SIOOBE_FORMATTER, S_i__assertionsDisabled, S_i_HI_BYTE_SHIFT, S_i_LO_BYTE_SHIFT⟩ := WW
  have lt_a1 := E_a1.lt
  have lt_t1 := V_t1.lt
  refine Go.st (f' := (mkF m 1 #[rv a1] [(.ref a1)])) (fun _ k => XS.aloadN X0.here hx rfl (hb hby d5_0) rfl rfl k) ?_
  obtain ⟨T1, X1, e1, st1⟩ := getF X0 hx hZ hown (host := "") (Or.inl (ww hw 24 rfl)) Via.refl e0 F_a1_value (g := (mkF m 1 #[rv a1] [(.ref a1)])) rfl rfl (hb hby d5_1)
  refine Go.st (f' := (mkF m 4 #[rv a1] [(.ref t1)])) (fun _ k => st1 _ k) ?_
  obtain ⟨cl2, Ar2, -, S2, Nx2, -, -⟩ := id V_t1
  refine Go.st (T' := T1) (f' := (mkF m 5 #[rv a1] [(.int 2)])) (fun _ k => X1.arraylength hx (by rw [e1]; exact Ar2.1) (State.isArrayOf_alike hZ.alike Ar2.2.1) (g := (mkF m 4 #[rv a1] [(.ref t1)])) rfl rfl (hb hby d5_4) _ (by rw [len_of S2 Nx2]; exact k)) ?_
  refine Go.st (f' := (mkF m 6 #[rv a1] [(.ref a1), (.int 2)])) (fun _ k => XS.aloadN X1.here hx rfl (hb hby d5_5) rfl rfl k) ?_
  obtain ⟨cq3, kq3, q3a, q3b, q3c⟩ := isOf hZ e1 E_a1
  obtain ⟨_, _, ⟨T3, L3, kk3, nn3⟩, -, X3, ⟨Lc3, hQ3, lq3, yq3, zz3⟩, st3⟩ := X1.virtualBack hx (y := (⟨"java/lang/String", "coder", "()B"⟩ : MethodName)) (z := (⟨"java/lang/String", "coder", "()B"⟩ : MethodName)) hown (mvT hZ (ww hw 35 rfl)) (mvT hZ (ww hw 36 rfl)) (notFace_of_selects (args := #[]) (mvT hZ (ww hw 38 rfl))) (mvT hZ (ww hw 38 rfl)) (mvT hZ (ww hw 37 rfl)) (by decide) (own_back (W := 1) (cod1 l Z a0 hw [] a1 i_COMPACT_STRINGS v_SIOOBE_FORMATTER h0 n0 O0 E_a1 F_a1_coder WW) hZ (ww hw 39 rfl) (ww hw 3 rfl) (by decide) (by decide)) q3a q3c (g := (mkF m 6 #[rv a1] [(.ref a1), (.int 2)])) rfl (by rw [hml]; rfl) (Steps.refl _) (argsL := []) (rest := [(.int (2 : Int32))]) (lenOf pd___B rfl) rfl (by show 2 * 0 + _ ≤ _; exact Nat.le_of_eq rfl) (hb hby d5_6) (fun _ _ => ⟨rfl, e1, (by decide : 0 + 0 ≤ _), (by decide : 0 + 0 ≤ _)⟩)
  dsimp only [Pt.U, Pt.locs, Pt.cells, Pt.slots] at X3 lq3 yq3 zz3 st3 hQ3
  subst lq3 yq3 zz3
  obtain ⟨rfl, Nq3, kq3⟩ := hQ3
  have N3 := Fr.app N0 Nq3
  refine Go.tr (f' := (mkF m 9 #[rv a1] [(.int 1), (.int 2)])) st3 ?_
  refine Go.st (f' := (mkF m 10 #[rv a1] [(.int 1)])) (fun _ k => XS.ishr X3.here hx rfl (hb hby d5_9) rfl k) ?_
  refine Go.retV X3 hlk hx (t := .int) hret rfl (Or.inl ⟨rfl, Or.inl rfl, _, rfl⟩) (hb hby d5_10) kq3 ?_ (by decide) (by decide)
  exact ⟨rfl, N3, rfl⟩
set_option maxRecDepth 65536 in
set_option maxHeartbeats 40000000 in
theorem ln_4_1 (l : Launch) (Z : State) (a0 : Array Value) (hw : ∀ d ∈ tables_1, d.before a0 Z = true) (ws : List Jvm.Cond) (a1 : Addr) (t1 : Addr) (k1 : ClassId) (es : List Value) (i_COMPACT_STRINGS : Int32) (v_SIOOBE_FORMATTER : Value) (h0 : Heap) (n0 : Nat) (O0 : Old Z n0 h0) (E_a1 : Exa Z h0 a1 "java/lang/String") (F_a1_coder : Fld Z h0 a1 "java/lang/String" "coder" "B" (.int 1)) (F_a1_value : Fld Z h0 a1 "java/lang/String" "value" "[B" (.ref t1)) (V_t1 : Arv Z h0 t1 k1 .byte (4 : Int32) es (.int 0)) (WW : World1 Z i_COMPACT_STRINGS v_SIOOBE_FORMATTER) :
    Con l Z (⟨"java/lang/String", "length", "()I"⟩ : MethodName) jdk_42_method_54_code 1 (some .int) ws ({ frames := 1, cells := 0, slots := 0, locals := 13 } : Room) #[(.ref a1)] h0 (fun v h L => v = some (.int 2) ∧ Fr n0 L ∧ h = h0) := by
  refine own_body (plainFor_of_name pn_java_lang_String) ?_
  intro p e s m below meth c s₁ hx hby hml hZ hown hnm hlk hret X0 e0
  have N0 := Fr.nil n0
  refine Go.st (T' := s₁) (f' := (mkF m 0 #[rv a1] [])) (fun _ k => castTop (by first | (simp [entryFrame, mkF, argsToLocals, Value.category]; done) | rfl) k) ?_
  have ⟨S_i_COMPACT_STRINGS, nz_i_COMPACT_STRINGS, S_v_SIOOBE_FORMATTER, r_v_SIOOBE_FORMATTER, S_i__assertionsDisabled, S_i_HI_BYTE_SHIFT, S_i_LO_BYTE_SHIFT⟩ := WW
  have lt_a1 := E_a1.lt
  have lt_t1 := V_t1.lt
  refine Go.st (f' := (mkF m 1 #[rv a1] [(.ref a1)])) (fun _ k => XS.aloadN X0.here hx rfl (hb hby d5_0) rfl rfl k) ?_
  obtain ⟨T1, X1, e1, st1⟩ := getF X0 hx hZ hown (host := "") (Or.inl (ww hw 24 rfl)) Via.refl e0 F_a1_value (g := (mkF m 1 #[rv a1] [(.ref a1)])) rfl rfl (hb hby d5_1)
  refine Go.st (f' := (mkF m 4 #[rv a1] [(.ref t1)])) (fun _ k => st1 _ k) ?_
  obtain ⟨cl2, Ar2, -, S2, Nx2, -, -⟩ := id V_t1
  refine Go.st (T' := T1) (f' := (mkF m 5 #[rv a1] [(.int 4)])) (fun _ k => X1.arraylength hx (by rw [e1]; exact Ar2.1) (State.isArrayOf_alike hZ.alike Ar2.2.1) (g := (mkF m 4 #[rv a1] [(.ref t1)])) rfl rfl (hb hby d5_4) _ (by rw [len_of S2 Nx2]; exact k)) ?_
  refine Go.st (f' := (mkF m 6 #[rv a1] [(.ref a1), (.int 4)])) (fun _ k => XS.aloadN X1.here hx rfl (hb hby d5_5) rfl rfl k) ?_
  obtain ⟨cq3, kq3, q3a, q3b, q3c⟩ := isOf hZ e1 E_a1
  obtain ⟨_, _, ⟨T3, L3, kk3, nn3⟩, -, X3, ⟨Lc3, hQ3, lq3, yq3, zz3⟩, st3⟩ := X1.virtualBack hx (y := (⟨"java/lang/String", "coder", "()B"⟩ : MethodName)) (z := (⟨"java/lang/String", "coder", "()B"⟩ : MethodName)) hown (mvT hZ (ww hw 35 rfl)) (mvT hZ (ww hw 36 rfl)) (notFace_of_selects (args := #[]) (mvT hZ (ww hw 38 rfl))) (mvT hZ (ww hw 38 rfl)) (mvT hZ (ww hw 37 rfl)) (by decide) (own_back (W := 1) (cod1 l Z a0 hw [] a1 i_COMPACT_STRINGS v_SIOOBE_FORMATTER h0 n0 O0 E_a1 F_a1_coder WW) hZ (ww hw 39 rfl) (ww hw 3 rfl) (by decide) (by decide)) q3a q3c (g := (mkF m 6 #[rv a1] [(.ref a1), (.int 4)])) rfl (by rw [hml]; rfl) (Steps.refl _) (argsL := []) (rest := [(.int (4 : Int32))]) (lenOf pd___B rfl) rfl (by show 2 * 0 + _ ≤ _; exact Nat.le_of_eq rfl) (hb hby d5_6) (fun _ _ => ⟨rfl, e1, (by decide : 0 + 0 ≤ _), (by decide : 0 + 0 ≤ _)⟩)
  dsimp only [Pt.U, Pt.locs, Pt.cells, Pt.slots] at X3 lq3 yq3 zz3 st3 hQ3
  subst lq3 yq3 zz3
  obtain ⟨rfl, Nq3, kq3⟩ := hQ3
  have N3 := Fr.app N0 Nq3
  refine Go.tr (f' := (mkF m 9 #[rv a1] [(.int 1), (.int 4)])) st3 ?_
  refine Go.st (f' := (mkF m 10 #[rv a1] [(.int 2)])) (fun _ k => XS.ishr X3.here hx rfl (hb hby d5_9) rfl k) ?_
  refine Go.retV X3 hlk hx (t := .int) hret rfl (Or.inl ⟨rfl, Or.inl rfl, _, rfl⟩) (hb hby d5_10) kq3 ?_ (by decide) (by decide)
  exact ⟨rfl, N3, rfl⟩
set_option maxRecDepth 65536 in
set_option maxHeartbeats 40000000 in
theorem ln_6_1 (l : Launch) (Z : State) (a0 : Array Value) (hw : ∀ d ∈ tables_1, d.before a0 Z = true) (ws : List Jvm.Cond) (a1 : Addr) (t1 : Addr) (k1 : ClassId) (es : List Value) (i_COMPACT_STRINGS : Int32) (v_SIOOBE_FORMATTER : Value) (h0 : Heap) (n0 : Nat) (O0 : Old Z n0 h0) (E_a1 : Exa Z h0 a1 "java/lang/String") (F_a1_coder : Fld Z h0 a1 "java/lang/String" "coder" "B" (.int 1)) (F_a1_value : Fld Z h0 a1 "java/lang/String" "value" "[B" (.ref t1)) (V_t1 : Arv Z h0 t1 k1 .byte (6 : Int32) es (.int 0)) (WW : World1 Z i_COMPACT_STRINGS v_SIOOBE_FORMATTER) :
    Con l Z (⟨"java/lang/String", "length", "()I"⟩ : MethodName) jdk_42_method_54_code 1 (some .int) ws ({ frames := 1, cells := 0, slots := 0, locals := 13 } : Room) #[(.ref a1)] h0 (fun v h L => v = some (.int 3) ∧ Fr n0 L ∧ h = h0) := by
  refine own_body (plainFor_of_name pn_java_lang_String) ?_
  intro p e s m below meth c s₁ hx hby hml hZ hown hnm hlk hret X0 e0
  have N0 := Fr.nil n0
  refine Go.st (T' := s₁) (f' := (mkF m 0 #[rv a1] [])) (fun _ k => castTop (by first | (simp [entryFrame, mkF, argsToLocals, Value.category]; done) | rfl) k) ?_
  have ⟨S_i_COMPACT_STRINGS, nz_i_COMPACT_STRINGS, S_v_SIOOBE_FORMATTER, r_v_SIOOBE_FORMATTER, S_i__assertionsDisabled, S_i_HI_BYTE_SHIFT, S_i_LO_BYTE_SHIFT⟩ := WW
  have lt_a1 := E_a1.lt
  have lt_t1 := V_t1.lt
  refine Go.st (f' := (mkF m 1 #[rv a1] [(.ref a1)])) (fun _ k => XS.aloadN X0.here hx rfl (hb hby d5_0) rfl rfl k) ?_
  obtain ⟨T1, X1, e1, st1⟩ := getF X0 hx hZ hown (host := "") (Or.inl (ww hw 24 rfl)) Via.refl e0 F_a1_value (g := (mkF m 1 #[rv a1] [(.ref a1)])) rfl rfl (hb hby d5_1)
  refine Go.st (f' := (mkF m 4 #[rv a1] [(.ref t1)])) (fun _ k => st1 _ k) ?_
  obtain ⟨cl2, Ar2, -, S2, Nx2, -, -⟩ := id V_t1
  refine Go.st (T' := T1) (f' := (mkF m 5 #[rv a1] [(.int 6)])) (fun _ k => X1.arraylength hx (by rw [e1]; exact Ar2.1) (State.isArrayOf_alike hZ.alike Ar2.2.1) (g := (mkF m 4 #[rv a1] [(.ref t1)])) rfl rfl (hb hby d5_4) _ (by rw [len_of S2 Nx2]; exact k)) ?_
  refine Go.st (f' := (mkF m 6 #[rv a1] [(.ref a1), (.int 6)])) (fun _ k => XS.aloadN X1.here hx rfl (hb hby d5_5) rfl rfl k) ?_
  obtain ⟨cq3, kq3, q3a, q3b, q3c⟩ := isOf hZ e1 E_a1
  obtain ⟨_, _, ⟨T3, L3, kk3, nn3⟩, -, X3, ⟨Lc3, hQ3, lq3, yq3, zz3⟩, st3⟩ := X1.virtualBack hx (y := (⟨"java/lang/String", "coder", "()B"⟩ : MethodName)) (z := (⟨"java/lang/String", "coder", "()B"⟩ : MethodName)) hown (mvT hZ (ww hw 35 rfl)) (mvT hZ (ww hw 36 rfl)) (notFace_of_selects (args := #[]) (mvT hZ (ww hw 38 rfl))) (mvT hZ (ww hw 38 rfl)) (mvT hZ (ww hw 37 rfl)) (by decide) (own_back (W := 1) (cod1 l Z a0 hw [] a1 i_COMPACT_STRINGS v_SIOOBE_FORMATTER h0 n0 O0 E_a1 F_a1_coder WW) hZ (ww hw 39 rfl) (ww hw 3 rfl) (by decide) (by decide)) q3a q3c (g := (mkF m 6 #[rv a1] [(.ref a1), (.int 6)])) rfl (by rw [hml]; rfl) (Steps.refl _) (argsL := []) (rest := [(.int (6 : Int32))]) (lenOf pd___B rfl) rfl (by show 2 * 0 + _ ≤ _; exact Nat.le_of_eq rfl) (hb hby d5_6) (fun _ _ => ⟨rfl, e1, (by decide : 0 + 0 ≤ _), (by decide : 0 + 0 ≤ _)⟩)
  dsimp only [Pt.U, Pt.locs, Pt.cells, Pt.slots] at X3 lq3 yq3 zz3 st3 hQ3
  subst lq3 yq3 zz3
  obtain ⟨rfl, Nq3, kq3⟩ := hQ3
  have N3 := Fr.app N0 Nq3
  refine Go.tr (f' := (mkF m 9 #[rv a1] [(.int 1), (.int 6)])) st3 ?_
  refine Go.st (f' := (mkF m 10 #[rv a1] [(.int 3)])) (fun _ k => XS.ishr X3.here hx rfl (hb hby d5_9) rfl k) ?_
  refine Go.retV X3 hlk hx (t := .int) hret rfl (Or.inl ⟨rfl, Or.inl rfl, _, rfl⟩) (hb hby d5_10) kq3 ?_ (by decide) (by decide)
  exact ⟨rfl, N3, rfl⟩
set_option maxRecDepth 65536 in
set_option maxHeartbeats 40000000 in
theorem ln_64_0 (l : Launch) (Z : State) (a0 : Array Value) (hw : ∀ d ∈ tables_1, d.before a0 Z = true) (ws : List Jvm.Cond) (a1 : Addr) (t1 : Addr) (k1 : ClassId) (es : List Value) (i_COMPACT_STRINGS : Int32) (v_SIOOBE_FORMATTER : Value) (h0 : Heap) (n0 : Nat) (O0 : Old Z n0 h0) (E_a1 : Exa Z h0 a1 "java/lang/String") (F_a1_coder : Fld Z h0 a1 "java/lang/String" "coder" "B" (.int 0)) (F_a1_value : Fld Z h0 a1 "java/lang/String" "value" "[B" (.ref t1)) (V_t1 : Arv Z h0 t1 k1 .byte (64 : Int32) es (.int 0)) (WW : World1 Z i_COMPACT_STRINGS v_SIOOBE_FORMATTER) :
    Con l Z (⟨"java/lang/String", "length", "()I"⟩ : MethodName) jdk_42_method_54_code 1 (some .int) ws ({ frames := 1, cells := 0, slots := 0, locals := 13 } : Room) #[(.ref a1)] h0 (fun v h L => v = some (.int 64) ∧ Fr n0 L ∧ h = h0) := by
  refine own_body (plainFor_of_name pn_java_lang_String) ?_
  intro p e s m below meth c s₁ hx hby hml hZ hown hnm hlk hret X0 e0
  have N0 := Fr.nil n0
  refine Go.st (T' := s₁) (f' := (mkF m 0 #[rv a1] [])) (fun _ k => castTop (by first | (simp [entryFrame, mkF, argsToLocals, Value.category]; done) | rfl) k) ?_
  have ⟨S_i_COMPACT_STRINGS, nz_i_COMPACT_STRINGS, S_v_SIOOBE_FORMATTER, r_v_SIOOBE_FORMATTER, S_i__assertionsDisabled, S_i_HI_BYTE_SHIFT, S_i_LO_BYTE_SHIFT⟩ := WW
  have lt_a1 := E_a1.lt
  have lt_t1 := V_t1.lt
  refine Go.st (f' := (mkF m 1 #[rv a1] [(.ref a1)])) (fun _ k => XS.aloadN X0.here hx rfl (hb hby d5_0) rfl rfl k) ?_
  obtain ⟨T1, X1, e1, st1⟩ := getF X0 hx hZ hown (host := "") (Or.inl (ww hw 24 rfl)) Via.refl e0 F_a1_value (g := (mkF m 1 #[rv a1] [(.ref a1)])) rfl rfl (hb hby d5_1)
  refine Go.st (f' := (mkF m 4 #[rv a1] [(.ref t1)])) (fun _ k => st1 _ k) ?_
  obtain ⟨cl2, Ar2, -, S2, Nx2, -, -⟩ := id V_t1
  refine Go.st (T' := T1) (f' := (mkF m 5 #[rv a1] [(.int 64)])) (fun _ k => X1.arraylength hx (by rw [e1]; exact Ar2.1) (State.isArrayOf_alike hZ.alike Ar2.2.1) (g := (mkF m 4 #[rv a1] [(.ref t1)])) rfl rfl (hb hby d5_4) _ (by rw [len_of S2 Nx2]; exact k)) ?_
  refine Go.st (f' := (mkF m 6 #[rv a1] [(.ref a1), (.int 64)])) (fun _ k => XS.aloadN X1.here hx rfl (hb hby d5_5) rfl rfl k) ?_
  obtain ⟨cq3, kq3, q3a, q3b, q3c⟩ := isOf hZ e1 E_a1
  obtain ⟨_, _, ⟨T3, L3, kk3, nn3⟩, -, X3, ⟨Lc3, hQ3, lq3, yq3, zz3⟩, st3⟩ := X1.virtualBack hx (y := (⟨"java/lang/String", "coder", "()B"⟩ : MethodName)) (z := (⟨"java/lang/String", "coder", "()B"⟩ : MethodName)) hown (mvT hZ (ww hw 35 rfl)) (mvT hZ (ww hw 36 rfl)) (notFace_of_selects (args := #[]) (mvT hZ (ww hw 38 rfl))) (mvT hZ (ww hw 38 rfl)) (mvT hZ (ww hw 37 rfl)) (by decide) (own_back (W := 1) (cod0 l Z a0 hw [] a1 i_COMPACT_STRINGS v_SIOOBE_FORMATTER h0 n0 O0 E_a1 F_a1_coder WW) hZ (ww hw 39 rfl) (ww hw 3 rfl) (by decide) (by decide)) q3a q3c (g := (mkF m 6 #[rv a1] [(.ref a1), (.int 64)])) rfl (by rw [hml]; rfl) (Steps.refl _) (argsL := []) (rest := [(.int (64 : Int32))]) (lenOf pd___B rfl) rfl (by show 2 * 0 + _ ≤ _; exact Nat.le_of_eq rfl) (hb hby d5_6) (fun _ _ => ⟨rfl, e1, (by decide : 0 + 0 ≤ _), (by decide : 0 + 0 ≤ _)⟩)
  dsimp only [Pt.U, Pt.locs, Pt.cells, Pt.slots] at X3 lq3 yq3 zz3 st3 hQ3
  subst lq3 yq3 zz3
  obtain ⟨rfl, Nq3, kq3⟩ := hQ3
  have N3 := Fr.app N0 Nq3
  refine Go.tr (f' := (mkF m 9 #[rv a1] [(.int 0), (.int 64)])) st3 ?_
  refine Go.st (f' := (mkF m 10 #[rv a1] [(.int 64)])) (fun _ k => XS.ishr X3.here hx rfl (hb hby d5_9) rfl k) ?_
  refine Go.retV X3 hlk hx (t := .int) hret rfl (Or.inl ⟨rfl, Or.inl rfl, _, rfl⟩) (hb hby d5_10) kq3 ?_ (by decide) (by decide)
  exact ⟨rfl, N3, rfl⟩
set_option maxRecDepth 65536 in
set_option maxHeartbeats 40000000 in
theorem ln_65_0 (l : Launch) (Z : State) (a0 : Array Value) (hw : ∀ d ∈ tables_1, d.before a0 Z = true) (ws : List Jvm.Cond) (a1 : Addr) (t1 : Addr) (k1 : ClassId) (es : List Value) (i_COMPACT_STRINGS : Int32) (v_SIOOBE_FORMATTER : Value) (h0 : Heap) (n0 : Nat) (O0 : Old Z n0 h0) (E_a1 : Exa Z h0 a1 "java/lang/String") (F_a1_coder : Fld Z h0 a1 "java/lang/String" "coder" "B" (.int 0)) (F_a1_value : Fld Z h0 a1 "java/lang/String" "value" "[B" (.ref t1)) (V_t1 : Arv Z h0 t1 k1 .byte (65 : Int32) es (.int 0)) (WW : World1 Z i_COMPACT_STRINGS v_SIOOBE_FORMATTER) :
    Con l Z (⟨"java/lang/String", "length", "()I"⟩ : MethodName) jdk_42_method_54_code 1 (some .int) ws ({ frames := 1, cells := 0, slots := 0, locals := 13 } : Room) #[(.ref a1)] h0 (fun v h L => v = some (.int 65) ∧ Fr n0 L ∧ h = h0) := by
  refine own_body (plainFor_of_name pn_java_lang_String) ?_
  intro p e s m below meth c s₁ hx hby hml hZ hown hnm hlk hret X0 e0
  have N0 := Fr.nil n0
  refine Go.st (T' := s₁) (f' := (mkF m 0 #[rv a1] [])) (fun _ k => castTop (by first | (simp [entryFrame, mkF, argsToLocals, Value.category]; done) | rfl) k) ?_
  have ⟨S_i_COMPACT_STRINGS, nz_i_COMPACT_STRINGS, S_v_SIOOBE_FORMATTER, r_v_SIOOBE_FORMATTER, S_i__assertionsDisabled, S_i_HI_BYTE_SHIFT, S_i_LO_BYTE_SHIFT⟩ := WW
  have lt_a1 := E_a1.lt
  have lt_t1 := V_t1.lt
  refine Go.st (f' := (mkF m 1 #[rv a1] [(.ref a1)])) (fun _ k => XS.aloadN X0.here hx rfl (hb hby d5_0) rfl rfl k) ?_
  obtain ⟨T1, X1, e1, st1⟩ := getF X0 hx hZ hown (host := "") (Or.inl (ww hw 24 rfl)) Via.refl e0 F_a1_value (g := (mkF m 1 #[rv a1] [(.ref a1)])) rfl rfl (hb hby d5_1)
  refine Go.st (f' := (mkF m 4 #[rv a1] [(.ref t1)])) (fun _ k => st1 _ k) ?_
  obtain ⟨cl2, Ar2, -, S2, Nx2, -, -⟩ := id V_t1
  refine Go.st (T' := T1) (f' := (mkF m 5 #[rv a1] [(.int 65)])) (fun _ k => X1.arraylength hx (by rw [e1]; exact Ar2.1) (State.isArrayOf_alike hZ.alike Ar2.2.1) (g := (mkF m 4 #[rv a1] [(.ref t1)])) rfl rfl (hb hby d5_4) _ (by rw [len_of S2 Nx2]; exact k)) ?_
  refine Go.st (f' := (mkF m 6 #[rv a1] [(.ref a1), (.int 65)])) (fun _ k => XS.aloadN X1.here hx rfl (hb hby d5_5) rfl rfl k) ?_
  obtain ⟨cq3, kq3, q3a, q3b, q3c⟩ := isOf hZ e1 E_a1
  obtain ⟨_, _, ⟨T3, L3, kk3, nn3⟩, -, X3, ⟨Lc3, hQ3, lq3, yq3, zz3⟩, st3⟩ := X1.virtualBack hx (y := (⟨"java/lang/String", "coder", "()B"⟩ : MethodName)) (z := (⟨"java/lang/String", "coder", "()B"⟩ : MethodName)) hown (mvT hZ (ww hw 35 rfl)) (mvT hZ (ww hw 36 rfl)) (notFace_of_selects (args := #[]) (mvT hZ (ww hw 38 rfl))) (mvT hZ (ww hw 38 rfl)) (mvT hZ (ww hw 37 rfl)) (by decide) (own_back (W := 1) (cod0 l Z a0 hw [] a1 i_COMPACT_STRINGS v_SIOOBE_FORMATTER h0 n0 O0 E_a1 F_a1_coder WW) hZ (ww hw 39 rfl) (ww hw 3 rfl) (by decide) (by decide)) q3a q3c (g := (mkF m 6 #[rv a1] [(.ref a1), (.int 65)])) rfl (by rw [hml]; rfl) (Steps.refl _) (argsL := []) (rest := [(.int (65 : Int32))]) (lenOf pd___B rfl) rfl (by show 2 * 0 + _ ≤ _; exact Nat.le_of_eq rfl) (hb hby d5_6) (fun _ _ => ⟨rfl, e1, (by decide : 0 + 0 ≤ _), (by decide : 0 + 0 ≤ _)⟩)
  dsimp only [Pt.U, Pt.locs, Pt.cells, Pt.slots] at X3 lq3 yq3 zz3 st3 hQ3
  subst lq3 yq3 zz3
  obtain ⟨rfl, Nq3, kq3⟩ := hQ3
  have N3 := Fr.app N0 Nq3
  refine Go.tr (f' := (mkF m 9 #[rv a1] [(.int 0), (.int 65)])) st3 ?_
  refine Go.st (f' := (mkF m 10 #[rv a1] [(.int 65)])) (fun _ k => XS.ishr X3.here hx rfl (hb hby d5_9) rfl k) ?_
  refine Go.retV X3 hlk hx (t := .int) hret rfl (Or.inl ⟨rfl, Or.inl rfl, _, rfl⟩) (hb hby d5_10) kq3 ?_ (by decide) (by decide)
  exact ⟨rfl, N3, rfl⟩
theorem lnS_1 (l : Launch) (Z : State) (a0 : Array Value) (hw : ∀ d ∈ tables_1, d.before a0 Z = true) (ws : List Jvm.Cond) (a1 : Addr) (t1 : Addr) (k1 : ClassId) (c0 : Int32) (i_COMPACT_STRINGS : Int32) (v_SIOOBE_FORMATTER : Value) (h0 : Heap) (n0 : Nat) (O0 : Old Z n0 h0) (E_a1 : Exa Z h0 a1 "java/lang/String") (F_a1_value : Fld Z h0 a1 "java/lang/String" "value" "[B" (.ref t1)) (D_a1 : Sx1 Z h0 a1 t1 k1 c0) (hk_c0 : 0 ≤ c0.toInt ∧ c0.toInt < 65536) (WW : World1 Z i_COMPACT_STRINGS v_SIOOBE_FORMATTER) :
    Con l Z (⟨"java/lang/String", "length", "()I"⟩ : MethodName) jdk_42_method_54_code 1 (some .int) ws ({ frames := 1, cells := 0, slots := 0, locals := 13 } : Room) #[(.ref a1)] h0 (fun v h L => v = some (.int 1) ∧ Fr n0 L ∧ h = h0) := by
  rcases D_a1 with ⟨c, -, v⟩ | ⟨c, v⟩
  · exact ln_1_0 l Z a0 hw ws a1 t1 k1 _ i_COMPACT_STRINGS v_SIOOBE_FORMATTER h0 n0 O0 E_a1 c F_a1_value v WW
  · exact ln_2_1 l Z a0 hw ws a1 t1 k1 _ i_COMPACT_STRINGS v_SIOOBE_FORMATTER h0 n0 O0 E_a1 c F_a1_value v WW
theorem lnS_2 (l : Launch) (Z : State) (a0 : Array Value) (hw : ∀ d ∈ tables_1, d.before a0 Z = true) (ws : List Jvm.Cond) (a1 : Addr) (t1 : Addr) (k1 : ClassId) (c0 : Int32) (c1 : Int32) (i_COMPACT_STRINGS : Int32) (v_SIOOBE_FORMATTER : Value) (h0 : Heap) (n0 : Nat) (O0 : Old Z n0 h0) (E_a1 : Exa Z h0 a1 "java/lang/String") (F_a1_value : Fld Z h0 a1 "java/lang/String" "value" "[B" (.ref t1)) (D_a1 : Sx2 Z h0 a1 t1 k1 c0 c1) (hk_c0 : 0 ≤ c0.toInt ∧ c0.toInt < 65536) (hk_c1 : 0 ≤ c1.toInt ∧ c1.toInt < 65536) (WW : World1 Z i_COMPACT_STRINGS v_SIOOBE_FORMATTER) :
    Con l Z (⟨"java/lang/String", "length", "()I"⟩ : MethodName) jdk_42_method_54_code 1 (some .int) ws ({ frames := 1, cells := 0, slots := 0, locals := 13 } : Room) #[(.ref a1)] h0 (fun v h L => v = some (.int 2) ∧ Fr n0 L ∧ h = h0) := by
  rcases D_a1 with ⟨c, -, v⟩ | ⟨c, v⟩
  · exact ln_2_0 l Z a0 hw ws a1 t1 k1 _ i_COMPACT_STRINGS v_SIOOBE_FORMATTER h0 n0 O0 E_a1 c F_a1_value v WW
  · exact ln_4_1 l Z a0 hw ws a1 t1 k1 _ i_COMPACT_STRINGS v_SIOOBE_FORMATTER h0 n0 O0 E_a1 c F_a1_value v WW
theorem lnS_3 (l : Launch) (Z : State) (a0 : Array Value) (hw : ∀ d ∈ tables_1, d.before a0 Z = true) (ws : List Jvm.Cond) (a1 : Addr) (t1 : Addr) (k1 : ClassId) (c0 : Int32) (c1 : Int32) (c2 : Int32) (i_COMPACT_STRINGS : Int32) (v_SIOOBE_FORMATTER : Value) (h0 : Heap) (n0 : Nat) (O0 : Old Z n0 h0) (E_a1 : Exa Z h0 a1 "java/lang/String") (F_a1_value : Fld Z h0 a1 "java/lang/String" "value" "[B" (.ref t1)) (D_a1 : Sx3 Z h0 a1 t1 k1 c0 c1 c2) (hk_c0 : 0 ≤ c0.toInt ∧ c0.toInt < 65536) (hk_c1 : 0 ≤ c1.toInt ∧ c1.toInt < 65536) (hk_c2 : 0 ≤ c2.toInt ∧ c2.toInt < 65536) (WW : World1 Z i_COMPACT_STRINGS v_SIOOBE_FORMATTER) :
    Con l Z (⟨"java/lang/String", "length", "()I"⟩ : MethodName) jdk_42_method_54_code 1 (some .int) ws ({ frames := 1, cells := 0, slots := 0, locals := 13 } : Room) #[(.ref a1)] h0 (fun v h L => v = some (.int 3) ∧ Fr n0 L ∧ h = h0) := by
  rcases D_a1 with ⟨c, -, v⟩ | ⟨c, v⟩
  · exact ln_3_0 l Z a0 hw ws a1 t1 k1 _ i_COMPACT_STRINGS v_SIOOBE_FORMATTER h0 n0 O0 E_a1 c F_a1_value v WW
  · exact ln_6_1 l Z a0 hw ws a1 t1 k1 _ i_COMPACT_STRINGS v_SIOOBE_FORMATTER h0 n0 O0 E_a1 c F_a1_value v WW
theorem pn_java_lang_StringLatin1 : plainName "java/lang/StringLatin1" = true := by first | (simp [plainName, overriddenIn]; done) | decide +kernel
theorem d13_0 : decode jdk_43_method_2_code 0 = .ok (.iload_n 1, 1) := by decide +kernel
theorem d13_1 : decode jdk_43_method_2_code 1 = .ok (.aload_n 0, 1) := by decide +kernel
theorem d13_2 : decode jdk_43_method_2_code 2 = .ok (.arraylength, 1) := by decide +kernel
theorem d13_3 : decode jdk_43_method_2_code 3 = .ok (.invokestatic 9, 3) := by decide +kernel
theorem pd__II_V : parseMethodDescriptor "(II)V" = some ⟨[.int, .int], none⟩ := by decide +kernel
theorem d13_6 : decode jdk_43_method_2_code 6 = .ok (.aload_n 0, 1) := by decide +kernel
theorem d13_7 : decode jdk_43_method_2_code 7 = .ok (.iload_n 1, 1) := by decide +kernel
theorem d13_8 : decode jdk_43_method_2_code 8 = .ok (.baload, 1) := by decide +kernel
theorem d13_9 : decode jdk_43_method_2_code 9 = .ok (.sipush 255, 3) := by decide +kernel
theorem d13_12 : decode jdk_43_method_2_code 12 = .ok (.iand, 1) := by decide +kernel
theorem d13_13 : decode jdk_43_method_2_code 13 = .ok (.i2c, 1) := by decide +kernel
theorem d13_14 : decode jdk_43_method_2_code 14 = .ok (.ireturn, 1) := by decide +kernel
def clI (x : Int32) : Int32 := (nar .char ((x &&& (255 : Int32)).toUInt32.toUInt16.toUInt32.toInt32))
set_option maxRecDepth 65536 in
set_option maxHeartbeats 40000000 in
theorem cl1 (l : Launch) (Z : State) (a0 : Array Value) (hw : ∀ d ∈ tables_1, d.before a0 Z = true) (ws : List Jvm.Cond) (t1 : Addr) (k1 : ClassId) (n : Int32) (es : List Value) (i : Int32) (x : Int32) (i_COMPACT_STRINGS : Int32) (v_SIOOBE_FORMATTER : Value) (h0 : Heap) (n0 : Nat) (O0 : Old Z n0 h0) (hlo : ¬ i < (0 : Int32)) (hhi : i < n) (hg : es.getD i.toNatClampNeg (.int 0) = .int x) (V_t1 : Arv Z h0 t1 k1 .byte n es (.int 0)) (WW : World1 Z i_COMPACT_STRINGS v_SIOOBE_FORMATTER) :
    Con l Z (⟨"java/lang/StringLatin1", "charAt", "([BI)C"⟩ : MethodName) jdk_43_method_2_code 2 (some .char) ws ({ frames := 2, cells := 0, slots := 0, locals := 27 } : Room) #[(.ref t1), (.int i)] h0 (fun v h L => v = some (.int (clI x)) ∧ Fr n0 L ∧ h = h0) := by
  refine own_body (plainFor_of_name pn_java_lang_StringLatin1) ?_
  intro p e s m below meth c s₁ hx hby hml hZ hown hnm hlk hret X0 e0
  have N0 := Fr.nil n0
  refine Go.st (T' := s₁) (f' := (mkF m 0 #[rv t1, iv i] [])) (fun _ k => castTop (by first | (simp [entryFrame, mkF, argsToLocals, Value.category]; done) | rfl) k) ?_
  have ⟨S_i_COMPACT_STRINGS, nz_i_COMPACT_STRINGS, S_v_SIOOBE_FORMATTER, r_v_SIOOBE_FORMATTER, S_i__assertionsDisabled, S_i_HI_BYTE_SHIFT, S_i_LO_BYTE_SHIFT⟩ := WW
  have lt_t1 := V_t1.lt
  refine Go.st (f' := (mkF m 1 #[rv t1, iv i] [(.int i)])) (fun _ k => XS.iloadN X0.here hx rfl (hb hby d13_0) rfl k) ?_
  refine Go.st (f' := (mkF m 2 #[rv t1, iv i] [(.ref t1), (.int i)])) (fun _ k => XS.aloadN X0.here hx rfl (hb hby d13_1) rfl rfl k) ?_
  obtain ⟨cl1, Ar1, -, S1, Nx1, -, -⟩ := id V_t1
  refine Go.st (T' := s₁) (f' := (mkF m 3 #[rv t1, iv i] [(.int n), (.int i)])) (fun _ k => X0.arraylength hx (by rw [e0]; exact Ar1.1) (State.isArrayOf_alike hZ.alike Ar1.2.1) (g := (mkF m 2 #[rv t1, iv i] [(.ref t1), (.int i)])) rfl rfl (hb hby d13_2) _ (by rw [len_of S1 Nx1]; exact k)) ?_
  obtain ⟨_, _, ⟨T2, L2, kk2, nn2⟩, -, X2, ⟨Lc2, hQ2, lq2, yq2, zz2⟩, st2⟩ := Jvm.LawKit.callS X0 hx (y := (⟨"java/lang/String", "checkIndex", "(II)V"⟩ : MethodName)) hown (mvT hZ (ww hw 69 rfl)) (mvT hZ (ww hw 70 rfl)) (mvT hZ (ww hw 3 rfl)) (mvT hZ (ww hw 71 rfl)) (by decide) (own_back (W := 0) (ck_s l Z a0 hw [] i n i_COMPACT_STRINGS v_SIOOBE_FORMATTER h0 n0 O0 hlo hhi WW) hZ (ww hw 71 rfl) (ww hw 3 rfl) (by decide) (by decide)) (g := (mkF m 3 #[rv t1, iv i] [(.int n), (.int i)])) rfl (by rw [hml]; rfl) (argsL := [(.int i), (.int n)]) (rest := []) (lenOf pd__II_V rfl) rfl (by show 2 * 0 + _ ≤ _; exact Nat.le_of_eq rfl) (hb hby d13_3) (fun _ _ => ⟨rfl, e0, (by decide : 0 + 0 ≤ _), (by decide : 0 + 0 ≤ _)⟩)
  dsimp only [Pt.U, Pt.locs, Pt.cells, Pt.slots] at X2 lq2 yq2 zz2 st2 hQ2
  subst lq2 yq2 zz2
  obtain ⟨rfl, Nq2, kq2⟩ := hQ2
  have N2 := Fr.app N0 Nq2
  refine Go.st (f' := (mkF m 6 #[rv t1, iv i] [])) (fun _ k => st2 _ k) ?_
  refine Go.st (f' := (mkF m 7 #[rv t1, iv i] [(.ref t1)])) (fun _ k => XS.aloadN X2.here hx rfl (hb hby d13_6) rfl rfl k) ?_
  refine Go.st (f' := (mkF m 8 #[rv t1, iv i] [(.int i), (.ref t1)])) (fun _ k => XS.iloadN X2.here hx rfl (hb hby d13_7) rfl k) ?_
  obtain ⟨cl3, Ar3, -, S3, -, H3, -⟩ := id V_t1
  have hin3 : ¬ (i < 0 ∨ cl3.slots.size ≤ (i).toNatClampNeg) := inb_of S3 ⟨hlo, hhi⟩
  have hat3 : cl3.slots[(i).toNatClampNeg]? = some (.int x) := H3.at hin3 hg
  refine Go.st (f' := (mkF m 9 #[rv t1, iv i] [(.int x)])) (fun _ k => X2.baloadBytes hx (j := i) (v := (.int x)) (by rw [kq2]; exact Ar3.1) (State.isArrayOf_alike hZ.alike Ar3.2.1) Ar3.2.2 hin3 hat3 (g := (mkF m 8 #[rv t1, iv i] [(.int i), (.ref t1)])) rfl rfl (hb hby d13_8) _ k) ?_
  refine Go.st (f' := (mkF m 12 #[rv t1, iv i] [(.int 255), (.int x)])) (fun _ k => XS.sipush X2.here hx rfl (hb hby d13_9) k) ?_
  refine Go.st (f' := (mkF m 13 #[rv t1, iv i] [(.int (x &&& (255 : Int32)))])) (fun _ k => XS.iand X2.here hx rfl (hb hby d13_12) rfl k) ?_
  refine Go.st (f' := (mkF m 14 #[rv t1, iv i] [(.int ((x &&& (255 : Int32)).toUInt32.toUInt16.toUInt32.toInt32))])) (fun _ k => XS.i2c X2.here hx rfl (hb hby d13_13) rfl k) ?_
  refine Go.retB X2 hlk hx (t := .char) hret (by simp) (hb hby d13_14) kq2 ?_ (by decide) (by decide)
  show (some (.int (nar .char ((x &&& (255 : Int32)).toUInt32.toUInt16.toUInt32.toInt32))) : Option Value) = some (.int (clI x)) ∧ _
  exact ⟨by rw [clI], N2, rfl⟩
theorem d24_0 : decode jdk_52_method_6_code 0 = .ok (.aload_n 0, 1) := by decide +kernel
theorem d24_1 : decode jdk_52_method_6_code 1 = .ok (.arraylength, 1) := by decide +kernel
theorem d24_2 : decode jdk_52_method_6_code 2 = .ok (.iconst 1, 1) := by decide +kernel
theorem d24_3 : decode jdk_52_method_6_code 3 = .ok (.ishr, 1) := by decide +kernel
theorem d24_4 : decode jdk_52_method_6_code 4 = .ok (.ireturn, 1) := by decide +kernel
set_option maxRecDepth 65536 in
set_option maxHeartbeats 40000000 in
theorem ul16_1 (l : Launch) (Z : State) (a0 : Array Value) (hw : ∀ d ∈ tables_1, d.before a0 Z = true) (ws : List Jvm.Cond) (t1 : Addr) (k1 : ClassId) (x0 : Int32) (x1 : Int32) (i_COMPACT_STRINGS : Int32) (v_SIOOBE_FORMATTER : Value) (h0 : Heap) (n0 : Nat) (O0 : Old Z n0 h0) (V_t1 : Arv Z h0 t1 k1 .byte (2 : Int32) [(.int x0), (.int x1)] (.int 0)) (WW : World1 Z i_COMPACT_STRINGS v_SIOOBE_FORMATTER) :
    Con l Z (⟨"java/lang/StringUTF16", "length", "([B)I"⟩ : MethodName) jdk_52_method_6_code 1 (some .int) ws ({ frames := 0, cells := 0, slots := 0, locals := 0 } : Room) #[(.ref t1)] h0 (fun v h L => v = some (.int 1) ∧ Fr n0 L ∧ h = h0) := by
  refine own_body (plainFor_of_name pn_java_lang_StringUTF16) ?_
  intro p e s m below meth c s₁ hx hby hml hZ hown hnm hlk hret X0 e0
  have N0 := Fr.nil n0
  refine Go.st (T' := s₁) (f' := (mkF m 0 #[rv t1] [])) (fun _ k => castTop (by first | (simp [entryFrame, mkF, argsToLocals, Value.category]; done) | rfl) k) ?_
  have ⟨S_i_COMPACT_STRINGS, nz_i_COMPACT_STRINGS, S_v_SIOOBE_FORMATTER, r_v_SIOOBE_FORMATTER, S_i__assertionsDisabled, S_i_HI_BYTE_SHIFT, S_i_LO_BYTE_SHIFT⟩ := WW
  have lt_t1 := V_t1.lt
  refine Go.st (f' := (mkF m 1 #[rv t1] [(.ref t1)])) (fun _ k => XS.aloadN X0.here hx rfl (hb hby d24_0) rfl rfl k) ?_
  obtain ⟨cl1, Ar1, -, S1, Nx1, -, -⟩ := id V_t1
  refine Go.st (T' := s₁) (f' := (mkF m 2 #[rv t1] [(.int 2)])) (fun _ k => X0.arraylength hx (by rw [e0]; exact Ar1.1) (State.isArrayOf_alike hZ.alike Ar1.2.1) (g := (mkF m 1 #[rv t1] [(.ref t1)])) rfl rfl (hb hby d24_1) _ (by rw [len_of S1 Nx1]; exact k)) ?_
  refine Go.st (f' := (mkF m 3 #[rv t1] [(.int 1), (.int 2)])) (fun _ k => XS.iconst X0.here hx rfl (hb hby d24_2) k) ?_
  refine Go.st (f' := (mkF m 4 #[rv t1] [(.int 1)])) (fun _ k => XS.ishr X0.here hx rfl (hb hby d24_3) rfl k) ?_
  refine Go.retV X0 hlk hx (t := .int) hret rfl (Or.inl ⟨rfl, Or.inl rfl, _, rfl⟩) (hb hby d24_4) e0 ?_ (by decide) (by decide)
  exact ⟨rfl, N0, rfl⟩
theorem d23_0 : decode jdk_52_method_91_code 0 = .ok (.iload_n 0, 1) := by decide +kernel
theorem d23_1 : decode jdk_52_method_91_code 1 = .ok (.aload_n 1, 1) := by decide +kernel
theorem d23_2 : decode jdk_52_method_91_code 2 = .ok (.invokestatic 48, 3) := by decide +kernel
theorem pd___B_I : parseMethodDescriptor "([B)I" = some ⟨[(.array .byte)], some .int⟩ := by decide +kernel
theorem d23_5 : decode jdk_52_method_91_code 5 = .ok (.invokestatic 414, 3) := by decide +kernel
theorem d23_8 : decode jdk_52_method_91_code 8 = .ok (.return_, 1) := by decide +kernel
set_option maxRecDepth 65536 in
set_option maxHeartbeats 40000000 in
theorem uc16_1_0 (l : Launch) (Z : State) (a0 : Array Value) (hw : ∀ d ∈ tables_1, d.before a0 Z = true) (ws : List Jvm.Cond) (t1 : Addr) (k1 : ClassId) (x0 : Int32) (x1 : Int32) (i_COMPACT_STRINGS : Int32) (v_SIOOBE_FORMATTER : Value) (h0 : Heap) (n0 : Nat) (O0 : Old Z n0 h0) (V_t1 : Arv Z h0 t1 k1 .byte (2 : Int32) [(.int x0), (.int x1)] (.int 0)) (WW : World1 Z i_COMPACT_STRINGS v_SIOOBE_FORMATTER) :
    Con l Z (⟨"java/lang/StringUTF16", "checkIndex", "(I[B)V"⟩ : MethodName) jdk_52_method_91_code 2 none ws ({ frames := 2, cells := 0, slots := 0, locals := 27 } : Room) #[(.int 0), (.ref t1)] h0 (fun v h L => v = none ∧ Fr n0 L ∧ h = h0) := by
  refine own_body (plainFor_of_name pn_java_lang_StringUTF16) ?_
  intro p e s m below meth c s₁ hx hby hml hZ hown hnm hlk hret X0 e0
  have N0 := Fr.nil n0
  refine Go.st (T' := s₁) (f' := (mkF m 0 #[iv 0, rv t1] [])) (fun _ k => castTop (by first | (simp [entryFrame, mkF, argsToLocals, Value.category]; done) | rfl) k) ?_
  have ⟨S_i_COMPACT_STRINGS, nz_i_COMPACT_STRINGS, S_v_SIOOBE_FORMATTER, r_v_SIOOBE_FORMATTER, S_i__assertionsDisabled, S_i_HI_BYTE_SHIFT, S_i_LO_BYTE_SHIFT⟩ := WW
  have lt_t1 := V_t1.lt
  refine Go.st (f' := (mkF m 1 #[iv 0, rv t1] [(.int 0)])) (fun _ k => XS.iloadN X0.here hx rfl (hb hby d23_0) rfl k) ?_
  refine Go.st (f' := (mkF m 2 #[iv 0, rv t1] [(.ref t1), (.int 0)])) (fun _ k => XS.aloadN X0.here hx rfl (hb hby d23_1) rfl rfl k) ?_
  obtain ⟨_, _, ⟨T1, L1, kk1, nn1⟩, -, X1, ⟨Lc1, hQ1, lq1, yq1, zz1⟩, st1⟩ := Jvm.LawKit.callS X0 hx (y := (⟨"java/lang/StringUTF16", "length", "([B)I"⟩ : MethodName)) hown (mvT hZ (ww hw 106 rfl)) (mvT hZ (ww hw 107 rfl)) (mvT hZ (ww hw 43 rfl)) (mvT hZ (ww hw 108 rfl)) (by decide) (own_back (W := 1) (ul16_1 l Z a0 hw [] t1 k1 x0 x1 i_COMPACT_STRINGS v_SIOOBE_FORMATTER h0 n0 O0 V_t1 WW) hZ (ww hw 108 rfl) (ww hw 43 rfl) (by decide) (by decide)) (g := (mkF m 2 #[iv 0, rv t1] [(.ref t1), (.int 0)])) rfl (by rw [hml]; rfl) (argsL := [(.ref t1)]) (rest := [(.int (0 : Int32))]) (lenOf pd___B_I rfl) rfl (by show 2 * 0 + _ ≤ _; exact Nat.le_of_eq rfl) (hb hby d23_2) (fun _ _ => ⟨rfl, e0, (by decide : 0 + 0 ≤ _), (by decide : 0 + 0 ≤ _)⟩)
  dsimp only [Pt.U, Pt.locs, Pt.cells, Pt.slots] at X1 lq1 yq1 zz1 st1 hQ1
  subst lq1 yq1 zz1
  obtain ⟨rfl, Nq1, kq1⟩ := hQ1
  have N1 := Fr.app N0 Nq1
  refine Go.st (f' := (mkF m 5 #[iv 0, rv t1] [(.int 1), (.int 0)])) (fun _ k => st1 _ k) ?_
  obtain ⟨_, _, ⟨T2, L2, kk2, nn2⟩, -, X2, ⟨Lc2, hQ2, lq2, yq2, zz2⟩, st2⟩ := Jvm.LawKit.callS X1 hx (y := (⟨"java/lang/String", "checkIndex", "(II)V"⟩ : MethodName)) hown (mvT hZ (ww hw 109 rfl)) (mvT hZ (ww hw 70 rfl)) (mvT hZ (ww hw 3 rfl)) (mvT hZ (ww hw 71 rfl)) (by decide) (own_back (W := 0) (ck_s l Z a0 hw [] (0 : Int32) (1 : Int32) i_COMPACT_STRINGS v_SIOOBE_FORMATTER h0 n0 O0 (by decide) (by decide) WW) hZ (ww hw 71 rfl) (ww hw 3 rfl) (by decide) (by decide)) (g := (mkF m 5 #[iv 0, rv t1] [(.int 1), (.int 0)])) rfl (by rw [hml]; rfl) (argsL := [(.int (0 : Int32)), (.int (1 : Int32))]) (rest := []) (lenOf pd__II_V rfl) rfl (by show 2 * 0 + _ ≤ _; exact Nat.le_of_eq rfl) (hb hby d23_5) (fun _ _ => ⟨rfl, kq1, (by decide : 0 + 0 ≤ _), (by decide : 0 + 0 ≤ _)⟩)
  dsimp only [Pt.U, Pt.locs, Pt.cells, Pt.slots] at X2 lq2 yq2 zz2 st2 hQ2
  subst lq2 yq2 zz2
  obtain ⟨rfl, Nq2, kq2⟩ := hQ2
  have N2 := Fr.app N1 Nq2
  refine Go.st (f' := (mkF m 8 #[iv 0, rv t1] [])) (fun _ k => st2 _ k) ?_
  refine Go.ret0 X2 hlk hx hret (hb hby d23_8) kq2 ?_ (by decide) (by decide)
  exact ⟨rfl, N2, rfl⟩
theorem d22_0 : decode jdk_52_method_83_code 0 = .ok (.iload_n 1, 1) := by decide +kernel
theorem d22_1 : decode jdk_52_method_83_code 1 = .ok (.aload_n 0, 1) := by decide +kernel
theorem d22_2 : decode jdk_52_method_83_code 2 = .ok (.invokestatic 67, 3) := by decide +kernel
theorem pd__I_B_V : parseMethodDescriptor "(I[B)V" = some ⟨[.int, (.array .byte)], none⟩ := by decide +kernel
theorem d22_5 : decode jdk_52_method_83_code 5 = .ok (.aload_n 0, 1) := by decide +kernel
theorem d22_6 : decode jdk_52_method_83_code 6 = .ok (.iload_n 1, 1) := by decide +kernel
theorem d22_7 : decode jdk_52_method_83_code 7 = .ok (.invokestatic 71, 3) := by decide +kernel
theorem d22_10 : decode jdk_52_method_83_code 10 = .ok (.ireturn, 1) := by decide +kernel
def uvI_1_0 (x0 : Int32) (x1 : Int32) : Int32 := (nar .char (nar .char (((((x0 &&& (255 : Int32)) <<< ((0 : Int32) &&& 31)) ||| ((x1 &&& (255 : Int32)) <<< ((8 : Int32) &&& 31))).toUInt32.toUInt16.toUInt32.toInt32))))
set_option maxRecDepth 65536 in
set_option maxHeartbeats 40000000 in
theorem uv16_1_0 (l : Launch) (Z : State) (a0 : Array Value) (hw : ∀ d ∈ tables_1, d.before a0 Z = true) (ws : List Jvm.Cond) (t1 : Addr) (k1 : ClassId) (x0 : Int32) (x1 : Int32) (i_COMPACT_STRINGS : Int32) (v_SIOOBE_FORMATTER : Value) (h0 : Heap) (n0 : Nat) (O0 : Old Z n0 h0) (V_t1 : Arv Z h0 t1 k1 .byte (2 : Int32) [(.int x0), (.int x1)] (.int 0)) (WW : World1 Z i_COMPACT_STRINGS v_SIOOBE_FORMATTER) :
    Con l Z (⟨"java/lang/StringUTF16", "charAt", "([BI)C"⟩ : MethodName) jdk_52_method_83_code 2 (some .char) ws ({ frames := 3, cells := 0, slots := 0, locals := 40 } : Room) #[(.ref t1), (.int 0)] h0 (fun v h L => v = some (.int (uvI_1_0 x0 x1)) ∧ Fr n0 L ∧ h = h0) := by
  refine own_body (plainFor_of_name pn_java_lang_StringUTF16) ?_
  intro p e s m below meth c s₁ hx hby hml hZ hown hnm hlk hret X0 e0
  have N0 := Fr.nil n0
  refine Go.st (T' := s₁) (f' := (mkF m 0 #[rv t1, iv 0] [])) (fun _ k => castTop (by first | (simp [entryFrame, mkF, argsToLocals, Value.category]; done) | rfl) k) ?_
  have ⟨S_i_COMPACT_STRINGS, nz_i_COMPACT_STRINGS, S_v_SIOOBE_FORMATTER, r_v_SIOOBE_FORMATTER, S_i__assertionsDisabled, S_i_HI_BYTE_SHIFT, S_i_LO_BYTE_SHIFT⟩ := WW
  have lt_t1 := V_t1.lt
  refine Go.st (f' := (mkF m 1 #[rv t1, iv 0] [(.int 0)])) (fun _ k => XS.iloadN X0.here hx rfl (hb hby d22_0) rfl k) ?_
  refine Go.st (f' := (mkF m 2 #[rv t1, iv 0] [(.ref t1), (.int 0)])) (fun _ k => XS.aloadN X0.here hx rfl (hb hby d22_1) rfl rfl k) ?_
  obtain ⟨_, _, ⟨T1, L1, kk1, nn1⟩, -, X1, ⟨Lc1, hQ1, lq1, yq1, zz1⟩, st1⟩ := Jvm.LawKit.callS X0 hx (y := (⟨"java/lang/StringUTF16", "checkIndex", "(I[B)V"⟩ : MethodName)) hown (mvT hZ (ww hw 103 rfl)) (mvT hZ (ww hw 104 rfl)) (mvT hZ (ww hw 43 rfl)) (mvT hZ (ww hw 105 rfl)) (by decide) (own_back (W := 0) (uc16_1_0 l Z a0 hw [] t1 k1 x0 x1 i_COMPACT_STRINGS v_SIOOBE_FORMATTER h0 n0 O0 V_t1 WW) hZ (ww hw 105 rfl) (ww hw 43 rfl) (by decide) (by decide)) (g := (mkF m 2 #[rv t1, iv 0] [(.ref t1), (.int 0)])) rfl (by rw [hml]; rfl) (argsL := [(.int (0 : Int32)), (.ref t1)]) (rest := []) (lenOf pd__I_B_V rfl) rfl (by show 2 * 0 + _ ≤ _; exact Nat.le_of_eq rfl) (hb hby d22_2) (fun _ _ => ⟨rfl, e0, (by decide : 0 + 0 ≤ _), (by decide : 0 + 0 ≤ _)⟩)
  dsimp only [Pt.U, Pt.locs, Pt.cells, Pt.slots] at X1 lq1 yq1 zz1 st1 hQ1
  subst lq1 yq1 zz1
  obtain ⟨rfl, Nq1, kq1⟩ := hQ1
  have N1 := Fr.app N0 Nq1
  refine Go.st (f' := (mkF m 5 #[rv t1, iv 0] [])) (fun _ k => st1 _ k) ?_
  refine Go.st (f' := (mkF m 6 #[rv t1, iv 0] [(.ref t1)])) (fun _ k => XS.aloadN X1.here hx rfl (hb hby d22_5) rfl rfl k) ?_
  refine Go.st (f' := (mkF m 7 #[rv t1, iv 0] [(.int 0), (.ref t1)])) (fun _ k => XS.iloadN X1.here hx rfl (hb hby d22_6) rfl k) ?_
  obtain ⟨_, _, ⟨T2, L2, kk2, nn2⟩, -, X2, ⟨Lc2, hQ2, lq2, yq2, zz2⟩, st2⟩ := Jvm.LawKit.callS X1 hx (y := (⟨"java/lang/StringUTF16", "getChar", "([BI)C"⟩ : MethodName)) hown (mvT hZ (ww hw 97 rfl)) (mvT hZ (ww hw 98 rfl)) (mvT hZ (ww hw 43 rfl)) (mvT hZ (ww hw 99 rfl)) (by decide) (own_back (W := 0) (ug_1_0 l Z a0 hw [] t1 k1 x0 x1 i_COMPACT_STRINGS v_SIOOBE_FORMATTER h0 n0 O0 V_t1 WW) hZ (ww hw 99 rfl) (ww hw 43 rfl) (by decide) (by decide)) (g := (mkF m 7 #[rv t1, iv 0] [(.int 0), (.ref t1)])) rfl (by rw [hml]; rfl) (argsL := [(.ref t1), (.int (0 : Int32))]) (rest := []) (lenOf pd___BI_C rfl) rfl (by show 2 * 0 + _ ≤ _; exact Nat.le_of_eq rfl) (hb hby d22_7) (fun _ _ => ⟨rfl, kq1, (by decide : 0 + 0 ≤ _), (by decide : 0 + 0 ≤ _)⟩)
  dsimp only [Pt.U, Pt.locs, Pt.cells, Pt.slots] at X2 lq2 yq2 zz2 st2 hQ2
  subst lq2 yq2 zz2
  obtain ⟨rfl, Nq2, kq2⟩ := hQ2
  have N2 := Fr.app N1 Nq2
  refine Go.st (f' := (mkF m 10 #[rv t1, iv 0] [(.int (nar .char (((((x0 &&& (255 : Int32)) <<< ((0 : Int32) &&& 31)) ||| ((x1 &&& (255 : Int32)) <<< ((8 : Int32) &&& 31))).toUInt32.toUInt16.toUInt32.toInt32))))])) (fun _ k => st2 _ k) ?_
  refine Go.retB X2 hlk hx (t := .char) hret (by simp) (hb hby d22_10) kq2 ?_ (by decide) (by decide)
  show (some (.int (nar .char (nar .char (((((x0 &&& (255 : Int32)) <<< ((0 : Int32) &&& 31)) ||| ((x1 &&& (255 : Int32)) <<< ((8 : Int32) &&& 31))).toUInt32.toUInt16.toUInt32.toInt32))))) : Option Value) = some (.int (uvI_1_0 x0 x1)) ∧ _
  exact ⟨by rw [uvI_1_0], N2, rfl⟩
set_option maxRecDepth 65536 in
set_option maxHeartbeats 40000000 in
theorem ul16_2 (l : Launch) (Z : State) (a0 : Array Value) (hw : ∀ d ∈ tables_1, d.before a0 Z = true) (ws : List Jvm.Cond) (t1 : Addr) (k1 : ClassId) (x0 : Int32) (x1 : Int32) (x2 : Int32) (x3 : Int32) (i_COMPACT_STRINGS : Int32) (v_SIOOBE_FORMATTER : Value) (h0 : Heap) (n0 : Nat) (O0 : Old Z n0 h0) (V_t1 : Arv Z h0 t1 k1 .byte (4 : Int32) [(.int x0), (.int x1), (.int x2), (.int x3)] (.int 0)) (WW : World1 Z i_COMPACT_STRINGS v_SIOOBE_FORMATTER) :
    Con l Z (⟨"java/lang/StringUTF16", "length", "([B)I"⟩ : MethodName) jdk_52_method_6_code 1 (some .int) ws ({ frames := 0, cells := 0, slots := 0, locals := 0 } : Room) #[(.ref t1)] h0 (fun v h L => v = some (.int 2) ∧ Fr n0 L ∧ h = h0) := by
  refine own_body (plainFor_of_name pn_java_lang_StringUTF16) ?_
  intro p e s m below meth c s₁ hx hby hml hZ hown hnm hlk hret X0 e0
  have N0 := Fr.nil n0
  refine Go.st (T' := s₁) (f' := (mkF m 0 #[rv t1] [])) (fun _ k => castTop (by first | (simp [entryFrame, mkF, argsToLocals, Value.category]; done) | rfl) k) ?_
  have ⟨S_i_COMPACT_STRINGS, nz_i_COMPACT_STRINGS, S_v_SIOOBE_FORMATTER, r_v_SIOOBE_FORMATTER, S_i__assertionsDisabled, S_i_HI_BYTE_SHIFT, S_i_LO_BYTE_SHIFT⟩ := WW
  have lt_t1 := V_t1.lt
  refine Go.st (f' := (mkF m 1 #[rv t1] [(.ref t1)])) (fun _ k => XS.aloadN X0.here hx rfl (hb hby d24_0) rfl rfl k) ?_
  obtain ⟨cl1, Ar1, -, S1, Nx1, -, -⟩ := id V_t1
  refine Go.st (T' := s₁) (f' := (mkF m 2 #[rv t1] [(.int 4)])) (fun _ k => X0.arraylength hx (by rw [e0]; exact Ar1.1) (State.isArrayOf_alike hZ.alike Ar1.2.1) (g := (mkF m 1 #[rv t1] [(.ref t1)])) rfl rfl (hb hby d24_1) _ (by rw [len_of S1 Nx1]; exact k)) ?_
  refine Go.st (f' := (mkF m 3 #[rv t1] [(.int 1), (.int 4)])) (fun _ k => XS.iconst X0.here hx rfl (hb hby d24_2) k) ?_
  refine Go.st (f' := (mkF m 4 #[rv t1] [(.int 2)])) (fun _ k => XS.ishr X0.here hx rfl (hb hby d24_3) rfl k) ?_
  refine Go.retV X0 hlk hx (t := .int) hret rfl (Or.inl ⟨rfl, Or.inl rfl, _, rfl⟩) (hb hby d24_4) e0 ?_ (by decide) (by decide)
  exact ⟨rfl, N0, rfl⟩
set_option maxRecDepth 65536 in
set_option maxHeartbeats 40000000 in
theorem uc16_2_0 (l : Launch) (Z : State) (a0 : Array Value) (hw : ∀ d ∈ tables_1, d.before a0 Z = true) (ws : List Jvm.Cond) (t1 : Addr) (k1 : ClassId) (x0 : Int32) (x1 : Int32) (x2 : Int32) (x3 : Int32) (i_COMPACT_STRINGS : Int32) (v_SIOOBE_FORMATTER : Value) (h0 : Heap) (n0 : Nat) (O0 : Old Z n0 h0) (V_t1 : Arv Z h0 t1 k1 .byte (4 : Int32) [(.int x0), (.int x1), (.int x2), (.int x3)] (.int 0)) (WW : World1 Z i_COMPACT_STRINGS v_SIOOBE_FORMATTER) :
    Con l Z (⟨"java/lang/StringUTF16", "checkIndex", "(I[B)V"⟩ : MethodName) jdk_52_method_91_code 2 none ws ({ frames := 2, cells := 0, slots := 0, locals := 27 } : Room) #[(.int 0), (.ref t1)] h0 (fun v h L => v = none ∧ Fr n0 L ∧ h = h0) := by
  refine own_body (plainFor_of_name pn_java_lang_StringUTF16) ?_
  intro p e s m below meth c s₁ hx hby hml hZ hown hnm hlk hret X0 e0
  have N0 := Fr.nil n0
  refine Go.st (T' := s₁) (f' := (mkF m 0 #[iv 0, rv t1] [])) (fun _ k => castTop (by first | (simp [entryFrame, mkF, argsToLocals, Value.category]; done) | rfl) k) ?_
  have ⟨S_i_COMPACT_STRINGS, nz_i_COMPACT_STRINGS, S_v_SIOOBE_FORMATTER, r_v_SIOOBE_FORMATTER, S_i__assertionsDisabled, S_i_HI_BYTE_SHIFT, S_i_LO_BYTE_SHIFT⟩ := WW
  have lt_t1 := V_t1.lt
  refine Go.st (f' := (mkF m 1 #[iv 0, rv t1] [(.int 0)])) (fun _ k => XS.iloadN X0.here hx rfl (hb hby d23_0) rfl k) ?_
  refine Go.st (f' := (mkF m 2 #[iv 0, rv t1] [(.ref t1), (.int 0)])) (fun _ k => XS.aloadN X0.here hx rfl (hb hby d23_1) rfl rfl k) ?_
  obtain ⟨_, _, ⟨T1, L1, kk1, nn1⟩, -, X1, ⟨Lc1, hQ1, lq1, yq1, zz1⟩, st1⟩ := Jvm.LawKit.callS X0 hx (y := (⟨"java/lang/StringUTF16", "length", "([B)I"⟩ : MethodName)) hown (mvT hZ (ww hw 106 rfl)) (mvT hZ (ww hw 107 rfl)) (mvT hZ (ww hw 43 rfl)) (mvT hZ (ww hw 108 rfl)) (by decide) (own_back (W := 1) (ul16_2 l Z a0 hw [] t1 k1 x0 x1 x2 x3 i_COMPACT_STRINGS v_SIOOBE_FORMATTER h0 n0 O0 V_t1 WW) hZ (ww hw 108 rfl) (ww hw 43 rfl) (by decide) (by decide)) (g := (mkF m 2 #[iv 0, rv t1] [(.ref t1), (.int 0)])) rfl (by rw [hml]; rfl) (argsL := [(.ref t1)]) (rest := [(.int (0 : Int32))]) (lenOf pd___B_I rfl) rfl (by show 2 * 0 + _ ≤ _; exact Nat.le_of_eq rfl) (hb hby d23_2) (fun _ _ => ⟨rfl, e0, (by decide : 0 + 0 ≤ _), (by decide : 0 + 0 ≤ _)⟩)
  dsimp only [Pt.U, Pt.locs, Pt.cells, Pt.slots] at X1 lq1 yq1 zz1 st1 hQ1
  subst lq1 yq1 zz1
  obtain ⟨rfl, Nq1, kq1⟩ := hQ1
  have N1 := Fr.app N0 Nq1
  refine Go.st (f' := (mkF m 5 #[iv 0, rv t1] [(.int 2), (.int 0)])) (fun _ k => st1 _ k) ?_
  obtain ⟨_, _, ⟨T2, L2, kk2, nn2⟩, -, X2, ⟨Lc2, hQ2, lq2, yq2, zz2⟩, st2⟩ := Jvm.LawKit.callS X1 hx (y := (⟨"java/lang/String", "checkIndex", "(II)V"⟩ : MethodName)) hown (mvT hZ (ww hw 109 rfl)) (mvT hZ (ww hw 70 rfl)) (mvT hZ (ww hw 3 rfl)) (mvT hZ (ww hw 71 rfl)) (by decide) (own_back (W := 0) (ck_s l Z a0 hw [] (0 : Int32) (2 : Int32) i_COMPACT_STRINGS v_SIOOBE_FORMATTER h0 n0 O0 (by decide) (by decide) WW) hZ (ww hw 71 rfl) (ww hw 3 rfl) (by decide) (by decide)) (g := (mkF m 5 #[iv 0, rv t1] [(.int 2), (.int 0)])) rfl (by rw [hml]; rfl) (argsL := [(.int (0 : Int32)), (.int (2 : Int32))]) (rest := []) (lenOf pd__II_V rfl) rfl (by show 2 * 0 + _ ≤ _; exact Nat.le_of_eq rfl) (hb hby d23_5) (fun _ _ => ⟨rfl, kq1, (by decide : 0 + 0 ≤ _), (by decide : 0 + 0 ≤ _)⟩)
  dsimp only [Pt.U, Pt.locs, Pt.cells, Pt.slots] at X2 lq2 yq2 zz2 st2 hQ2
  subst lq2 yq2 zz2
  obtain ⟨rfl, Nq2, kq2⟩ := hQ2
  have N2 := Fr.app N1 Nq2
  refine Go.st (f' := (mkF m 8 #[iv 0, rv t1] [])) (fun _ k => st2 _ k) ?_
  refine Go.ret0 X2 hlk hx hret (hb hby d23_8) kq2 ?_ (by decide) (by decide)
  exact ⟨rfl, N2, rfl⟩
def uvI_2_0 (x0 : Int32) (x1 : Int32) (x2 : Int32) (x3 : Int32) : Int32 := (nar .char (nar .char (((((x0 &&& (255 : Int32)) <<< ((0 : Int32) &&& 31)) ||| ((x1 &&& (255 : Int32)) <<< ((8 : Int32) &&& 31))).toUInt32.toUInt16.toUInt32.toInt32))))
set_option maxRecDepth 65536 in
set_option maxHeartbeats 40000000 in
theorem uv16_2_0 (l : Launch) (Z : State) (a0 : Array Value) (hw : ∀ d ∈ tables_1, d.before a0 Z = true) (ws : List Jvm.Cond) (t1 : Addr) (k1 : ClassId) (x0 : Int32) (x1 : Int32) (x2 : Int32) (x3 : Int32) (i_COMPACT_STRINGS : Int32) (v_SIOOBE_FORMATTER : Value) (h0 : Heap) (n0 : Nat) (O0 : Old Z n0 h0) (V_t1 : Arv Z h0 t1 k1 .byte (4 : Int32) [(.int x0), (.int x1), (.int x2), (.int x3)] (.int 0)) (WW : World1 Z i_COMPACT_STRINGS v_SIOOBE_FORMATTER) :
    Con l Z (⟨"java/lang/StringUTF16", "charAt", "([BI)C"⟩ : MethodName) jdk_52_method_83_code 2 (some .char) ws ({ frames := 3, cells := 0, slots := 0, locals := 40 } : Room) #[(.ref t1), (.int 0)] h0 (fun v h L => v = some (.int (uvI_2_0 x0 x1 x2 x3)) ∧ Fr n0 L ∧ h = h0) := by
  refine own_body (plainFor_of_name pn_java_lang_StringUTF16) ?_
  intro p e s m below meth c s₁ hx hby hml hZ hown hnm hlk hret X0 e0
  have N0 := Fr.nil n0
  refine Go.st (T' := s₁) (f' := (mkF m 0 #[rv t1, iv 0] [])) (fun _ k => castTop (by first | (simp [entryFrame, mkF, argsToLocals, Value.category]; done) | rfl) k) ?_
  have ⟨S_i_COMPACT_STRINGS, nz_i_COMPACT_STRINGS, S_v_SIOOBE_FORMATTER, r_v_SIOOBE_FORMATTER, S_i__assertionsDisabled, S_i_HI_BYTE_SHIFT, S_i_LO_BYTE_SHIFT⟩ := WW
  have lt_t1 := V_t1.lt
  refine Go.st (f' := (mkF m 1 #[rv t1, iv 0] [(.int 0)])) (fun _ k => XS.iloadN X0.here hx rfl (hb hby d22_0) rfl k) ?_
  refine Go.st (f' := (mkF m 2 #[rv t1, iv 0] [(.ref t1), (.int 0)])) (fun _ k => XS.aloadN X0.here hx rfl (hb hby d22_1) rfl rfl k) ?_
  obtain ⟨_, _, ⟨T1, L1, kk1, nn1⟩, -, X1, ⟨Lc1, hQ1, lq1, yq1, zz1⟩, st1⟩ := Jvm.LawKit.callS X0 hx (y := (⟨"java/lang/StringUTF16", "checkIndex", "(I[B)V"⟩ : MethodName)) hown (mvT hZ (ww hw 103 rfl)) (mvT hZ (ww hw 104 rfl)) (mvT hZ (ww hw 43 rfl)) (mvT hZ (ww hw 105 rfl)) (by decide) (own_back (W := 0) (uc16_2_0 l Z a0 hw [] t1 k1 x0 x1 x2 x3 i_COMPACT_STRINGS v_SIOOBE_FORMATTER h0 n0 O0 V_t1 WW) hZ (ww hw 105 rfl) (ww hw 43 rfl) (by decide) (by decide)) (g := (mkF m 2 #[rv t1, iv 0] [(.ref t1), (.int 0)])) rfl (by rw [hml]; rfl) (argsL := [(.int (0 : Int32)), (.ref t1)]) (rest := []) (lenOf pd__I_B_V rfl) rfl (by show 2 * 0 + _ ≤ _; exact Nat.le_of_eq rfl) (hb hby d22_2) (fun _ _ => ⟨rfl, e0, (by decide : 0 + 0 ≤ _), (by decide : 0 + 0 ≤ _)⟩)
  dsimp only [Pt.U, Pt.locs, Pt.cells, Pt.slots] at X1 lq1 yq1 zz1 st1 hQ1
  subst lq1 yq1 zz1
  obtain ⟨rfl, Nq1, kq1⟩ := hQ1
  have N1 := Fr.app N0 Nq1
  refine Go.st (f' := (mkF m 5 #[rv t1, iv 0] [])) (fun _ k => st1 _ k) ?_
  refine Go.st (f' := (mkF m 6 #[rv t1, iv 0] [(.ref t1)])) (fun _ k => XS.aloadN X1.here hx rfl (hb hby d22_5) rfl rfl k) ?_
  refine Go.st (f' := (mkF m 7 #[rv t1, iv 0] [(.int 0), (.ref t1)])) (fun _ k => XS.iloadN X1.here hx rfl (hb hby d22_6) rfl k) ?_
  obtain ⟨_, _, ⟨T2, L2, kk2, nn2⟩, -, X2, ⟨Lc2, hQ2, lq2, yq2, zz2⟩, st2⟩ := Jvm.LawKit.callS X1 hx (y := (⟨"java/lang/StringUTF16", "getChar", "([BI)C"⟩ : MethodName)) hown (mvT hZ (ww hw 97 rfl)) (mvT hZ (ww hw 98 rfl)) (mvT hZ (ww hw 43 rfl)) (mvT hZ (ww hw 99 rfl)) (by decide) (own_back (W := 0) (ug_2_0 l Z a0 hw [] t1 k1 x0 x1 x2 x3 i_COMPACT_STRINGS v_SIOOBE_FORMATTER h0 n0 O0 V_t1 WW) hZ (ww hw 99 rfl) (ww hw 43 rfl) (by decide) (by decide)) (g := (mkF m 7 #[rv t1, iv 0] [(.int 0), (.ref t1)])) rfl (by rw [hml]; rfl) (argsL := [(.ref t1), (.int (0 : Int32))]) (rest := []) (lenOf pd___BI_C rfl) rfl (by show 2 * 0 + _ ≤ _; exact Nat.le_of_eq rfl) (hb hby d22_7) (fun _ _ => ⟨rfl, kq1, (by decide : 0 + 0 ≤ _), (by decide : 0 + 0 ≤ _)⟩)
  dsimp only [Pt.U, Pt.locs, Pt.cells, Pt.slots] at X2 lq2 yq2 zz2 st2 hQ2
  subst lq2 yq2 zz2
  obtain ⟨rfl, Nq2, kq2⟩ := hQ2
  have N2 := Fr.app N1 Nq2
  refine Go.st (f' := (mkF m 10 #[rv t1, iv 0] [(.int (nar .char (((((x0 &&& (255 : Int32)) <<< ((0 : Int32) &&& 31)) ||| ((x1 &&& (255 : Int32)) <<< ((8 : Int32) &&& 31))).toUInt32.toUInt16.toUInt32.toInt32))))])) (fun _ k => st2 _ k) ?_
  refine Go.retB X2 hlk hx (t := .char) hret (by simp) (hb hby d22_10) kq2 ?_ (by decide) (by decide)
  show (some (.int (nar .char (nar .char (((((x0 &&& (255 : Int32)) <<< ((0 : Int32) &&& 31)) ||| ((x1 &&& (255 : Int32)) <<< ((8 : Int32) &&& 31))).toUInt32.toUInt16.toUInt32.toInt32))))) : Option Value) = some (.int (uvI_2_0 x0 x1 x2 x3)) ∧ _
  exact ⟨by rw [uvI_2_0], N2, rfl⟩
set_option maxRecDepth 65536 in
set_option maxHeartbeats 40000000 in
theorem uc16_2_1 (l : Launch) (Z : State) (a0 : Array Value) (hw : ∀ d ∈ tables_1, d.before a0 Z = true) (ws : List Jvm.Cond) (t1 : Addr) (k1 : ClassId) (x0 : Int32) (x1 : Int32) (x2 : Int32) (x3 : Int32) (i_COMPACT_STRINGS : Int32) (v_SIOOBE_FORMATTER : Value) (h0 : Heap) (n0 : Nat) (O0 : Old Z n0 h0) (V_t1 : Arv Z h0 t1 k1 .byte (4 : Int32) [(.int x0), (.int x1), (.int x2), (.int x3)] (.int 0)) (WW : World1 Z i_COMPACT_STRINGS v_SIOOBE_FORMATTER) :
    Con l Z (⟨"java/lang/StringUTF16", "checkIndex", "(I[B)V"⟩ : MethodName) jdk_52_method_91_code 2 none ws ({ frames := 2, cells := 0, slots := 0, locals := 27 } : Room) #[(.int 1), (.ref t1)] h0 (fun v h L => v = none ∧ Fr n0 L ∧ h = h0) := by
  refine own_body (plainFor_of_name pn_java_lang_StringUTF16) ?_
  intro p e s m below meth c s₁ hx hby hml hZ hown hnm hlk hret X0 e0
  have N0 := Fr.nil n0
  refine Go.st (T' := s₁) (f' := (mkF m 0 #[iv 1, rv t1] [])) (fun _ k => castTop (by first | (simp [entryFrame, mkF, argsToLocals, Value.category]; done) | rfl) k) ?_
  have ⟨S_i_COMPACT_STRINGS, nz_i_COMPACT_STRINGS, S_v_SIOOBE_FORMATTER, r_v_SIOOBE_FORMATTER, S_i__assertionsDisabled, S_i_HI_BYTE_SHIFT, S_i_LO_BYTE_SHIFT⟩ := WW
  have lt_t1 := V_t1.lt
  refine Go.st (f' := (mkF m 1 #[iv 1, rv t1] [(.int 1)])) (fun _ k => XS.iloadN X0.here hx rfl (hb hby d23_0) rfl k) ?_
  refine Go.st (f' := (mkF m 2 #[iv 1, rv t1] [(.ref t1), (.int 1)])) (fun _ k => XS.aloadN X0.here hx rfl (hb hby d23_1) rfl rfl k) ?_
  obtain ⟨_, _, ⟨T1, L1, kk1, nn1⟩, -, X1, ⟨Lc1, hQ1, lq1, yq1, zz1⟩, st1⟩ := Jvm.LawKit.callS X0 hx (y := (⟨"java/lang/StringUTF16", "length", "([B)I"⟩ : MethodName)) hown (mvT hZ (ww hw 106 rfl)) (mvT hZ (ww hw 107 rfl)) (mvT hZ (ww hw 43 rfl)) (mvT hZ (ww hw 108 rfl)) (by decide) (own_back (W := 1) (ul16_2 l Z a0 hw [] t1 k1 x0 x1 x2 x3 i_COMPACT_STRINGS v_SIOOBE_FORMATTER h0 n0 O0 V_t1 WW) hZ (ww hw 108 rfl) (ww hw 43 rfl) (by decide) (by decide)) (g := (mkF m 2 #[iv 1, rv t1] [(.ref t1), (.int 1)])) rfl (by rw [hml]; rfl) (argsL := [(.ref t1)]) (rest := [(.int (1 : Int32))]) (lenOf pd___B_I rfl) rfl (by show 2 * 0 + _ ≤ _; exact Nat.le_of_eq rfl) (hb hby d23_2) (fun _ _ => ⟨rfl, e0, (by decide : 0 + 0 ≤ _), (by decide : 0 + 0 ≤ _)⟩)
  dsimp only [Pt.U, Pt.locs, Pt.cells, Pt.slots] at X1 lq1 yq1 zz1 st1 hQ1
  subst lq1 yq1 zz1
  obtain ⟨rfl, Nq1, kq1⟩ := hQ1
  have N1 := Fr.app N0 Nq1
  refine Go.st (f' := (mkF m 5 #[iv 1, rv t1] [(.int 2), (.int 1)])) (fun _ k => st1 _ k) ?_
  obtain ⟨_, _, ⟨T2, L2, kk2, nn2⟩, -, X2, ⟨Lc2, hQ2, lq2, yq2, zz2⟩, st2⟩ := Jvm.LawKit.callS X1 hx (y := (⟨"java/lang/String", "checkIndex", "(II)V"⟩ : MethodName)) hown (mvT hZ (ww hw 109 rfl)) (mvT hZ (ww hw 70 rfl)) (mvT hZ (ww hw 3 rfl)) (mvT hZ (ww hw 71 rfl)) (by decide) (own_back (W := 0) (ck_s l Z a0 hw [] (1 : Int32) (2 : Int32) i_COMPACT_STRINGS v_SIOOBE_FORMATTER h0 n0 O0 (by decide) (by decide) WW) hZ (ww hw 71 rfl) (ww hw 3 rfl) (by decide) (by decide)) (g := (mkF m 5 #[iv 1, rv t1] [(.int 2), (.int 1)])) rfl (by rw [hml]; rfl) (argsL := [(.int (1 : Int32)), (.int (2 : Int32))]) (rest := []) (lenOf pd__II_V rfl) rfl (by show 2 * 0 + _ ≤ _; exact Nat.le_of_eq rfl) (hb hby d23_5) (fun _ _ => ⟨rfl, kq1, (by decide : 0 + 0 ≤ _), (by decide : 0 + 0 ≤ _)⟩)
  dsimp only [Pt.U, Pt.locs, Pt.cells, Pt.slots] at X2 lq2 yq2 zz2 st2 hQ2
  subst lq2 yq2 zz2
  obtain ⟨rfl, Nq2, kq2⟩ := hQ2
  have N2 := Fr.app N1 Nq2
  refine Go.st (f' := (mkF m 8 #[iv 1, rv t1] [])) (fun _ k => st2 _ k) ?_
  refine Go.ret0 X2 hlk hx hret (hb hby d23_8) kq2 ?_ (by decide) (by decide)
  exact ⟨rfl, N2, rfl⟩
def uvI_2_1 (x0 : Int32) (x1 : Int32) (x2 : Int32) (x3 : Int32) : Int32 := (nar .char (nar .char (((((x2 &&& (255 : Int32)) <<< ((0 : Int32) &&& 31)) ||| ((x3 &&& (255 : Int32)) <<< ((8 : Int32) &&& 31))).toUInt32.toUInt16.toUInt32.toInt32))))
set_option maxRecDepth 65536 in
set_option maxHeartbeats 40000000 in
theorem uv16_2_1 (l : Launch) (Z : State) (a0 : Array Value) (hw : ∀ d ∈ tables_1, d.before a0 Z = true) (ws : List Jvm.Cond) (t1 : Addr) (k1 : ClassId) (x0 : Int32) (x1 : Int32) (x2 : Int32) (x3 : Int32) (i_COMPACT_STRINGS : Int32) (v_SIOOBE_FORMATTER : Value) (h0 : Heap) (n0 : Nat) (O0 : Old Z n0 h0) (V_t1 : Arv Z h0 t1 k1 .byte (4 : Int32) [(.int x0), (.int x1), (.int x2), (.int x3)] (.int 0)) (WW : World1 Z i_COMPACT_STRINGS v_SIOOBE_FORMATTER) :
    Con l Z (⟨"java/lang/StringUTF16", "charAt", "([BI)C"⟩ : MethodName) jdk_52_method_83_code 2 (some .char) ws ({ frames := 3, cells := 0, slots := 0, locals := 40 } : Room) #[(.ref t1), (.int 1)] h0 (fun v h L => v = some (.int (uvI_2_1 x0 x1 x2 x3)) ∧ Fr n0 L ∧ h = h0) := by
  refine own_body (plainFor_of_name pn_java_lang_StringUTF16) ?_
  intro p e s m below meth c s₁ hx hby hml hZ hown hnm hlk hret X0 e0
  have N0 := Fr.nil n0
  refine Go.st (T' := s₁) (f' := (mkF m 0 #[rv t1, iv 1] [])) (fun _ k => castTop (by first | (simp [entryFrame, mkF, argsToLocals, Value.category]; done) | rfl) k) ?_
  have ⟨S_i_COMPACT_STRINGS, nz_i_COMPACT_STRINGS, S_v_SIOOBE_FORMATTER, r_v_SIOOBE_FORMATTER, S_i__assertionsDisabled, S_i_HI_BYTE_SHIFT, S_i_LO_BYTE_SHIFT⟩ := WW
  have lt_t1 := V_t1.lt
  refine Go.st (f' := (mkF m 1 #[rv t1, iv 1] [(.int 1)])) (fun _ k => XS.iloadN X0.here hx rfl (hb hby d22_0) rfl k) ?_
  refine Go.st (f' := (mkF m 2 #[rv t1, iv 1] [(.ref t1), (.int 1)])) (fun _ k => XS.aloadN X0.here hx rfl (hb hby d22_1) rfl rfl k) ?_
  obtain ⟨_, _, ⟨T1, L1, kk1, nn1⟩, -, X1, ⟨Lc1, hQ1, lq1, yq1, zz1⟩, st1⟩ := Jvm.LawKit.callS X0 hx (y := (⟨"java/lang/StringUTF16", "checkIndex", "(I[B)V"⟩ : MethodName)) hown (mvT hZ (ww hw 103 rfl)) (mvT hZ (ww hw 104 rfl)) (mvT hZ (ww hw 43 rfl)) (mvT hZ (ww hw 105 rfl)) (by decide) (own_back (W := 0) (uc16_2_1 l Z a0 hw [] t1 k1 x0 x1 x2 x3 i_COMPACT_STRINGS v_SIOOBE_FORMATTER h0 n0 O0 V_t1 WW) hZ (ww hw 105 rfl) (ww hw 43 rfl) (by decide) (by decide)) (g := (mkF m 2 #[rv t1, iv 1] [(.ref t1), (.int 1)])) rfl (by rw [hml]; rfl) (argsL := [(.int (1 : Int32)), (.ref t1)]) (rest := []) (lenOf pd__I_B_V rfl) rfl (by show 2 * 0 + _ ≤ _; exact Nat.le_of_eq rfl) (hb hby d22_2) (fun _ _ => ⟨rfl, e0, (by decide : 0 + 0 ≤ _), (by decide : 0 + 0 ≤ _)⟩)
  dsimp only [Pt.U, Pt.locs, Pt.cells, Pt.slots] at X1 lq1 yq1 zz1 st1 hQ1
  subst lq1 yq1 zz1
  obtain ⟨rfl, Nq1, kq1⟩ := hQ1
  have N1 := Fr.app N0 Nq1
  refine Go.st (f' := (mkF m 5 #[rv t1, iv 1] [])) (fun _ k => st1 _ k) ?_
  refine Go.st (f' := (mkF m 6 #[rv t1, iv 1] [(.ref t1)])) (fun _ k => XS.aloadN X1.here hx rfl (hb hby d22_5) rfl rfl k) ?_
  refine Go.st (f' := (mkF m 7 #[rv t1, iv 1] [(.int 1), (.ref t1)])) (fun _ k => XS.iloadN X1.here hx rfl (hb hby d22_6) rfl k) ?_
  obtain ⟨_, _, ⟨T2, L2, kk2, nn2⟩, -, X2, ⟨Lc2, hQ2, lq2, yq2, zz2⟩, st2⟩ := Jvm.LawKit.callS X1 hx (y := (⟨"java/lang/StringUTF16", "getChar", "([BI)C"⟩ : MethodName)) hown (mvT hZ (ww hw 97 rfl)) (mvT hZ (ww hw 98 rfl)) (mvT hZ (ww hw 43 rfl)) (mvT hZ (ww hw 99 rfl)) (by decide) (own_back (W := 0) (ug_2_1 l Z a0 hw [] t1 k1 x0 x1 x2 x3 i_COMPACT_STRINGS v_SIOOBE_FORMATTER h0 n0 O0 V_t1 WW) hZ (ww hw 99 rfl) (ww hw 43 rfl) (by decide) (by decide)) (g := (mkF m 7 #[rv t1, iv 1] [(.int 1), (.ref t1)])) rfl (by rw [hml]; rfl) (argsL := [(.ref t1), (.int (1 : Int32))]) (rest := []) (lenOf pd___BI_C rfl) rfl (by show 2 * 0 + _ ≤ _; exact Nat.le_of_eq rfl) (hb hby d22_7) (fun _ _ => ⟨rfl, kq1, (by decide : 0 + 0 ≤ _), (by decide : 0 + 0 ≤ _)⟩)
  dsimp only [Pt.U, Pt.locs, Pt.cells, Pt.slots] at X2 lq2 yq2 zz2 st2 hQ2
  subst lq2 yq2 zz2
  obtain ⟨rfl, Nq2, kq2⟩ := hQ2
  have N2 := Fr.app N1 Nq2
  refine Go.st (f' := (mkF m 10 #[rv t1, iv 1] [(.int (nar .char (((((x2 &&& (255 : Int32)) <<< ((0 : Int32) &&& 31)) ||| ((x3 &&& (255 : Int32)) <<< ((8 : Int32) &&& 31))).toUInt32.toUInt16.toUInt32.toInt32))))])) (fun _ k => st2 _ k) ?_
  refine Go.retB X2 hlk hx (t := .char) hret (by simp) (hb hby d22_10) kq2 ?_ (by decide) (by decide)
  show (some (.int (nar .char (nar .char (((((x2 &&& (255 : Int32)) <<< ((0 : Int32) &&& 31)) ||| ((x3 &&& (255 : Int32)) <<< ((8 : Int32) &&& 31))).toUInt32.toUInt16.toUInt32.toInt32))))) : Option Value) = some (.int (uvI_2_1 x0 x1 x2 x3)) ∧ _
  exact ⟨by rw [uvI_2_1], N2, rfl⟩
set_option maxRecDepth 65536 in
set_option maxHeartbeats 40000000 in
theorem ul16_3 (l : Launch) (Z : State) (a0 : Array Value) (hw : ∀ d ∈ tables_1, d.before a0 Z = true) (ws : List Jvm.Cond) (t1 : Addr) (k1 : ClassId) (x0 : Int32) (x1 : Int32) (x2 : Int32) (x3 : Int32) (x4 : Int32) (x5 : Int32) (i_COMPACT_STRINGS : Int32) (v_SIOOBE_FORMATTER : Value) (h0 : Heap) (n0 : Nat) (O0 : Old Z n0 h0) (V_t1 : Arv Z h0 t1 k1 .byte (6 : Int32) [(.int x0), (.int x1), (.int x2), (.int x3), (.int x4), (.int x5)] (.int 0)) (WW : World1 Z i_COMPACT_STRINGS v_SIOOBE_FORMATTER) :
    Con l Z (⟨"java/lang/StringUTF16", "length", "([B)I"⟩ : MethodName) jdk_52_method_6_code 1 (some .int) ws ({ frames := 0, cells := 0, slots := 0, locals := 0 } : Room) #[(.ref t1)] h0 (fun v h L => v = some (.int 3) ∧ Fr n0 L ∧ h = h0) := by
  refine own_body (plainFor_of_name pn_java_lang_StringUTF16) ?_
  intro p e s m below meth c s₁ hx hby hml hZ hown hnm hlk hret X0 e0
  have N0 := Fr.nil n0
  refine Go.st (T' := s₁) (f' := (mkF m 0 #[rv t1] [])) (fun _ k => castTop (by first | (simp [entryFrame, mkF, argsToLocals, Value.category]; done) | rfl) k) ?_
  have ⟨S_i_COMPACT_STRINGS, nz_i_COMPACT_STRINGS, S_v_SIOOBE_FORMATTER, r_v_SIOOBE_FORMATTER, S_i__assertionsDisabled, S_i_HI_BYTE_SHIFT, S_i_LO_BYTE_SHIFT⟩ := WW
  have lt_t1 := V_t1.lt
  refine Go.st (f' := (mkF m 1 #[rv t1] [(.ref t1)])) (fun _ k => XS.aloadN X0.here hx rfl (hb hby d24_0) rfl rfl k) ?_
  obtain ⟨cl1, Ar1, -, S1, Nx1, -, -⟩ := id V_t1
  refine Go.st (T' := s₁) (f' := (mkF m 2 #[rv t1] [(.int 6)])) (fun _ k => X0.arraylength hx (by rw [e0]; exact Ar1.1) (State.isArrayOf_alike hZ.alike Ar1.2.1) (g := (mkF m 1 #[rv t1] [(.ref t1)])) rfl rfl (hb hby d24_1) _ (by rw [len_of S1 Nx1]; exact k)) ?_
  refine Go.st (f' := (mkF m 3 #[rv t1] [(.int 1), (.int 6)])) (fun _ k => XS.iconst X0.here hx rfl (hb hby d24_2) k) ?_
  refine Go.st (f' := (mkF m 4 #[rv t1] [(.int 3)])) (fun _ k => XS.ishr X0.here hx rfl (hb hby d24_3) rfl k) ?_
  refine Go.retV X0 hlk hx (t := .int) hret rfl (Or.inl ⟨rfl, Or.inl rfl, _, rfl⟩) (hb hby d24_4) e0 ?_ (by decide) (by decide)
  exact ⟨rfl, N0, rfl⟩
set_option maxRecDepth 65536 in
set_option maxHeartbeats 40000000 in
theorem uc16_3_0 (l : Launch) (Z : State) (a0 : Array Value) (hw : ∀ d ∈ tables_1, d.before a0 Z = true) (ws : List Jvm.Cond) (t1 : Addr) (k1 : ClassId) (x0 : Int32) (x1 : Int32) (x2 : Int32) (x3 : Int32) (x4 : Int32) (x5 : Int32) (i_COMPACT_STRINGS : Int32) (v_SIOOBE_FORMATTER : Value) (h0 : Heap) (n0 : Nat) (O0 : Old Z n0 h0) (V_t1 : Arv Z h0 t1 k1 .byte (6 : Int32) [(.int x0), (.int x1), (.int x2), (.int x3), (.int x4), (.int x5)] (.int 0)) (WW : World1 Z i_COMPACT_STRINGS v_SIOOBE_FORMATTER) :
    Con l Z (⟨"java/lang/StringUTF16", "checkIndex", "(I[B)V"⟩ : MethodName) jdk_52_method_91_code 2 none ws ({ frames := 2, cells := 0, slots := 0, locals := 27 } : Room) #[(.int 0), (.ref t1)] h0 (fun v h L => v = none ∧ Fr n0 L ∧ h = h0) := by
  refine own_body (plainFor_of_name pn_java_lang_StringUTF16) ?_
  intro p e s m below meth c s₁ hx hby hml hZ hown hnm hlk hret X0 e0
  have N0 := Fr.nil n0
  refine Go.st (T' := s₁) (f' := (mkF m 0 #[iv 0, rv t1] [])) (fun _ k => castTop (by first | (simp [entryFrame, mkF, argsToLocals, Value.category]; done) | rfl) k) ?_
  have ⟨S_i_COMPACT_STRINGS, nz_i_COMPACT_STRINGS, S_v_SIOOBE_FORMATTER, r_v_SIOOBE_FORMATTER, S_i__assertionsDisabled, S_i_HI_BYTE_SHIFT, S_i_LO_BYTE_SHIFT⟩ := WW
  have lt_t1 := V_t1.lt
  refine Go.st (f' := (mkF m 1 #[iv 0, rv t1] [(.int 0)])) (fun _ k => XS.iloadN X0.here hx rfl (hb hby d23_0) rfl k) ?_
  refine Go.st (f' := (mkF m 2 #[iv 0, rv t1] [(.ref t1), (.int 0)])) (fun _ k => XS.aloadN X0.here hx rfl (hb hby d23_1) rfl rfl k) ?_
  obtain ⟨_, _, ⟨T1, L1, kk1, nn1⟩, -, X1, ⟨Lc1, hQ1, lq1, yq1, zz1⟩, st1⟩ := Jvm.LawKit.callS X0 hx (y := (⟨"java/lang/StringUTF16", "length", "([B)I"⟩ : MethodName)) hown (mvT hZ (ww hw 106 rfl)) (mvT hZ (ww hw 107 rfl)) (mvT hZ (ww hw 43 rfl)) (mvT hZ (ww hw 108 rfl)) (by decide) (own_back (W := 1) (ul16_3 l Z a0 hw [] t1 k1 x0 x1 x2 x3 x4 x5 i_COMPACT_STRINGS v_SIOOBE_FORMATTER h0 n0 O0 V_t1 WW) hZ (ww hw 108 rfl) (ww hw 43 rfl) (by decide) (by decide)) (g := (mkF m 2 #[iv 0, rv t1] [(.ref t1), (.int 0)])) rfl (by rw [hml]; rfl) (argsL := [(.ref t1)]) (rest := [(.int (0 : Int32))]) (lenOf pd___B_I rfl) rfl (by show 2 * 0 + _ ≤ _; exact Nat.le_of_eq rfl) (hb hby d23_2) (fun _ _ => ⟨rfl, e0, (by decide : 0 + 0 ≤ _), (by decide : 0 + 0 ≤ _)⟩)
  dsimp only [Pt.U, Pt.locs, Pt.cells, Pt.slots] at X1 lq1 yq1 zz1 st1 hQ1
  subst lq1 yq1 zz1
  obtain ⟨rfl, Nq1, kq1⟩ := hQ1
  have N1 := Fr.app N0 Nq1
  refine Go.st (f' := (mkF m 5 #[iv 0, rv t1] [(.int 3), (.int 0)])) (fun _ k => st1 _ k) ?_
  obtain ⟨_, _, ⟨T2, L2, kk2, nn2⟩, -, X2, ⟨Lc2, hQ2, lq2, yq2, zz2⟩, st2⟩ := Jvm.LawKit.callS X1 hx (y := (⟨"java/lang/String", "checkIndex", "(II)V"⟩ : MethodName)) hown (mvT hZ (ww hw 109 rfl)) (mvT hZ (ww hw 70 rfl)) (mvT hZ (ww hw 3 rfl)) (mvT hZ (ww hw 71 rfl)) (by decide) (own_back (W := 0) (ck_s l Z a0 hw [] (0 : Int32) (3 : Int32) i_COMPACT_STRINGS v_SIOOBE_FORMATTER h0 n0 O0 (by decide) (by decide) WW) hZ (ww hw 71 rfl) (ww hw 3 rfl) (by decide) (by decide)) (g := (mkF m 5 #[iv 0, rv t1] [(.int 3), (.int 0)])) rfl (by rw [hml]; rfl) (argsL := [(.int (0 : Int32)), (.int (3 : Int32))]) (rest := []) (lenOf pd__II_V rfl) rfl (by show 2 * 0 + _ ≤ _; exact Nat.le_of_eq rfl) (hb hby d23_5) (fun _ _ => ⟨rfl, kq1, (by decide : 0 + 0 ≤ _), (by decide : 0 + 0 ≤ _)⟩)
  dsimp only [Pt.U, Pt.locs, Pt.cells, Pt.slots] at X2 lq2 yq2 zz2 st2 hQ2
  subst lq2 yq2 zz2
  obtain ⟨rfl, Nq2, kq2⟩ := hQ2
  have N2 := Fr.app N1 Nq2
  refine Go.st (f' := (mkF m 8 #[iv 0, rv t1] [])) (fun _ k => st2 _ k) ?_
  refine Go.ret0 X2 hlk hx hret (hb hby d23_8) kq2 ?_ (by decide) (by decide)
  exact ⟨rfl, N2, rfl⟩
def uvI_3_0 (x0 : Int32) (x1 : Int32) (x2 : Int32) (x3 : Int32) (x4 : Int32) (x5 : Int32) : Int32 := (nar .char (nar .char (((((x0 &&& (255 : Int32)) <<< ((0 : Int32) &&& 31)) ||| ((x1 &&& (255 : Int32)) <<< ((8 : Int32) &&& 31))).toUInt32.toUInt16.toUInt32.toInt32))))
set_option maxRecDepth 65536 in
set_option maxHeartbeats 40000000 in
theorem uv16_3_0 (l : Launch) (Z : State) (a0 : Array Value) (hw : ∀ d ∈ tables_1, d.before a0 Z = true) (ws : List Jvm.Cond) (t1 : Addr) (k1 : ClassId) (x0 : Int32) (x1 : Int32) (x2 : Int32) (x3 : Int32) (x4 : Int32) (x5 : Int32) (i_COMPACT_STRINGS : Int32) (v_SIOOBE_FORMATTER : Value) (h0 : Heap) (n0 : Nat) (O0 : Old Z n0 h0) (V_t1 : Arv Z h0 t1 k1 .byte (6 : Int32) [(.int x0), (.int x1), (.int x2), (.int x3), (.int x4), (.int x5)] (.int 0)) (WW : World1 Z i_COMPACT_STRINGS v_SIOOBE_FORMATTER) :
    Con l Z (⟨"java/lang/StringUTF16", "charAt", "([BI)C"⟩ : MethodName) jdk_52_method_83_code 2 (some .char) ws ({ frames := 3, cells := 0, slots := 0, locals := 40 } : Room) #[(.ref t1), (.int 0)] h0 (fun v h L => v = some (.int (uvI_3_0 x0 x1 x2 x3 x4 x5)) ∧ Fr n0 L ∧ h = h0) := by
  refine own_body (plainFor_of_name pn_java_lang_StringUTF16) ?_
  intro p e s m below meth c s₁ hx hby hml hZ hown hnm hlk hret X0 e0
  have N0 := Fr.nil n0
  refine Go.st (T' := s₁) (f' := (mkF m 0 #[rv t1, iv 0] [])) (fun _ k => castTop (by first | (simp [entryFrame, mkF, argsToLocals, Value.category]; done) | rfl) k) ?_
  have ⟨S_i_COMPACT_STRINGS, nz_i_COMPACT_STRINGS, S_v_SIOOBE_FORMATTER, r_v_SIOOBE_FORMATTER, S_i__assertionsDisabled, S_i_HI_BYTE_SHIFT, S_i_LO_BYTE_SHIFT⟩ := WW
  have lt_t1 := V_t1.lt
  refine Go.st (f' := (mkF m 1 #[rv t1, iv 0] [(.int 0)])) (fun _ k => XS.iloadN X0.here hx rfl (hb hby d22_0) rfl k) ?_
  refine Go.st (f' := (mkF m 2 #[rv t1, iv 0] [(.ref t1), (.int 0)])) (fun _ k => XS.aloadN X0.here hx rfl (hb hby d22_1) rfl rfl k) ?_
  obtain ⟨_, _, ⟨T1, L1, kk1, nn1⟩, -, X1, ⟨Lc1, hQ1, lq1, yq1, zz1⟩, st1⟩ := Jvm.LawKit.callS X0 hx (y := (⟨"java/lang/StringUTF16", "checkIndex", "(I[B)V"⟩ : MethodName)) hown (mvT hZ (ww hw 103 rfl)) (mvT hZ (ww hw 104 rfl)) (mvT hZ (ww hw 43 rfl)) (mvT hZ (ww hw 105 rfl)) (by decide) (own_back (W := 0) (uc16_3_0 l Z a0 hw [] t1 k1 x0 x1 x2 x3 x4 x5 i_COMPACT_STRINGS v_SIOOBE_FORMATTER h0 n0 O0 V_t1 WW) hZ (ww hw 105 rfl) (ww hw 43 rfl) (by decide) (by decide)) (g := (mkF m 2 #[rv t1, iv 0] [(.ref t1), (.int 0)])) rfl (by rw [hml]; rfl) (argsL := [(.int (0 : Int32)), (.ref t1)]) (rest := []) (lenOf pd__I_B_V rfl) rfl (by show 2 * 0 + _ ≤ _; exact Nat.le_of_eq rfl) (hb hby d22_2) (fun _ _ => ⟨rfl, e0, (by decide : 0 + 0 ≤ _), (by decide : 0 + 0 ≤ _)⟩)
  dsimp only [Pt.U, Pt.locs, Pt.cells, Pt.slots] at X1 lq1 yq1 zz1 st1 hQ1
  subst lq1 yq1 zz1
  obtain ⟨rfl, Nq1, kq1⟩ := hQ1
  have N1 := Fr.app N0 Nq1
  refine Go.st (f' := (mkF m 5 #[rv t1, iv 0] [])) (fun _ k => st1 _ k) ?_
  refine Go.st (f' := (mkF m 6 #[rv t1, iv 0] [(.ref t1)])) (fun _ k => XS.aloadN X1.here hx rfl (hb hby d22_5) rfl rfl k) ?_
  refine Go.st (f' := (mkF m 7 #[rv t1, iv 0] [(.int 0), (.ref t1)])) (fun _ k => XS.iloadN X1.here hx rfl (hb hby d22_6) rfl k) ?_
  obtain ⟨_, _, ⟨T2, L2, kk2, nn2⟩, -, X2, ⟨Lc2, hQ2, lq2, yq2, zz2⟩, st2⟩ := Jvm.LawKit.callS X1 hx (y := (⟨"java/lang/StringUTF16", "getChar", "([BI)C"⟩ : MethodName)) hown (mvT hZ (ww hw 97 rfl)) (mvT hZ (ww hw 98 rfl)) (mvT hZ (ww hw 43 rfl)) (mvT hZ (ww hw 99 rfl)) (by decide) (own_back (W := 0) (ug_3_0 l Z a0 hw [] t1 k1 x0 x1 x2 x3 x4 x5 i_COMPACT_STRINGS v_SIOOBE_FORMATTER h0 n0 O0 V_t1 WW) hZ (ww hw 99 rfl) (ww hw 43 rfl) (by decide) (by decide)) (g := (mkF m 7 #[rv t1, iv 0] [(.int 0), (.ref t1)])) rfl (by rw [hml]; rfl) (argsL := [(.ref t1), (.int (0 : Int32))]) (rest := []) (lenOf pd___BI_C rfl) rfl (by show 2 * 0 + _ ≤ _; exact Nat.le_of_eq rfl) (hb hby d22_7) (fun _ _ => ⟨rfl, kq1, (by decide : 0 + 0 ≤ _), (by decide : 0 + 0 ≤ _)⟩)
  dsimp only [Pt.U, Pt.locs, Pt.cells, Pt.slots] at X2 lq2 yq2 zz2 st2 hQ2
  subst lq2 yq2 zz2
  obtain ⟨rfl, Nq2, kq2⟩ := hQ2
  have N2 := Fr.app N1 Nq2
  refine Go.st (f' := (mkF m 10 #[rv t1, iv 0] [(.int (nar .char (((((x0 &&& (255 : Int32)) <<< ((0 : Int32) &&& 31)) ||| ((x1 &&& (255 : Int32)) <<< ((8 : Int32) &&& 31))).toUInt32.toUInt16.toUInt32.toInt32))))])) (fun _ k => st2 _ k) ?_
  refine Go.retB X2 hlk hx (t := .char) hret (by simp) (hb hby d22_10) kq2 ?_ (by decide) (by decide)
  show (some (.int (nar .char (nar .char (((((x0 &&& (255 : Int32)) <<< ((0 : Int32) &&& 31)) ||| ((x1 &&& (255 : Int32)) <<< ((8 : Int32) &&& 31))).toUInt32.toUInt16.toUInt32.toInt32))))) : Option Value) = some (.int (uvI_3_0 x0 x1 x2 x3 x4 x5)) ∧ _
  exact ⟨by rw [uvI_3_0], N2, rfl⟩
set_option maxRecDepth 65536 in
set_option maxHeartbeats 40000000 in
theorem uc16_3_1 (l : Launch) (Z : State) (a0 : Array Value) (hw : ∀ d ∈ tables_1, d.before a0 Z = true) (ws : List Jvm.Cond) (t1 : Addr) (k1 : ClassId) (x0 : Int32) (x1 : Int32) (x2 : Int32) (x3 : Int32) (x4 : Int32) (x5 : Int32) (i_COMPACT_STRINGS : Int32) (v_SIOOBE_FORMATTER : Value) (h0 : Heap) (n0 : Nat) (O0 : Old Z n0 h0) (V_t1 : Arv Z h0 t1 k1 .byte (6 : Int32) [(.int x0), (.int x1), (.int x2), (.int x3), (.int x4), (.int x5)] (.int 0)) (WW : World1 Z i_COMPACT_STRINGS v_SIOOBE_FORMATTER) :
    Con l Z (⟨"java/lang/StringUTF16", "checkIndex", "(I[B)V"⟩ : MethodName) jdk_52_method_91_code 2 none ws ({ frames := 2, cells := 0, slots := 0, locals := 27 } : Room) #[(.int 1), (.ref t1)] h0 (fun v h L => v = none ∧ Fr n0 L ∧ h = h0) := by
  refine own_body (plainFor_of_name pn_java_lang_StringUTF16) ?_
  intro p e s m below meth c s₁ hx hby hml hZ hown hnm hlk hret X0 e0
  have N0 := Fr.nil n0
  refine Go.st (T' := s₁) (f' := (mkF m 0 #[iv 1, rv t1] [])) (fun _ k => castTop (by first | (simp [entryFrame, mkF, argsToLocals, Value.category]; done) | rfl) k) ?_
  have ⟨S_i_COMPACT_STRINGS, nz_i_COMPACT_STRINGS, S_v_SIOOBE_FORMATTER, r_v_SIOOBE_FORMATTER, S_i__assertionsDisabled, S_i_HI_BYTE_SHIFT, S_i_LO_BYTE_SHIFT⟩ := WW
  have lt_t1 := V_t1.lt
  refine Go.st (f' := (mkF m 1 #[iv 1, rv t1] [(.int 1)])) (fun _ k => XS.iloadN X0.here hx rfl (hb hby d23_0) rfl k) ?_
  refine Go.st (f' := (mkF m 2 #[iv 1, rv t1] [(.ref t1), (.int 1)])) (fun _ k => XS.aloadN X0.here hx rfl (hb hby d23_1) rfl rfl k) ?_
  obtain ⟨_, _, ⟨T1, L1, kk1, nn1⟩, -, X1, ⟨Lc1, hQ1, lq1, yq1, zz1⟩, st1⟩ := Jvm.LawKit.callS X0 hx (y := (⟨"java/lang/StringUTF16", "length", "([B)I"⟩ : MethodName)) hown (mvT hZ (ww hw 106 rfl)) (mvT hZ (ww hw 107 rfl)) (mvT hZ (ww hw 43 rfl)) (mvT hZ (ww hw 108 rfl)) (by decide) (own_back (W := 1) (ul16_3 l Z a0 hw [] t1 k1 x0 x1 x2 x3 x4 x5 i_COMPACT_STRINGS v_SIOOBE_FORMATTER h0 n0 O0 V_t1 WW) hZ (ww hw 108 rfl) (ww hw 43 rfl) (by decide) (by decide)) (g := (mkF m 2 #[iv 1, rv t1] [(.ref t1), (.int 1)])) rfl (by rw [hml]; rfl) (argsL := [(.ref t1)]) (rest := [(.int (1 : Int32))]) (lenOf pd___B_I rfl) rfl (by show 2 * 0 + _ ≤ _; exact Nat.le_of_eq rfl) (hb hby d23_2) (fun _ _ => ⟨rfl, e0, (by decide : 0 + 0 ≤ _), (by decide : 0 + 0 ≤ _)⟩)
  dsimp only [Pt.U, Pt.locs, Pt.cells, Pt.slots] at X1 lq1 yq1 zz1 st1 hQ1
  subst lq1 yq1 zz1
  obtain ⟨rfl, Nq1, kq1⟩ := hQ1
  have N1 := Fr.app N0 Nq1
  refine Go.st (f' := (mkF m 5 #[iv 1, rv t1] [(.int 3), (.int 1)])) (fun _ k => st1 _ k) ?_
  obtain ⟨_, _, ⟨T2, L2, kk2, nn2⟩, -, X2, ⟨Lc2, hQ2, lq2, yq2, zz2⟩, st2⟩ := Jvm.LawKit.callS X1 hx (y := (⟨"java/lang/String", "checkIndex", "(II)V"⟩ : MethodName)) hown (mvT hZ (ww hw 109 rfl)) (mvT hZ (ww hw 70 rfl)) (mvT hZ (ww hw 3 rfl)) (mvT hZ (ww hw 71 rfl)) (by decide) (own_back (W := 0) (ck_s l Z a0 hw [] (1 : Int32) (3 : Int32) i_COMPACT_STRINGS v_SIOOBE_FORMATTER h0 n0 O0 (by decide) (by decide) WW) hZ (ww hw 71 rfl) (ww hw 3 rfl) (by decide) (by decide)) (g := (mkF m 5 #[iv 1, rv t1] [(.int 3), (.int 1)])) rfl (by rw [hml]; rfl) (argsL := [(.int (1 : Int32)), (.int (3 : Int32))]) (rest := []) (lenOf pd__II_V rfl) rfl (by show 2 * 0 + _ ≤ _; exact Nat.le_of_eq rfl) (hb hby d23_5) (fun _ _ => ⟨rfl, kq1, (by decide : 0 + 0 ≤ _), (by decide : 0 + 0 ≤ _)⟩)
  dsimp only [Pt.U, Pt.locs, Pt.cells, Pt.slots] at X2 lq2 yq2 zz2 st2 hQ2
  subst lq2 yq2 zz2
  obtain ⟨rfl, Nq2, kq2⟩ := hQ2
  have N2 := Fr.app N1 Nq2
  refine Go.st (f' := (mkF m 8 #[iv 1, rv t1] [])) (fun _ k => st2 _ k) ?_
  refine Go.ret0 X2 hlk hx hret (hb hby d23_8) kq2 ?_ (by decide) (by decide)
  exact ⟨rfl, N2, rfl⟩
def uvI_3_1 (x0 : Int32) (x1 : Int32) (x2 : Int32) (x3 : Int32) (x4 : Int32) (x5 : Int32) : Int32 := (nar .char (nar .char (((((x2 &&& (255 : Int32)) <<< ((0 : Int32) &&& 31)) ||| ((x3 &&& (255 : Int32)) <<< ((8 : Int32) &&& 31))).toUInt32.toUInt16.toUInt32.toInt32))))
set_option maxRecDepth 65536 in
set_option maxHeartbeats 40000000 in
theorem uv16_3_1 (l : Launch) (Z : State) (a0 : Array Value) (hw : ∀ d ∈ tables_1, d.before a0 Z = true) (ws : List Jvm.Cond) (t1 : Addr) (k1 : ClassId) (x0 : Int32) (x1 : Int32) (x2 : Int32) (x3 : Int32) (x4 : Int32) (x5 : Int32) (i_COMPACT_STRINGS : Int32) (v_SIOOBE_FORMATTER : Value) (h0 : Heap) (n0 : Nat) (O0 : Old Z n0 h0) (V_t1 : Arv Z h0 t1 k1 .byte (6 : Int32) [(.int x0), (.int x1), (.int x2), (.int x3), (.int x4), (.int x5)] (.int 0)) (WW : World1 Z i_COMPACT_STRINGS v_SIOOBE_FORMATTER) :
    Con l Z (⟨"java/lang/StringUTF16", "charAt", "([BI)C"⟩ : MethodName) jdk_52_method_83_code 2 (some .char) ws ({ frames := 3, cells := 0, slots := 0, locals := 40 } : Room) #[(.ref t1), (.int 1)] h0 (fun v h L => v = some (.int (uvI_3_1 x0 x1 x2 x3 x4 x5)) ∧ Fr n0 L ∧ h = h0) := by
  refine own_body (plainFor_of_name pn_java_lang_StringUTF16) ?_
  intro p e s m below meth c s₁ hx hby hml hZ hown hnm hlk hret X0 e0
  have N0 := Fr.nil n0
  refine Go.st (T' := s₁) (f' := (mkF m 0 #[rv t1, iv 1] [])) (fun _ k => castTop (by first | (simp [entryFrame, mkF, argsToLocals, Value.category]; done) | rfl) k) ?_
  have ⟨S_i_COMPACT_STRINGS, nz_i_COMPACT_STRINGS, S_v_SIOOBE_FORMATTER, r_v_SIOOBE_FORMATTER, S_i__assertionsDisabled, S_i_HI_BYTE_SHIFT, S_i_LO_BYTE_SHIFT⟩ := WW
  have lt_t1 := V_t1.lt
  refine Go.st (f' := (mkF m 1 #[rv t1, iv 1] [(.int 1)])) (fun _ k => XS.iloadN X0.here hx rfl (hb hby d22_0) rfl k) ?_
  refine Go.st (f' := (mkF m 2 #[rv t1, iv 1] [(.ref t1), (.int 1)])) (fun _ k => XS.aloadN X0.here hx rfl (hb hby d22_1) rfl rfl k) ?_
  obtain ⟨_, _, ⟨T1, L1, kk1, nn1⟩, -, X1, ⟨Lc1, hQ1, lq1, yq1, zz1⟩, st1⟩ := Jvm.LawKit.callS X0 hx (y := (⟨"java/lang/StringUTF16", "checkIndex", "(I[B)V"⟩ : MethodName)) hown (mvT hZ (ww hw 103 rfl)) (mvT hZ (ww hw 104 rfl)) (mvT hZ (ww hw 43 rfl)) (mvT hZ (ww hw 105 rfl)) (by decide) (own_back (W := 0) (uc16_3_1 l Z a0 hw [] t1 k1 x0 x1 x2 x3 x4 x5 i_COMPACT_STRINGS v_SIOOBE_FORMATTER h0 n0 O0 V_t1 WW) hZ (ww hw 105 rfl) (ww hw 43 rfl) (by decide) (by decide)) (g := (mkF m 2 #[rv t1, iv 1] [(.ref t1), (.int 1)])) rfl (by rw [hml]; rfl) (argsL := [(.int (1 : Int32)), (.ref t1)]) (rest := []) (lenOf pd__I_B_V rfl) rfl (by show 2 * 0 + _ ≤ _; exact Nat.le_of_eq rfl) (hb hby d22_2) (fun _ _ => ⟨rfl, e0, (by decide : 0 + 0 ≤ _), (by decide : 0 + 0 ≤ _)⟩)
  dsimp only [Pt.U, Pt.locs, Pt.cells, Pt.slots] at X1 lq1 yq1 zz1 st1 hQ1
  subst lq1 yq1 zz1
  obtain ⟨rfl, Nq1, kq1⟩ := hQ1
  have N1 := Fr.app N0 Nq1
  refine Go.st (f' := (mkF m 5 #[rv t1, iv 1] [])) (fun _ k => st1 _ k) ?_
  refine Go.st (f' := (mkF m 6 #[rv t1, iv 1] [(.ref t1)])) (fun _ k => XS.aloadN X1.here hx rfl (hb hby d22_5) rfl rfl k) ?_
  refine Go.st (f' := (mkF m 7 #[rv t1, iv 1] [(.int 1), (.ref t1)])) (fun _ k => XS.iloadN X1.here hx rfl (hb hby d22_6) rfl k) ?_
  obtain ⟨_, _, ⟨T2, L2, kk2, nn2⟩, -, X2, ⟨Lc2, hQ2, lq2, yq2, zz2⟩, st2⟩ := Jvm.LawKit.callS X1 hx (y := (⟨"java/lang/StringUTF16", "getChar", "([BI)C"⟩ : MethodName)) hown (mvT hZ (ww hw 97 rfl)) (mvT hZ (ww hw 98 rfl)) (mvT hZ (ww hw 43 rfl)) (mvT hZ (ww hw 99 rfl)) (by decide) (own_back (W := 0) (ug_3_1 l Z a0 hw [] t1 k1 x0 x1 x2 x3 x4 x5 i_COMPACT_STRINGS v_SIOOBE_FORMATTER h0 n0 O0 V_t1 WW) hZ (ww hw 99 rfl) (ww hw 43 rfl) (by decide) (by decide)) (g := (mkF m 7 #[rv t1, iv 1] [(.int 1), (.ref t1)])) rfl (by rw [hml]; rfl) (argsL := [(.ref t1), (.int (1 : Int32))]) (rest := []) (lenOf pd___BI_C rfl) rfl (by show 2 * 0 + _ ≤ _; exact Nat.le_of_eq rfl) (hb hby d22_7) (fun _ _ => ⟨rfl, kq1, (by decide : 0 + 0 ≤ _), (by decide : 0 + 0 ≤ _)⟩)
  dsimp only [Pt.U, Pt.locs, Pt.cells, Pt.slots] at X2 lq2 yq2 zz2 st2 hQ2
  subst lq2 yq2 zz2
  obtain ⟨rfl, Nq2, kq2⟩ := hQ2
  have N2 := Fr.app N1 Nq2
  refine Go.st (f' := (mkF m 10 #[rv t1, iv 1] [(.int (nar .char (((((x2 &&& (255 : Int32)) <<< ((0 : Int32) &&& 31)) ||| ((x3 &&& (255 : Int32)) <<< ((8 : Int32) &&& 31))).toUInt32.toUInt16.toUInt32.toInt32))))])) (fun _ k => st2 _ k) ?_
  refine Go.retB X2 hlk hx (t := .char) hret (by simp) (hb hby d22_10) kq2 ?_ (by decide) (by decide)
  show (some (.int (nar .char (nar .char (((((x2 &&& (255 : Int32)) <<< ((0 : Int32) &&& 31)) ||| ((x3 &&& (255 : Int32)) <<< ((8 : Int32) &&& 31))).toUInt32.toUInt16.toUInt32.toInt32))))) : Option Value) = some (.int (uvI_3_1 x0 x1 x2 x3 x4 x5)) ∧ _
  exact ⟨by rw [uvI_3_1], N2, rfl⟩
set_option maxRecDepth 65536 in
set_option maxHeartbeats 40000000 in
theorem uc16_3_2 (l : Launch) (Z : State) (a0 : Array Value) (hw : ∀ d ∈ tables_1, d.before a0 Z = true) (ws : List Jvm.Cond) (t1 : Addr) (k1 : ClassId) (x0 : Int32) (x1 : Int32) (x2 : Int32) (x3 : Int32) (x4 : Int32) (x5 : Int32) (i_COMPACT_STRINGS : Int32) (v_SIOOBE_FORMATTER : Value) (h0 : Heap) (n0 : Nat) (O0 : Old Z n0 h0) (V_t1 : Arv Z h0 t1 k1 .byte (6 : Int32) [(.int x0), (.int x1), (.int x2), (.int x3), (.int x4), (.int x5)] (.int 0)) (WW : World1 Z i_COMPACT_STRINGS v_SIOOBE_FORMATTER) :
    Con l Z (⟨"java/lang/StringUTF16", "checkIndex", "(I[B)V"⟩ : MethodName) jdk_52_method_91_code 2 none ws ({ frames := 2, cells := 0, slots := 0, locals := 27 } : Room) #[(.int 2), (.ref t1)] h0 (fun v h L => v = none ∧ Fr n0 L ∧ h = h0) := by
  refine own_body (plainFor_of_name pn_java_lang_StringUTF16) ?_
  intro p e s m below meth c s₁ hx hby hml hZ hown hnm hlk hret X0 e0
  have N0 := Fr.nil n0
  refine Go.st (T' := s₁) (f' := (mkF m 0 #[iv 2, rv t1] [])) (fun _ k => castTop (by first | (simp [entryFrame, mkF, argsToLocals, Value.category]; done) | rfl) k) ?_
  have ⟨S_i_COMPACT_STRINGS, nz_i_COMPACT_STRINGS, S_v_SIOOBE_FORMATTER, r_v_SIOOBE_FORMATTER, S_i__assertionsDisabled, S_i_HI_BYTE_SHIFT, S_i_LO_BYTE_SHIFT⟩ := WW
  have lt_t1 := V_t1.lt
  refine Go.st (f' := (mkF m 1 #[iv 2, rv t1] [(.int 2)])) (fun _ k => XS.iloadN X0.here hx rfl (hb hby d23_0) rfl k) ?_
  refine Go.st (f' := (mkF m 2 #[iv 2, rv t1] [(.ref t1), (.int 2)])) (fun _ k => XS.aloadN X0.here hx rfl (hb hby d23_1) rfl rfl k) ?_
  obtain ⟨_, _, ⟨T1, L1, kk1, nn1⟩, -, X1, ⟨Lc1, hQ1, lq1, yq1, zz1⟩, st1⟩ := Jvm.LawKit.callS X0 hx (y := (⟨"java/lang/StringUTF16", "length", "([B)I"⟩ : MethodName)) hown (mvT hZ (ww hw 106 rfl)) (mvT hZ (ww hw 107 rfl)) (mvT hZ (ww hw 43 rfl)) (mvT hZ (ww hw 108 rfl)) (by decide) (own_back (W := 1) (ul16_3 l Z a0 hw [] t1 k1 x0 x1 x2 x3 x4 x5 i_COMPACT_STRINGS v_SIOOBE_FORMATTER h0 n0 O0 V_t1 WW) hZ (ww hw 108 rfl) (ww hw 43 rfl) (by decide) (by decide)) (g := (mkF m 2 #[iv 2, rv t1] [(.ref t1), (.int 2)])) rfl (by rw [hml]; rfl) (argsL := [(.ref t1)]) (rest := [(.int (2 : Int32))]) (lenOf pd___B_I rfl) rfl (by show 2 * 0 + _ ≤ _; exact Nat.le_of_eq rfl) (hb hby d23_2) (fun _ _ => ⟨rfl, e0, (by decide : 0 + 0 ≤ _), (by decide : 0 + 0 ≤ _)⟩)
  dsimp only [Pt.U, Pt.locs, Pt.cells, Pt.slots] at X1 lq1 yq1 zz1 st1 hQ1
  subst lq1 yq1 zz1
  obtain ⟨rfl, Nq1, kq1⟩ := hQ1
  have N1 := Fr.app N0 Nq1
  refine Go.st (f' := (mkF m 5 #[iv 2, rv t1] [(.int 3), (.int 2)])) (fun _ k => st1 _ k) ?_
  obtain ⟨_, _, ⟨T2, L2, kk2, nn2⟩, -, X2, ⟨Lc2, hQ2, lq2, yq2, zz2⟩, st2⟩ := Jvm.LawKit.callS X1 hx (y := (⟨"java/lang/String", "checkIndex", "(II)V"⟩ : MethodName)) hown (mvT hZ (ww hw 109 rfl)) (mvT hZ (ww hw 70 rfl)) (mvT hZ (ww hw 3 rfl)) (mvT hZ (ww hw 71 rfl)) (by decide) (own_back (W := 0) (ck_s l Z a0 hw [] (2 : Int32) (3 : Int32) i_COMPACT_STRINGS v_SIOOBE_FORMATTER h0 n0 O0 (by decide) (by decide) WW) hZ (ww hw 71 rfl) (ww hw 3 rfl) (by decide) (by decide)) (g := (mkF m 5 #[iv 2, rv t1] [(.int 3), (.int 2)])) rfl (by rw [hml]; rfl) (argsL := [(.int (2 : Int32)), (.int (3 : Int32))]) (rest := []) (lenOf pd__II_V rfl) rfl (by show 2 * 0 + _ ≤ _; exact Nat.le_of_eq rfl) (hb hby d23_5) (fun _ _ => ⟨rfl, kq1, (by decide : 0 + 0 ≤ _), (by decide : 0 + 0 ≤ _)⟩)
  dsimp only [Pt.U, Pt.locs, Pt.cells, Pt.slots] at X2 lq2 yq2 zz2 st2 hQ2
  subst lq2 yq2 zz2
  obtain ⟨rfl, Nq2, kq2⟩ := hQ2
  have N2 := Fr.app N1 Nq2
  refine Go.st (f' := (mkF m 8 #[iv 2, rv t1] [])) (fun _ k => st2 _ k) ?_
  refine Go.ret0 X2 hlk hx hret (hb hby d23_8) kq2 ?_ (by decide) (by decide)
  exact ⟨rfl, N2, rfl⟩
def uvI_3_2 (x0 : Int32) (x1 : Int32) (x2 : Int32) (x3 : Int32) (x4 : Int32) (x5 : Int32) : Int32 := (nar .char (nar .char (((((x4 &&& (255 : Int32)) <<< ((0 : Int32) &&& 31)) ||| ((x5 &&& (255 : Int32)) <<< ((8 : Int32) &&& 31))).toUInt32.toUInt16.toUInt32.toInt32))))
set_option maxRecDepth 65536 in
set_option maxHeartbeats 40000000 in
theorem uv16_3_2 (l : Launch) (Z : State) (a0 : Array Value) (hw : ∀ d ∈ tables_1, d.before a0 Z = true) (ws : List Jvm.Cond) (t1 : Addr) (k1 : ClassId) (x0 : Int32) (x1 : Int32) (x2 : Int32) (x3 : Int32) (x4 : Int32) (x5 : Int32) (i_COMPACT_STRINGS : Int32) (v_SIOOBE_FORMATTER : Value) (h0 : Heap) (n0 : Nat) (O0 : Old Z n0 h0) (V_t1 : Arv Z h0 t1 k1 .byte (6 : Int32) [(.int x0), (.int x1), (.int x2), (.int x3), (.int x4), (.int x5)] (.int 0)) (WW : World1 Z i_COMPACT_STRINGS v_SIOOBE_FORMATTER) :
    Con l Z (⟨"java/lang/StringUTF16", "charAt", "([BI)C"⟩ : MethodName) jdk_52_method_83_code 2 (some .char) ws ({ frames := 3, cells := 0, slots := 0, locals := 40 } : Room) #[(.ref t1), (.int 2)] h0 (fun v h L => v = some (.int (uvI_3_2 x0 x1 x2 x3 x4 x5)) ∧ Fr n0 L ∧ h = h0) := by
  refine own_body (plainFor_of_name pn_java_lang_StringUTF16) ?_
  intro p e s m below meth c s₁ hx hby hml hZ hown hnm hlk hret X0 e0
  have N0 := Fr.nil n0
  refine Go.st (T' := s₁) (f' := (mkF m 0 #[rv t1, iv 2] [])) (fun _ k => castTop (by first | (simp [entryFrame, mkF, argsToLocals, Value.category]; done) | rfl) k) ?_
  have ⟨S_i_COMPACT_STRINGS, nz_i_COMPACT_STRINGS, S_v_SIOOBE_FORMATTER, r_v_SIOOBE_FORMATTER, S_i__assertionsDisabled, S_i_HI_BYTE_SHIFT, S_i_LO_BYTE_SHIFT⟩ := WW
  have lt_t1 := V_t1.lt
  refine Go.st (f' := (mkF m 1 #[rv t1, iv 2] [(.int 2)])) (fun _ k => XS.iloadN X0.here hx rfl (hb hby d22_0) rfl k) ?_
  refine Go.st (f' := (mkF m 2 #[rv t1, iv 2] [(.ref t1), (.int 2)])) (fun _ k => XS.aloadN X0.here hx rfl (hb hby d22_1) rfl rfl k) ?_
  obtain ⟨_, _, ⟨T1, L1, kk1, nn1⟩, -, X1, ⟨Lc1, hQ1, lq1, yq1, zz1⟩, st1⟩ := Jvm.LawKit.callS X0 hx (y := (⟨"java/lang/StringUTF16", "checkIndex", "(I[B)V"⟩ : MethodName)) hown (mvT hZ (ww hw 103 rfl)) (mvT hZ (ww hw 104 rfl)) (mvT hZ (ww hw 43 rfl)) (mvT hZ (ww hw 105 rfl)) (by decide) (own_back (W := 0) (uc16_3_2 l Z a0 hw [] t1 k1 x0 x1 x2 x3 x4 x5 i_COMPACT_STRINGS v_SIOOBE_FORMATTER h0 n0 O0 V_t1 WW) hZ (ww hw 105 rfl) (ww hw 43 rfl) (by decide) (by decide)) (g := (mkF m 2 #[rv t1, iv 2] [(.ref t1), (.int 2)])) rfl (by rw [hml]; rfl) (argsL := [(.int (2 : Int32)), (.ref t1)]) (rest := []) (lenOf pd__I_B_V rfl) rfl (by show 2 * 0 + _ ≤ _; exact Nat.le_of_eq rfl) (hb hby d22_2) (fun _ _ => ⟨rfl, e0, (by decide : 0 + 0 ≤ _), (by decide : 0 + 0 ≤ _)⟩)
  dsimp only [Pt.U, Pt.locs, Pt.cells, Pt.slots] at X1 lq1 yq1 zz1 st1 hQ1
  subst lq1 yq1 zz1
  obtain ⟨rfl, Nq1, kq1⟩ := hQ1
  have N1 := Fr.app N0 Nq1
  refine Go.st (f' := (mkF m 5 #[rv t1, iv 2] [])) (fun _ k => st1 _ k) ?_
  refine Go.st (f' := (mkF m 6 #[rv t1, iv 2] [(.ref t1)])) (fun _ k => XS.aloadN X1.here hx rfl (hb hby d22_5) rfl rfl k) ?_
  refine Go.st (f' := (mkF m 7 #[rv t1, iv 2] [(.int 2), (.ref t1)])) (fun _ k => XS.iloadN X1.here hx rfl (hb hby d22_6) rfl k) ?_
  obtain ⟨_, _, ⟨T2, L2, kk2, nn2⟩, -, X2, ⟨Lc2, hQ2, lq2, yq2, zz2⟩, st2⟩ := Jvm.LawKit.callS X1 hx (y := (⟨"java/lang/StringUTF16", "getChar", "([BI)C"⟩ : MethodName)) hown (mvT hZ (ww hw 97 rfl)) (mvT hZ (ww hw 98 rfl)) (mvT hZ (ww hw 43 rfl)) (mvT hZ (ww hw 99 rfl)) (by decide) (own_back (W := 0) (ug_3_2 l Z a0 hw [] t1 k1 x0 x1 x2 x3 x4 x5 i_COMPACT_STRINGS v_SIOOBE_FORMATTER h0 n0 O0 V_t1 WW) hZ (ww hw 99 rfl) (ww hw 43 rfl) (by decide) (by decide)) (g := (mkF m 7 #[rv t1, iv 2] [(.int 2), (.ref t1)])) rfl (by rw [hml]; rfl) (argsL := [(.ref t1), (.int (2 : Int32))]) (rest := []) (lenOf pd___BI_C rfl) rfl (by show 2 * 0 + _ ≤ _; exact Nat.le_of_eq rfl) (hb hby d22_7) (fun _ _ => ⟨rfl, kq1, (by decide : 0 + 0 ≤ _), (by decide : 0 + 0 ≤ _)⟩)
  dsimp only [Pt.U, Pt.locs, Pt.cells, Pt.slots] at X2 lq2 yq2 zz2 st2 hQ2
  subst lq2 yq2 zz2
  obtain ⟨rfl, Nq2, kq2⟩ := hQ2
  have N2 := Fr.app N1 Nq2
  refine Go.st (f' := (mkF m 10 #[rv t1, iv 2] [(.int (nar .char (((((x4 &&& (255 : Int32)) <<< ((0 : Int32) &&& 31)) ||| ((x5 &&& (255 : Int32)) <<< ((8 : Int32) &&& 31))).toUInt32.toUInt16.toUInt32.toInt32))))])) (fun _ k => st2 _ k) ?_
  refine Go.retB X2 hlk hx (t := .char) hret (by simp) (hb hby d22_10) kq2 ?_ (by decide) (by decide)
  show (some (.int (nar .char (nar .char (((((x4 &&& (255 : Int32)) <<< ((0 : Int32) &&& 31)) ||| ((x5 &&& (255 : Int32)) <<< ((8 : Int32) &&& 31))).toUInt32.toUInt16.toUInt32.toInt32))))) : Option Value) = some (.int (uvI_3_2 x0 x1 x2 x3 x4 x5)) ∧ _
  exact ⟨by rw [uvI_3_2], N2, rfl⟩
theorem d11_0 : decode jdk_42_method_56_code 0 = .ok (.aload_n 0, 1) := by decide +kernel
theorem d11_1 : decode jdk_42_method_56_code 1 = .ok (.invokevirtual 492, 3) := by decide +kernel
theorem pd___Z : parseMethodDescriptor "()Z" = some ⟨[], some .boolean⟩ := by decide +kernel
theorem d11_4 : decode jdk_42_method_56_code 4 = .ok (.ifCond .eq 12, 3) := by decide +kernel
theorem d11_7 : decode jdk_42_method_56_code 7 = .ok (.aload_n 0, 1) := by decide +kernel
theorem d11_8 : decode jdk_42_method_56_code 8 = .ok (.getfield 9, 3) := by decide +kernel
theorem d11_11 : decode jdk_42_method_56_code 11 = .ok (.iload_n 1, 1) := by decide +kernel
theorem d11_12 : decode jdk_42_method_56_code 12 = .ok (.invokestatic 495, 3) := by decide +kernel
theorem d11_15 : decode jdk_42_method_56_code 15 = .ok (.ireturn, 1) := by decide +kernel
def caL (x : Int32) : Int32 := (nar .char (clI x))
set_option maxRecDepth 65536 in
set_option maxHeartbeats 40000000 in
theorem ca0 (l : Launch) (Z : State) (a0 : Array Value) (hw : ∀ d ∈ tables_1, d.before a0 Z = true) (ws : List Jvm.Cond) (a1 : Addr) (t1 : Addr) (k1 : ClassId) (n : Int32) (es : List Value) (i : Int32) (x : Int32) (i_COMPACT_STRINGS : Int32) (v_SIOOBE_FORMATTER : Value) (h0 : Heap) (n0 : Nat) (O0 : Old Z n0 h0) (hlo : ¬ i < (0 : Int32)) (hhi : i < n) (hg : es.getD i.toNatClampNeg (.int 0) = .int x) (E_a1 : Exa Z h0 a1 "java/lang/String") (F_a1_coder : Fld Z h0 a1 "java/lang/String" "coder" "B" (.int 0)) (F_a1_value : Fld Z h0 a1 "java/lang/String" "value" "[B" (.ref t1)) (V_t1 : Arv Z h0 t1 k1 .byte n es (.int 0)) (WW : World1 Z i_COMPACT_STRINGS v_SIOOBE_FORMATTER) :
    Con l Z (⟨"java/lang/String", "charAt", "(I)C"⟩ : MethodName) jdk_42_method_56_code 2 (some .char) ws ({ frames := 4, cells := 0, slots := 0, locals := 53 } : Room) #[(.ref a1), (.int i)] h0 (fun v h L => v = some (.int (caL x)) ∧ Fr n0 L ∧ h = h0) := by
  refine own_body (plainFor_of_name pn_java_lang_String) ?_
  intro p e s m below meth c s₁ hx hby hml hZ hown hnm hlk hret X0 e0
  have N0 := Fr.nil n0
  refine Go.st (T' := s₁) (f' := (mkF m 0 #[rv a1, iv i] [])) (fun _ k => castTop (by first | (simp [entryFrame, mkF, argsToLocals, Value.category]; done) | rfl) k) ?_
  have ⟨S_i_COMPACT_STRINGS, nz_i_COMPACT_STRINGS, S_v_SIOOBE_FORMATTER, r_v_SIOOBE_FORMATTER, S_i__assertionsDisabled, S_i_HI_BYTE_SHIFT, S_i_LO_BYTE_SHIFT⟩ := WW
  have lt_t1 := V_t1.lt
  have lt_a1 := E_a1.lt
  refine Go.st (f' := (mkF m 1 #[rv a1, iv i] [(.ref a1)])) (fun _ k => XS.aloadN X0.here hx rfl (hb hby d11_0) rfl rfl k) ?_
  obtain ⟨cq1, kq1, q1a, q1b, q1c⟩ := isOf hZ e0 E_a1
  obtain ⟨_, _, ⟨T1, L1, kk1, nn1⟩, -, X1, ⟨Lc1, hQ1, lq1, yq1, zz1⟩, st1⟩ := X0.virtualBack hx (y := (⟨"java/lang/String", "isLatin1", "()Z"⟩ : MethodName)) (z := (⟨"java/lang/String", "isLatin1", "()Z"⟩ : MethodName)) hown (mvT hZ (ww hw 60 rfl)) (mvT hZ (ww hw 61 rfl)) (notFace_of_selects (args := #[]) (mvT hZ (ww hw 63 rfl))) (mvT hZ (ww hw 63 rfl)) (mvT hZ (ww hw 62 rfl)) (by decide) (own_back (W := 0) (lat0 l Z a0 hw [] a1 i_COMPACT_STRINGS v_SIOOBE_FORMATTER h0 n0 O0 E_a1 F_a1_coder WW) hZ (ww hw 64 rfl) (ww hw 3 rfl) (by decide) (by decide)) q1a q1c (g := (mkF m 1 #[rv a1, iv i] [(.ref a1)])) rfl (by rw [hml]; rfl) (Steps.refl _) (argsL := []) (rest := []) (lenOf pd___Z rfl) rfl (by show 2 * 0 + _ ≤ _; exact Nat.le_of_eq rfl) (hb hby d11_1) (fun _ _ => ⟨rfl, e0, (by decide : 0 + 0 ≤ _), (by decide : 0 + 0 ≤ _)⟩)
  dsimp only [Pt.U, Pt.locs, Pt.cells, Pt.slots] at X1 lq1 yq1 zz1 st1 hQ1
  subst lq1 yq1 zz1
  obtain ⟨rfl, Nq1, kq1⟩ := hQ1
  have N1 := Fr.app N0 Nq1
  refine Go.tr (f' := (mkF m 4 #[rv a1, iv i] [(.int 1)])) st1 ?_
  refine Go.st (f' := (mkF m 7 #[rv a1, iv i] [])) (fun _ k => XS.ifNo X1.here hx rfl (hb hby d11_4) rfl (by decide) k) ?_
  refine Go.st (f' := (mkF m 8 #[rv a1, iv i] [(.ref a1)])) (fun _ k => XS.aloadN X1.here hx rfl (hb hby d11_7) rfl rfl k) ?_
  obtain ⟨T2, X2, e2, st2⟩ := getF X1 hx hZ hown (host := "") (Or.inl (ww hw 24 rfl)) Via.refl kq1 F_a1_value (g := (mkF m 8 #[rv a1, iv i] [(.ref a1)])) rfl rfl (hb hby d11_8)
  refine Go.st (f' := (mkF m 11 #[rv a1, iv i] [(.ref t1)])) (fun _ k => st2 _ k) ?_
  refine Go.st (f' := (mkF m 12 #[rv a1, iv i] [(.int i), (.ref t1)])) (fun _ k => XS.iloadN X2.here hx rfl (hb hby d11_11) rfl k) ?_
  obtain ⟨_, _, ⟨T3, L3, kk3, nn3⟩, -, X3, ⟨Lc3, hQ3, lq3, yq3, zz3⟩, st3⟩ := Jvm.LawKit.callS X2 hx (y := (⟨"java/lang/StringLatin1", "charAt", "([BI)C"⟩ : MethodName)) hown (mvT hZ (ww hw 65 rfl)) (mvT hZ (ww hw 66 rfl)) (mvT hZ (ww hw 67 rfl)) (mvT hZ (ww hw 68 rfl)) (by decide) (own_back (W := 0) (cl1 l Z a0 hw [] t1 k1 n es i x i_COMPACT_STRINGS v_SIOOBE_FORMATTER h0 n0 O0 hlo hhi hg V_t1 WW) hZ (ww hw 68 rfl) (ww hw 67 rfl) (by decide) (by decide)) (g := (mkF m 12 #[rv a1, iv i] [(.int i), (.ref t1)])) rfl (by rw [hml]; rfl) (argsL := [(.ref t1), (.int i)]) (rest := []) (lenOf pd___BI_C rfl) rfl (by show 2 * 0 + _ ≤ _; exact Nat.le_of_eq rfl) (hb hby d11_12) (fun _ _ => ⟨rfl, e2, (by decide : 0 + 0 ≤ _), (by decide : 0 + 0 ≤ _)⟩)
  dsimp only [Pt.U, Pt.locs, Pt.cells, Pt.slots] at X3 lq3 yq3 zz3 st3 hQ3
  subst lq3 yq3 zz3
  obtain ⟨rfl, Nq3, kq3⟩ := hQ3
  have N3 := Fr.app N1 Nq3
  refine Go.st (f' := (mkF m 15 #[rv a1, iv i] [(.int (clI x))])) (fun _ k => st3 _ k) ?_
  refine Go.retB X3 hlk hx (t := .char) hret (by simp) (hb hby d11_15) kq3 ?_ (by decide) (by decide)
  show (some (.int (nar .char (clI x))) : Option Value) = some (.int (caL x)) ∧ _
  exact ⟨by rw [caL], N3, rfl⟩
theorem d11_16 : decode jdk_42_method_56_code 16 = .ok (.aload_n 0, 1) := by decide +kernel
theorem d11_17 : decode jdk_42_method_56_code 17 = .ok (.getfield 9, 3) := by decide +kernel
theorem d11_20 : decode jdk_42_method_56_code 20 = .ok (.iload_n 1, 1) := by decide +kernel
theorem d11_21 : decode jdk_42_method_56_code 21 = .ok (.invokestatic 498, 3) := by decide +kernel
theorem d11_24 : decode jdk_42_method_56_code 24 = .ok (.ireturn, 1) := by decide +kernel
def caU_1_0 (x0 : Int32) (x1 : Int32) : Int32 := (nar .char (uvI_1_0 x0 x1))
set_option maxRecDepth 65536 in
set_option maxHeartbeats 40000000 in
theorem ca1_1_0 (l : Launch) (Z : State) (a0 : Array Value) (hw : ∀ d ∈ tables_1, d.before a0 Z = true) (ws : List Jvm.Cond) (a1 : Addr) (t1 : Addr) (k1 : ClassId) (x0 : Int32) (x1 : Int32) (i_COMPACT_STRINGS : Int32) (v_SIOOBE_FORMATTER : Value) (h0 : Heap) (n0 : Nat) (O0 : Old Z n0 h0) (E_a1 : Exa Z h0 a1 "java/lang/String") (F_a1_coder : Fld Z h0 a1 "java/lang/String" "coder" "B" (.int 1)) (F_a1_value : Fld Z h0 a1 "java/lang/String" "value" "[B" (.ref t1)) (V_t1 : Arv Z h0 t1 k1 .byte (2 : Int32) [(.int x0), (.int x1)] (.int 0)) (WW : World1 Z i_COMPACT_STRINGS v_SIOOBE_FORMATTER) :
    Con l Z (⟨"java/lang/String", "charAt", "(I)C"⟩ : MethodName) jdk_42_method_56_code 2 (some .char) ws ({ frames := 4, cells := 0, slots := 0, locals := 53 } : Room) #[(.ref a1), (.int 0)] h0 (fun v h L => v = some (.int (caU_1_0 x0 x1)) ∧ Fr n0 L ∧ h = h0) := by
  refine own_body (plainFor_of_name pn_java_lang_String) ?_
  intro p e s m below meth c s₁ hx hby hml hZ hown hnm hlk hret X0 e0
  have N0 := Fr.nil n0
  refine Go.st (T' := s₁) (f' := (mkF m 0 #[rv a1, iv 0] [])) (fun _ k => castTop (by first | (simp [entryFrame, mkF, argsToLocals, Value.category]; done) | rfl) k) ?_
  have ⟨S_i_COMPACT_STRINGS, nz_i_COMPACT_STRINGS, S_v_SIOOBE_FORMATTER, r_v_SIOOBE_FORMATTER, S_i__assertionsDisabled, S_i_HI_BYTE_SHIFT, S_i_LO_BYTE_SHIFT⟩ := WW
  have lt_t1 := V_t1.lt
  have lt_a1 := E_a1.lt
  refine Go.st (f' := (mkF m 1 #[rv a1, iv 0] [(.ref a1)])) (fun _ k => XS.aloadN X0.here hx rfl (hb hby d11_0) rfl rfl k) ?_
  obtain ⟨cq1, kq1, q1a, q1b, q1c⟩ := isOf hZ e0 E_a1
  obtain ⟨_, _, ⟨T1, L1, kk1, nn1⟩, -, X1, ⟨Lc1, hQ1, lq1, yq1, zz1⟩, st1⟩ := X0.virtualBack hx (y := (⟨"java/lang/String", "isLatin1", "()Z"⟩ : MethodName)) (z := (⟨"java/lang/String", "isLatin1", "()Z"⟩ : MethodName)) hown (mvT hZ (ww hw 60 rfl)) (mvT hZ (ww hw 61 rfl)) (notFace_of_selects (args := #[]) (mvT hZ (ww hw 63 rfl))) (mvT hZ (ww hw 63 rfl)) (mvT hZ (ww hw 62 rfl)) (by decide) (own_back (W := 0) (lat1 l Z a0 hw [] a1 i_COMPACT_STRINGS v_SIOOBE_FORMATTER h0 n0 O0 E_a1 F_a1_coder WW) hZ (ww hw 64 rfl) (ww hw 3 rfl) (by decide) (by decide)) q1a q1c (g := (mkF m 1 #[rv a1, iv 0] [(.ref a1)])) rfl (by rw [hml]; rfl) (Steps.refl _) (argsL := []) (rest := []) (lenOf pd___Z rfl) rfl (by show 2 * 0 + _ ≤ _; exact Nat.le_of_eq rfl) (hb hby d11_1) (fun _ _ => ⟨rfl, e0, (by decide : 0 + 0 ≤ _), (by decide : 0 + 0 ≤ _)⟩)
  dsimp only [Pt.U, Pt.locs, Pt.cells, Pt.slots] at X1 lq1 yq1 zz1 st1 hQ1
  subst lq1 yq1 zz1
  obtain ⟨rfl, Nq1, kq1⟩ := hQ1
  have N1 := Fr.app N0 Nq1
  refine Go.tr (f' := (mkF m 4 #[rv a1, iv 0] [(.int 0)])) st1 ?_
  refine Go.st (f' := (mkF m 16 #[rv a1, iv 0] [])) (fun _ k => XS.ifYes X1.here hx rfl (pc0 := 4) (pc' := 16) rfl (hb hby d11_4) rfl (by decide) (by decide) (by decide) k) ?_
  refine Go.st (f' := (mkF m 17 #[rv a1, iv 0] [(.ref a1)])) (fun _ k => XS.aloadN X1.here hx rfl (hb hby d11_16) rfl rfl k) ?_
  obtain ⟨T2, X2, e2, st2⟩ := getF X1 hx hZ hown (host := "") (Or.inl (ww hw 24 rfl)) Via.refl kq1 F_a1_value (g := (mkF m 17 #[rv a1, iv 0] [(.ref a1)])) rfl rfl (hb hby d11_17)
  refine Go.st (f' := (mkF m 20 #[rv a1, iv 0] [(.ref t1)])) (fun _ k => st2 _ k) ?_
  refine Go.st (f' := (mkF m 21 #[rv a1, iv 0] [(.int 0), (.ref t1)])) (fun _ k => XS.iloadN X2.here hx rfl (hb hby d11_20) rfl k) ?_
  obtain ⟨_, _, ⟨T3, L3, kk3, nn3⟩, -, X3, ⟨Lc3, hQ3, lq3, yq3, zz3⟩, st3⟩ := Jvm.LawKit.callS X2 hx (y := (⟨"java/lang/StringUTF16", "charAt", "([BI)C"⟩ : MethodName)) hown (mvT hZ (ww hw 100 rfl)) (mvT hZ (ww hw 101 rfl)) (mvT hZ (ww hw 43 rfl)) (mvT hZ (ww hw 102 rfl)) (by decide) (own_back (W := 0) (uv16_1_0 l Z a0 hw [] t1 k1 x0 x1 i_COMPACT_STRINGS v_SIOOBE_FORMATTER h0 n0 O0 V_t1 WW) hZ (ww hw 102 rfl) (ww hw 43 rfl) (by decide) (by decide)) (g := (mkF m 21 #[rv a1, iv 0] [(.int 0), (.ref t1)])) rfl (by rw [hml]; rfl) (argsL := [(.ref t1), (.int (0 : Int32))]) (rest := []) (lenOf pd___BI_C rfl) rfl (by show 2 * 0 + _ ≤ _; exact Nat.le_of_eq rfl) (hb hby d11_21) (fun _ _ => ⟨rfl, e2, (by decide : 0 + 0 ≤ _), (by decide : 0 + 0 ≤ _)⟩)
  dsimp only [Pt.U, Pt.locs, Pt.cells, Pt.slots] at X3 lq3 yq3 zz3 st3 hQ3
  subst lq3 yq3 zz3
  obtain ⟨rfl, Nq3, kq3⟩ := hQ3
  have N3 := Fr.app N1 Nq3
  refine Go.st (f' := (mkF m 24 #[rv a1, iv 0] [(.int (uvI_1_0 x0 x1))])) (fun _ k => st3 _ k) ?_
  refine Go.retB X3 hlk hx (t := .char) hret (by simp) (hb hby d11_24) kq3 ?_ (by decide) (by decide)
  show (some (.int (nar .char (uvI_1_0 x0 x1))) : Option Value) = some (.int (caU_1_0 x0 x1)) ∧ _
  exact ⟨by rw [caU_1_0], N3, rfl⟩
def caU_2_0 (x0 : Int32) (x1 : Int32) (x2 : Int32) (x3 : Int32) : Int32 := (nar .char (uvI_2_0 x0 x1 x2 x3))
set_option maxRecDepth 65536 in
set_option maxHeartbeats 40000000 in
theorem ca1_2_0 (l : Launch) (Z : State) (a0 : Array Value) (hw : ∀ d ∈ tables_1, d.before a0 Z = true) (ws : List Jvm.Cond) (a1 : Addr) (t1 : Addr) (k1 : ClassId) (x0 : Int32) (x1 : Int32) (x2 : Int32) (x3 : Int32) (i_COMPACT_STRINGS : Int32) (v_SIOOBE_FORMATTER : Value) (h0 : Heap) (n0 : Nat) (O0 : Old Z n0 h0) (E_a1 : Exa Z h0 a1 "java/lang/String") (F_a1_coder : Fld Z h0 a1 "java/lang/String" "coder" "B" (.int 1)) (F_a1_value : Fld Z h0 a1 "java/lang/String" "value" "[B" (.ref t1)) (V_t1 : Arv Z h0 t1 k1 .byte (4 : Int32) [(.int x0), (.int x1), (.int x2), (.int x3)] (.int 0)) (WW : World1 Z i_COMPACT_STRINGS v_SIOOBE_FORMATTER) :
    Con l Z (⟨"java/lang/String", "charAt", "(I)C"⟩ : MethodName) jdk_42_method_56_code 2 (some .char) ws ({ frames := 4, cells := 0, slots := 0, locals := 53 } : Room) #[(.ref a1), (.int 0)] h0 (fun v h L => v = some (.int (caU_2_0 x0 x1 x2 x3)) ∧ Fr n0 L ∧ h = h0) := by
  refine own_body (plainFor_of_name pn_java_lang_String) ?_
  intro p e s m below meth c s₁ hx hby hml hZ hown hnm hlk hret X0 e0
  have N0 := Fr.nil n0
  refine Go.st (T' := s₁) (f' := (mkF m 0 #[rv a1, iv 0] [])) (fun _ k => castTop (by first | (simp [entryFrame, mkF, argsToLocals, Value.category]; done) | rfl) k) ?_
  have ⟨S_i_COMPACT_STRINGS, nz_i_COMPACT_STRINGS, S_v_SIOOBE_FORMATTER, r_v_SIOOBE_FORMATTER, S_i__assertionsDisabled, S_i_HI_BYTE_SHIFT, S_i_LO_BYTE_SHIFT⟩ := WW
  have lt_t1 := V_t1.lt
  have lt_a1 := E_a1.lt
  refine Go.st (f' := (mkF m 1 #[rv a1, iv 0] [(.ref a1)])) (fun _ k => XS.aloadN X0.here hx rfl (hb hby d11_0) rfl rfl k) ?_
  obtain ⟨cq1, kq1, q1a, q1b, q1c⟩ := isOf hZ e0 E_a1
  obtain ⟨_, _, ⟨T1, L1, kk1, nn1⟩, -, X1, ⟨Lc1, hQ1, lq1, yq1, zz1⟩, st1⟩ := X0.virtualBack hx (y := (⟨"java/lang/String", "isLatin1", "()Z"⟩ : MethodName)) (z := (⟨"java/lang/String", "isLatin1", "()Z"⟩ : MethodName)) hown (mvT hZ (ww hw 60 rfl)) (mvT hZ (ww hw 61 rfl)) (notFace_of_selects (args := #[]) (mvT hZ (ww hw 63 rfl))) (mvT hZ (ww hw 63 rfl)) (mvT hZ (ww hw 62 rfl)) (by decide) (own_back (W := 0) (lat1 l Z a0 hw [] a1 i_COMPACT_STRINGS v_SIOOBE_FORMATTER h0 n0 O0 E_a1 F_a1_coder WW) hZ (ww hw 64 rfl) (ww hw 3 rfl) (by decide) (by decide)) q1a q1c (g := (mkF m 1 #[rv a1, iv 0] [(.ref a1)])) rfl (by rw [hml]; rfl) (Steps.refl _) (argsL := []) (rest := []) (lenOf pd___Z rfl) rfl (by show 2 * 0 + _ ≤ _; exact Nat.le_of_eq rfl) (hb hby d11_1) (fun _ _ => ⟨rfl, e0, (by decide : 0 + 0 ≤ _), (by decide : 0 + 0 ≤ _)⟩)
  dsimp only [Pt.U, Pt.locs, Pt.cells, Pt.slots] at X1 lq1 yq1 zz1 st1 hQ1
  subst lq1 yq1 zz1
  obtain ⟨rfl, Nq1, kq1⟩ := hQ1
  have N1 := Fr.app N0 Nq1
  refine Go.tr (f' := (mkF m 4 #[rv a1, iv 0] [(.int 0)])) st1 ?_
  refine Go.st (f' := (mkF m 16 #[rv a1, iv 0] [])) (fun _ k => XS.ifYes X1.here hx rfl (pc0 := 4) (pc' := 16) rfl (hb hby d11_4) rfl (by decide) (by decide) (by decide) k) ?_
  refine Go.st (f' := (mkF m 17 #[rv a1, iv 0] [(.ref a1)])) (fun _ k => XS.aloadN X1.here hx rfl (hb hby d11_16) rfl rfl k) ?_
  obtain ⟨T2, X2, e2, st2⟩ := getF X1 hx hZ hown (host := "") (Or.inl (ww hw 24 rfl)) Via.refl kq1 F_a1_value (g := (mkF m 17 #[rv a1, iv 0] [(.ref a1)])) rfl rfl (hb hby d11_17)
  refine Go.st (f' := (mkF m 20 #[rv a1, iv 0] [(.ref t1)])) (fun _ k => st2 _ k) ?_
  refine Go.st (f' := (mkF m 21 #[rv a1, iv 0] [(.int 0), (.ref t1)])) (fun _ k => XS.iloadN X2.here hx rfl (hb hby d11_20) rfl k) ?_
  obtain ⟨_, _, ⟨T3, L3, kk3, nn3⟩, -, X3, ⟨Lc3, hQ3, lq3, yq3, zz3⟩, st3⟩ := Jvm.LawKit.callS X2 hx (y := (⟨"java/lang/StringUTF16", "charAt", "([BI)C"⟩ : MethodName)) hown (mvT hZ (ww hw 100 rfl)) (mvT hZ (ww hw 101 rfl)) (mvT hZ (ww hw 43 rfl)) (mvT hZ (ww hw 102 rfl)) (by decide) (own_back (W := 0) (uv16_2_0 l Z a0 hw [] t1 k1 x0 x1 x2 x3 i_COMPACT_STRINGS v_SIOOBE_FORMATTER h0 n0 O0 V_t1 WW) hZ (ww hw 102 rfl) (ww hw 43 rfl) (by decide) (by decide)) (g := (mkF m 21 #[rv a1, iv 0] [(.int 0), (.ref t1)])) rfl (by rw [hml]; rfl) (argsL := [(.ref t1), (.int (0 : Int32))]) (rest := []) (lenOf pd___BI_C rfl) rfl (by show 2 * 0 + _ ≤ _; exact Nat.le_of_eq rfl) (hb hby d11_21) (fun _ _ => ⟨rfl, e2, (by decide : 0 + 0 ≤ _), (by decide : 0 + 0 ≤ _)⟩)
  dsimp only [Pt.U, Pt.locs, Pt.cells, Pt.slots] at X3 lq3 yq3 zz3 st3 hQ3
  subst lq3 yq3 zz3
  obtain ⟨rfl, Nq3, kq3⟩ := hQ3
  have N3 := Fr.app N1 Nq3
  refine Go.st (f' := (mkF m 24 #[rv a1, iv 0] [(.int (uvI_2_0 x0 x1 x2 x3))])) (fun _ k => st3 _ k) ?_
  refine Go.retB X3 hlk hx (t := .char) hret (by simp) (hb hby d11_24) kq3 ?_ (by decide) (by decide)
  show (some (.int (nar .char (uvI_2_0 x0 x1 x2 x3))) : Option Value) = some (.int (caU_2_0 x0 x1 x2 x3)) ∧ _
  exact ⟨by rw [caU_2_0], N3, rfl⟩
def caU_2_1 (x0 : Int32) (x1 : Int32) (x2 : Int32) (x3 : Int32) : Int32 := (nar .char (uvI_2_1 x0 x1 x2 x3))
set_option maxRecDepth 65536 in
set_option maxHeartbeats 40000000 in
theorem ca1_2_1 (l : Launch) (Z : State) (a0 : Array Value) (hw : ∀ d ∈ tables_1, d.before a0 Z = true) (ws : List Jvm.Cond) (a1 : Addr) (t1 : Addr) (k1 : ClassId) (x0 : Int32) (x1 : Int32) (x2 : Int32) (x3 : Int32) (i_COMPACT_STRINGS : Int32) (v_SIOOBE_FORMATTER : Value) (h0 : Heap) (n0 : Nat) (O0 : Old Z n0 h0) (E_a1 : Exa Z h0 a1 "java/lang/String") (F_a1_coder : Fld Z h0 a1 "java/lang/String" "coder" "B" (.int 1)) (F_a1_value : Fld Z h0 a1 "java/lang/String" "value" "[B" (.ref t1)) (V_t1 : Arv Z h0 t1 k1 .byte (4 : Int32) [(.int x0), (.int x1), (.int x2), (.int x3)] (.int 0)) (WW : World1 Z i_COMPACT_STRINGS v_SIOOBE_FORMATTER) :
    Con l Z (⟨"java/lang/String", "charAt", "(I)C"⟩ : MethodName) jdk_42_method_56_code 2 (some .char) ws ({ frames := 4, cells := 0, slots := 0, locals := 53 } : Room) #[(.ref a1), (.int 1)] h0 (fun v h L => v = some (.int (caU_2_1 x0 x1 x2 x3)) ∧ Fr n0 L ∧ h = h0) := by
  refine own_body (plainFor_of_name pn_java_lang_String) ?_
  intro p e s m below meth c s₁ hx hby hml hZ hown hnm hlk hret X0 e0
  have N0 := Fr.nil n0
  refine Go.st (T' := s₁) (f' := (mkF m 0 #[rv a1, iv 1] [])) (fun _ k => castTop (by first | (simp [entryFrame, mkF, argsToLocals, Value.category]; done) | rfl) k) ?_
  have ⟨S_i_COMPACT_STRINGS, nz_i_COMPACT_STRINGS, S_v_SIOOBE_FORMATTER, r_v_SIOOBE_FORMATTER, S_i__assertionsDisabled, S_i_HI_BYTE_SHIFT, S_i_LO_BYTE_SHIFT⟩ := WW
  have lt_t1 := V_t1.lt
  have lt_a1 := E_a1.lt
  refine Go.st (f' := (mkF m 1 #[rv a1, iv 1] [(.ref a1)])) (fun _ k => XS.aloadN X0.here hx rfl (hb hby d11_0) rfl rfl k) ?_
  obtain ⟨cq1, kq1, q1a, q1b, q1c⟩ := isOf hZ e0 E_a1
  obtain ⟨_, _, ⟨T1, L1, kk1, nn1⟩, -, X1, ⟨Lc1, hQ1, lq1, yq1, zz1⟩, st1⟩ := X0.virtualBack hx (y := (⟨"java/lang/String", "isLatin1", "()Z"⟩ : MethodName)) (z := (⟨"java/lang/String", "isLatin1", "()Z"⟩ : MethodName)) hown (mvT hZ (ww hw 60 rfl)) (mvT hZ (ww hw 61 rfl)) (notFace_of_selects (args := #[]) (mvT hZ (ww hw 63 rfl))) (mvT hZ (ww hw 63 rfl)) (mvT hZ (ww hw 62 rfl)) (by decide) (own_back (W := 0) (lat1 l Z a0 hw [] a1 i_COMPACT_STRINGS v_SIOOBE_FORMATTER h0 n0 O0 E_a1 F_a1_coder WW) hZ (ww hw 64 rfl) (ww hw 3 rfl) (by decide) (by decide)) q1a q1c (g := (mkF m 1 #[rv a1, iv 1] [(.ref a1)])) rfl (by rw [hml]; rfl) (Steps.refl _) (argsL := []) (rest := []) (lenOf pd___Z rfl) rfl (by show 2 * 0 + _ ≤ _; exact Nat.le_of_eq rfl) (hb hby d11_1) (fun _ _ => ⟨rfl, e0, (by decide : 0 + 0 ≤ _), (by decide : 0 + 0 ≤ _)⟩)
  dsimp only [Pt.U, Pt.locs, Pt.cells, Pt.slots] at X1 lq1 yq1 zz1 st1 hQ1
  subst lq1 yq1 zz1
  obtain ⟨rfl, Nq1, kq1⟩ := hQ1
  have N1 := Fr.app N0 Nq1
  refine Go.tr (f' := (mkF m 4 #[rv a1, iv 1] [(.int 0)])) st1 ?_
  refine Go.st (f' := (mkF m 16 #[rv a1, iv 1] [])) (fun _ k => XS.ifYes X1.here hx rfl (pc0 := 4) (pc' := 16) rfl (hb hby d11_4) rfl (by decide) (by decide) (by decide) k) ?_
  refine Go.st (f' := (mkF m 17 #[rv a1, iv 1] [(.ref a1)])) (fun _ k => XS.aloadN X1.here hx rfl (hb hby d11_16) rfl rfl k) ?_
  obtain ⟨T2, X2, e2, st2⟩ := getF X1 hx hZ hown (host := "") (Or.inl (ww hw 24 rfl)) Via.refl kq1 F_a1_value (g := (mkF m 17 #[rv a1, iv 1] [(.ref a1)])) rfl rfl (hb hby d11_17)
  refine Go.st (f' := (mkF m 20 #[rv a1, iv 1] [(.ref t1)])) (fun _ k => st2 _ k) ?_
  refine Go.st (f' := (mkF m 21 #[rv a1, iv 1] [(.int 1), (.ref t1)])) (fun _ k => XS.iloadN X2.here hx rfl (hb hby d11_20) rfl k) ?_
  obtain ⟨_, _, ⟨T3, L3, kk3, nn3⟩, -, X3, ⟨Lc3, hQ3, lq3, yq3, zz3⟩, st3⟩ := Jvm.LawKit.callS X2 hx (y := (⟨"java/lang/StringUTF16", "charAt", "([BI)C"⟩ : MethodName)) hown (mvT hZ (ww hw 100 rfl)) (mvT hZ (ww hw 101 rfl)) (mvT hZ (ww hw 43 rfl)) (mvT hZ (ww hw 102 rfl)) (by decide) (own_back (W := 0) (uv16_2_1 l Z a0 hw [] t1 k1 x0 x1 x2 x3 i_COMPACT_STRINGS v_SIOOBE_FORMATTER h0 n0 O0 V_t1 WW) hZ (ww hw 102 rfl) (ww hw 43 rfl) (by decide) (by decide)) (g := (mkF m 21 #[rv a1, iv 1] [(.int 1), (.ref t1)])) rfl (by rw [hml]; rfl) (argsL := [(.ref t1), (.int (1 : Int32))]) (rest := []) (lenOf pd___BI_C rfl) rfl (by show 2 * 0 + _ ≤ _; exact Nat.le_of_eq rfl) (hb hby d11_21) (fun _ _ => ⟨rfl, e2, (by decide : 0 + 0 ≤ _), (by decide : 0 + 0 ≤ _)⟩)
  dsimp only [Pt.U, Pt.locs, Pt.cells, Pt.slots] at X3 lq3 yq3 zz3 st3 hQ3
  subst lq3 yq3 zz3
  obtain ⟨rfl, Nq3, kq3⟩ := hQ3
  have N3 := Fr.app N1 Nq3
  refine Go.st (f' := (mkF m 24 #[rv a1, iv 1] [(.int (uvI_2_1 x0 x1 x2 x3))])) (fun _ k => st3 _ k) ?_
  refine Go.retB X3 hlk hx (t := .char) hret (by simp) (hb hby d11_24) kq3 ?_ (by decide) (by decide)
  show (some (.int (nar .char (uvI_2_1 x0 x1 x2 x3))) : Option Value) = some (.int (caU_2_1 x0 x1 x2 x3)) ∧ _
  exact ⟨by rw [caU_2_1], N3, rfl⟩
def caU_3_0 (x0 : Int32) (x1 : Int32) (x2 : Int32) (x3 : Int32) (x4 : Int32) (x5 : Int32) : Int32 := (nar .char (uvI_3_0 x0 x1 x2 x3 x4 x5))
set_option maxRecDepth 65536 in
set_option maxHeartbeats 40000000 in
theorem ca1_3_0 (l : Launch) (Z : State) (a0 : Array Value) (hw : ∀ d ∈ tables_1, d.before a0 Z = true) (ws : List Jvm.Cond) (a1 : Addr) (t1 : Addr) (k1 : ClassId) (x0 : Int32) (x1 : Int32) (x2 : Int32) (x3 : Int32) (x4 : Int32) (x5 : Int32) (i_COMPACT_STRINGS : Int32) (v_SIOOBE_FORMATTER : Value) (h0 : Heap) (n0 : Nat) (O0 : Old Z n0 h0) (E_a1 : Exa Z h0 a1 "java/lang/String") (F_a1_coder : Fld Z h0 a1 "java/lang/String" "coder" "B" (.int 1)) (F_a1_value : Fld Z h0 a1 "java/lang/String" "value" "[B" (.ref t1)) (V_t1 : Arv Z h0 t1 k1 .byte (6 : Int32) [(.int x0), (.int x1), (.int x2), (.int x3), (.int x4), (.int x5)] (.int 0)) (WW : World1 Z i_COMPACT_STRINGS v_SIOOBE_FORMATTER) :
    Con l Z (⟨"java/lang/String", "charAt", "(I)C"⟩ : MethodName) jdk_42_method_56_code 2 (some .char) ws ({ frames := 4, cells := 0, slots := 0, locals := 53 } : Room) #[(.ref a1), (.int 0)] h0 (fun v h L => v = some (.int (caU_3_0 x0 x1 x2 x3 x4 x5)) ∧ Fr n0 L ∧ h = h0) := by
  refine own_body (plainFor_of_name pn_java_lang_String) ?_
  intro p e s m below meth c s₁ hx hby hml hZ hown hnm hlk hret X0 e0
  have N0 := Fr.nil n0
  refine Go.st (T' := s₁) (f' := (mkF m 0 #[rv a1, iv 0] [])) (fun _ k => castTop (by first | (simp [entryFrame, mkF, argsToLocals, Value.category]; done) | rfl) k) ?_
  have ⟨S_i_COMPACT_STRINGS, nz_i_COMPACT_STRINGS, S_v_SIOOBE_FORMATTER, r_v_SIOOBE_FORMATTER, S_i__assertionsDisabled, S_i_HI_BYTE_SHIFT, S_i_LO_BYTE_SHIFT⟩ := WW
  have lt_t1 := V_t1.lt
  have lt_a1 := E_a1.lt
  refine Go.st (f' := (mkF m 1 #[rv a1, iv 0] [(.ref a1)])) (fun _ k => XS.aloadN X0.here hx rfl (hb hby d11_0) rfl rfl k) ?_
  obtain ⟨cq1, kq1, q1a, q1b, q1c⟩ := isOf hZ e0 E_a1
  obtain ⟨_, _, ⟨T1, L1, kk1, nn1⟩, -, X1, ⟨Lc1, hQ1, lq1, yq1, zz1⟩, st1⟩ := X0.virtualBack hx (y := (⟨"java/lang/String", "isLatin1", "()Z"⟩ : MethodName)) (z := (⟨"java/lang/String", "isLatin1", "()Z"⟩ : MethodName)) hown (mvT hZ (ww hw 60 rfl)) (mvT hZ (ww hw 61 rfl)) (notFace_of_selects (args := #[]) (mvT hZ (ww hw 63 rfl))) (mvT hZ (ww hw 63 rfl)) (mvT hZ (ww hw 62 rfl)) (by decide) (own_back (W := 0) (lat1 l Z a0 hw [] a1 i_COMPACT_STRINGS v_SIOOBE_FORMATTER h0 n0 O0 E_a1 F_a1_coder WW) hZ (ww hw 64 rfl) (ww hw 3 rfl) (by decide) (by decide)) q1a q1c (g := (mkF m 1 #[rv a1, iv 0] [(.ref a1)])) rfl (by rw [hml]; rfl) (Steps.refl _) (argsL := []) (rest := []) (lenOf pd___Z rfl) rfl (by show 2 * 0 + _ ≤ _; exact Nat.le_of_eq rfl) (hb hby d11_1) (fun _ _ => ⟨rfl, e0, (by decide : 0 + 0 ≤ _), (by decide : 0 + 0 ≤ _)⟩)
  dsimp only [Pt.U, Pt.locs, Pt.cells, Pt.slots] at X1 lq1 yq1 zz1 st1 hQ1
  subst lq1 yq1 zz1
  obtain ⟨rfl, Nq1, kq1⟩ := hQ1
  have N1 := Fr.app N0 Nq1
  refine Go.tr (f' := (mkF m 4 #[rv a1, iv 0] [(.int 0)])) st1 ?_
  refine Go.st (f' := (mkF m 16 #[rv a1, iv 0] [])) (fun _ k => XS.ifYes X1.here hx rfl (pc0 := 4) (pc' := 16) rfl (hb hby d11_4) rfl (by decide) (by decide) (by decide) k) ?_
  refine Go.st (f' := (mkF m 17 #[rv a1, iv 0] [(.ref a1)])) (fun _ k => XS.aloadN X1.here hx rfl (hb hby d11_16) rfl rfl k) ?_
  obtain ⟨T2, X2, e2, st2⟩ := getF X1 hx hZ hown (host := "") (Or.inl (ww hw 24 rfl)) Via.refl kq1 F_a1_value (g := (mkF m 17 #[rv a1, iv 0] [(.ref a1)])) rfl rfl (hb hby d11_17)
  refine Go.st (f' := (mkF m 20 #[rv a1, iv 0] [(.ref t1)])) (fun _ k => st2 _ k) ?_
  refine Go.st (f' := (mkF m 21 #[rv a1, iv 0] [(.int 0), (.ref t1)])) (fun _ k => XS.iloadN X2.here hx rfl (hb hby d11_20) rfl k) ?_
  obtain ⟨_, _, ⟨T3, L3, kk3, nn3⟩, -, X3, ⟨Lc3, hQ3, lq3, yq3, zz3⟩, st3⟩ := Jvm.LawKit.callS X2 hx (y := (⟨"java/lang/StringUTF16", "charAt", "([BI)C"⟩ : MethodName)) hown (mvT hZ (ww hw 100 rfl)) (mvT hZ (ww hw 101 rfl)) (mvT hZ (ww hw 43 rfl)) (mvT hZ (ww hw 102 rfl)) (by decide) (own_back (W := 0) (uv16_3_0 l Z a0 hw [] t1 k1 x0 x1 x2 x3 x4 x5 i_COMPACT_STRINGS v_SIOOBE_FORMATTER h0 n0 O0 V_t1 WW) hZ (ww hw 102 rfl) (ww hw 43 rfl) (by decide) (by decide)) (g := (mkF m 21 #[rv a1, iv 0] [(.int 0), (.ref t1)])) rfl (by rw [hml]; rfl) (argsL := [(.ref t1), (.int (0 : Int32))]) (rest := []) (lenOf pd___BI_C rfl) rfl (by show 2 * 0 + _ ≤ _; exact Nat.le_of_eq rfl) (hb hby d11_21) (fun _ _ => ⟨rfl, e2, (by decide : 0 + 0 ≤ _), (by decide : 0 + 0 ≤ _)⟩)
  dsimp only [Pt.U, Pt.locs, Pt.cells, Pt.slots] at X3 lq3 yq3 zz3 st3 hQ3
  subst lq3 yq3 zz3
  obtain ⟨rfl, Nq3, kq3⟩ := hQ3
  have N3 := Fr.app N1 Nq3
  refine Go.st (f' := (mkF m 24 #[rv a1, iv 0] [(.int (uvI_3_0 x0 x1 x2 x3 x4 x5))])) (fun _ k => st3 _ k) ?_
  refine Go.retB X3 hlk hx (t := .char) hret (by simp) (hb hby d11_24) kq3 ?_ (by decide) (by decide)
  show (some (.int (nar .char (uvI_3_0 x0 x1 x2 x3 x4 x5))) : Option Value) = some (.int (caU_3_0 x0 x1 x2 x3 x4 x5)) ∧ _
  exact ⟨by rw [caU_3_0], N3, rfl⟩
def caU_3_1 (x0 : Int32) (x1 : Int32) (x2 : Int32) (x3 : Int32) (x4 : Int32) (x5 : Int32) : Int32 := (nar .char (uvI_3_1 x0 x1 x2 x3 x4 x5))
set_option maxRecDepth 65536 in
set_option maxHeartbeats 40000000 in
theorem ca1_3_1 (l : Launch) (Z : State) (a0 : Array Value) (hw : ∀ d ∈ tables_1, d.before a0 Z = true) (ws : List Jvm.Cond) (a1 : Addr) (t1 : Addr) (k1 : ClassId) (x0 : Int32) (x1 : Int32) (x2 : Int32) (x3 : Int32) (x4 : Int32) (x5 : Int32) (i_COMPACT_STRINGS : Int32) (v_SIOOBE_FORMATTER : Value) (h0 : Heap) (n0 : Nat) (O0 : Old Z n0 h0) (E_a1 : Exa Z h0 a1 "java/lang/String") (F_a1_coder : Fld Z h0 a1 "java/lang/String" "coder" "B" (.int 1)) (F_a1_value : Fld Z h0 a1 "java/lang/String" "value" "[B" (.ref t1)) (V_t1 : Arv Z h0 t1 k1 .byte (6 : Int32) [(.int x0), (.int x1), (.int x2), (.int x3), (.int x4), (.int x5)] (.int 0)) (WW : World1 Z i_COMPACT_STRINGS v_SIOOBE_FORMATTER) :
    Con l Z (⟨"java/lang/String", "charAt", "(I)C"⟩ : MethodName) jdk_42_method_56_code 2 (some .char) ws ({ frames := 4, cells := 0, slots := 0, locals := 53 } : Room) #[(.ref a1), (.int 1)] h0 (fun v h L => v = some (.int (caU_3_1 x0 x1 x2 x3 x4 x5)) ∧ Fr n0 L ∧ h = h0) := by
  refine own_body (plainFor_of_name pn_java_lang_String) ?_
  intro p e s m below meth c s₁ hx hby hml hZ hown hnm hlk hret X0 e0
  have N0 := Fr.nil n0
  refine Go.st (T' := s₁) (f' := (mkF m 0 #[rv a1, iv 1] [])) (fun _ k => castTop (by first | (simp [entryFrame, mkF, argsToLocals, Value.category]; done) | rfl) k) ?_
  have ⟨S_i_COMPACT_STRINGS, nz_i_COMPACT_STRINGS, S_v_SIOOBE_FORMATTER, r_v_SIOOBE_FORMATTER, S_i__assertionsDisabled, S_i_HI_BYTE_SHIFT, S_i_LO_BYTE_SHIFT⟩ := WW
  have lt_t1 := V_t1.lt
  have lt_a1 := E_a1.lt
  refine Go.st (f' := (mkF m 1 #[rv a1, iv 1] [(.ref a1)])) (fun _ k => XS.aloadN X0.here hx rfl (hb hby d11_0) rfl rfl k) ?_
  obtain ⟨cq1, kq1, q1a, q1b, q1c⟩ := isOf hZ e0 E_a1
  obtain ⟨_, _, ⟨T1, L1, kk1, nn1⟩, -, X1, ⟨Lc1, hQ1, lq1, yq1, zz1⟩, st1⟩ := X0.virtualBack hx (y := (⟨"java/lang/String", "isLatin1", "()Z"⟩ : MethodName)) (z := (⟨"java/lang/String", "isLatin1", "()Z"⟩ : MethodName)) hown (mvT hZ (ww hw 60 rfl)) (mvT hZ (ww hw 61 rfl)) (notFace_of_selects (args := #[]) (mvT hZ (ww hw 63 rfl))) (mvT hZ (ww hw 63 rfl)) (mvT hZ (ww hw 62 rfl)) (by decide) (own_back (W := 0) (lat1 l Z a0 hw [] a1 i_COMPACT_STRINGS v_SIOOBE_FORMATTER h0 n0 O0 E_a1 F_a1_coder WW) hZ (ww hw 64 rfl) (ww hw 3 rfl) (by decide) (by decide)) q1a q1c (g := (mkF m 1 #[rv a1, iv 1] [(.ref a1)])) rfl (by rw [hml]; rfl) (Steps.refl _) (argsL := []) (rest := []) (lenOf pd___Z rfl) rfl (by show 2 * 0 + _ ≤ _; exact Nat.le_of_eq rfl) (hb hby d11_1) (fun _ _ => ⟨rfl, e0, (by decide : 0 + 0 ≤ _), (by decide : 0 + 0 ≤ _)⟩)
  dsimp only [Pt.U, Pt.locs, Pt.cells, Pt.slots] at X1 lq1 yq1 zz1 st1 hQ1
  subst lq1 yq1 zz1
  obtain ⟨rfl, Nq1, kq1⟩ := hQ1
  have N1 := Fr.app N0 Nq1
  refine Go.tr (f' := (mkF m 4 #[rv a1, iv 1] [(.int 0)])) st1 ?_
  refine Go.st (f' := (mkF m 16 #[rv a1, iv 1] [])) (fun _ k => XS.ifYes X1.here hx rfl (pc0 := 4) (pc' := 16) rfl (hb hby d11_4) rfl (by decide) (by decide) (by decide) k) ?_
  refine Go.st (f' := (mkF m 17 #[rv a1, iv 1] [(.ref a1)])) (fun _ k => XS.aloadN X1.here hx rfl (hb hby d11_16) rfl rfl k) ?_
  obtain ⟨T2, X2, e2, st2⟩ := getF X1 hx hZ hown (host := "") (Or.inl (ww hw 24 rfl)) Via.refl kq1 F_a1_value (g := (mkF m 17 #[rv a1, iv 1] [(.ref a1)])) rfl rfl (hb hby d11_17)
  refine Go.st (f' := (mkF m 20 #[rv a1, iv 1] [(.ref t1)])) (fun _ k => st2 _ k) ?_
  refine Go.st (f' := (mkF m 21 #[rv a1, iv 1] [(.int 1), (.ref t1)])) (fun _ k => XS.iloadN X2.here hx rfl (hb hby d11_20) rfl k) ?_
  obtain ⟨_, _, ⟨T3, L3, kk3, nn3⟩, -, X3, ⟨Lc3, hQ3, lq3, yq3, zz3⟩, st3⟩ := Jvm.LawKit.callS X2 hx (y := (⟨"java/lang/StringUTF16", "charAt", "([BI)C"⟩ : MethodName)) hown (mvT hZ (ww hw 100 rfl)) (mvT hZ (ww hw 101 rfl)) (mvT hZ (ww hw 43 rfl)) (mvT hZ (ww hw 102 rfl)) (by decide) (own_back (W := 0) (uv16_3_1 l Z a0 hw [] t1 k1 x0 x1 x2 x3 x4 x5 i_COMPACT_STRINGS v_SIOOBE_FORMATTER h0 n0 O0 V_t1 WW) hZ (ww hw 102 rfl) (ww hw 43 rfl) (by decide) (by decide)) (g := (mkF m 21 #[rv a1, iv 1] [(.int 1), (.ref t1)])) rfl (by rw [hml]; rfl) (argsL := [(.ref t1), (.int (1 : Int32))]) (rest := []) (lenOf pd___BI_C rfl) rfl (by show 2 * 0 + _ ≤ _; exact Nat.le_of_eq rfl) (hb hby d11_21) (fun _ _ => ⟨rfl, e2, (by decide : 0 + 0 ≤ _), (by decide : 0 + 0 ≤ _)⟩)
  dsimp only [Pt.U, Pt.locs, Pt.cells, Pt.slots] at X3 lq3 yq3 zz3 st3 hQ3
  subst lq3 yq3 zz3
  obtain ⟨rfl, Nq3, kq3⟩ := hQ3
  have N3 := Fr.app N1 Nq3
  refine Go.st (f' := (mkF m 24 #[rv a1, iv 1] [(.int (uvI_3_1 x0 x1 x2 x3 x4 x5))])) (fun _ k => st3 _ k) ?_
  refine Go.retB X3 hlk hx (t := .char) hret (by simp) (hb hby d11_24) kq3 ?_ (by decide) (by decide)
  show (some (.int (nar .char (uvI_3_1 x0 x1 x2 x3 x4 x5))) : Option Value) = some (.int (caU_3_1 x0 x1 x2 x3 x4 x5)) ∧ _
  exact ⟨by rw [caU_3_1], N3, rfl⟩
def caU_3_2 (x0 : Int32) (x1 : Int32) (x2 : Int32) (x3 : Int32) (x4 : Int32) (x5 : Int32) : Int32 := (nar .char (uvI_3_2 x0 x1 x2 x3 x4 x5))
set_option maxRecDepth 65536 in
set_option maxHeartbeats 40000000 in
theorem ca1_3_2 (l : Launch) (Z : State) (a0 : Array Value) (hw : ∀ d ∈ tables_1, d.before a0 Z = true) (ws : List Jvm.Cond) (a1 : Addr) (t1 : Addr) (k1 : ClassId) (x0 : Int32) (x1 : Int32) (x2 : Int32) (x3 : Int32) (x4 : Int32) (x5 : Int32) (i_COMPACT_STRINGS : Int32) (v_SIOOBE_FORMATTER : Value) (h0 : Heap) (n0 : Nat) (O0 : Old Z n0 h0) (E_a1 : Exa Z h0 a1 "java/lang/String") (F_a1_coder : Fld Z h0 a1 "java/lang/String" "coder" "B" (.int 1)) (F_a1_value : Fld Z h0 a1 "java/lang/String" "value" "[B" (.ref t1)) (V_t1 : Arv Z h0 t1 k1 .byte (6 : Int32) [(.int x0), (.int x1), (.int x2), (.int x3), (.int x4), (.int x5)] (.int 0)) (WW : World1 Z i_COMPACT_STRINGS v_SIOOBE_FORMATTER) :
    Con l Z (⟨"java/lang/String", "charAt", "(I)C"⟩ : MethodName) jdk_42_method_56_code 2 (some .char) ws ({ frames := 4, cells := 0, slots := 0, locals := 53 } : Room) #[(.ref a1), (.int 2)] h0 (fun v h L => v = some (.int (caU_3_2 x0 x1 x2 x3 x4 x5)) ∧ Fr n0 L ∧ h = h0) := by
  refine own_body (plainFor_of_name pn_java_lang_String) ?_
  intro p e s m below meth c s₁ hx hby hml hZ hown hnm hlk hret X0 e0
  have N0 := Fr.nil n0
  refine Go.st (T' := s₁) (f' := (mkF m 0 #[rv a1, iv 2] [])) (fun _ k => castTop (by first | (simp [entryFrame, mkF, argsToLocals, Value.category]; done) | rfl) k) ?_
  have ⟨S_i_COMPACT_STRINGS, nz_i_COMPACT_STRINGS, S_v_SIOOBE_FORMATTER, r_v_SIOOBE_FORMATTER, S_i__assertionsDisabled, S_i_HI_BYTE_SHIFT, S_i_LO_BYTE_SHIFT⟩ := WW
  have lt_t1 := V_t1.lt
  have lt_a1 := E_a1.lt
  refine Go.st (f' := (mkF m 1 #[rv a1, iv 2] [(.ref a1)])) (fun _ k => XS.aloadN X0.here hx rfl (hb hby d11_0) rfl rfl k) ?_
  obtain ⟨cq1, kq1, q1a, q1b, q1c⟩ := isOf hZ e0 E_a1
  obtain ⟨_, _, ⟨T1, L1, kk1, nn1⟩, -, X1, ⟨Lc1, hQ1, lq1, yq1, zz1⟩, st1⟩ := X0.virtualBack hx (y := (⟨"java/lang/String", "isLatin1", "()Z"⟩ : MethodName)) (z := (⟨"java/lang/String", "isLatin1", "()Z"⟩ : MethodName)) hown (mvT hZ (ww hw 60 rfl)) (mvT hZ (ww hw 61 rfl)) (notFace_of_selects (args := #[]) (mvT hZ (ww hw 63 rfl))) (mvT hZ (ww hw 63 rfl)) (mvT hZ (ww hw 62 rfl)) (by decide) (own_back (W := 0) (lat1 l Z a0 hw [] a1 i_COMPACT_STRINGS v_SIOOBE_FORMATTER h0 n0 O0 E_a1 F_a1_coder WW) hZ (ww hw 64 rfl) (ww hw 3 rfl) (by decide) (by decide)) q1a q1c (g := (mkF m 1 #[rv a1, iv 2] [(.ref a1)])) rfl (by rw [hml]; rfl) (Steps.refl _) (argsL := []) (rest := []) (lenOf pd___Z rfl) rfl (by show 2 * 0 + _ ≤ _; exact Nat.le_of_eq rfl) (hb hby d11_1) (fun _ _ => ⟨rfl, e0, (by decide : 0 + 0 ≤ _), (by decide : 0 + 0 ≤ _)⟩)
  dsimp only [Pt.U, Pt.locs, Pt.cells, Pt.slots] at X1 lq1 yq1 zz1 st1 hQ1
  subst lq1 yq1 zz1
  obtain ⟨rfl, Nq1, kq1⟩ := hQ1
  have N1 := Fr.app N0 Nq1
  refine Go.tr (f' := (mkF m 4 #[rv a1, iv 2] [(.int 0)])) st1 ?_
  refine Go.st (f' := (mkF m 16 #[rv a1, iv 2] [])) (fun _ k => XS.ifYes X1.here hx rfl (pc0 := 4) (pc' := 16) rfl (hb hby d11_4) rfl (by decide) (by decide) (by decide) k) ?_
  refine Go.st (f' := (mkF m 17 #[rv a1, iv 2] [(.ref a1)])) (fun _ k => XS.aloadN X1.here hx rfl (hb hby d11_16) rfl rfl k) ?_
  obtain ⟨T2, X2, e2, st2⟩ := getF X1 hx hZ hown (host := "") (Or.inl (ww hw 24 rfl)) Via.refl kq1 F_a1_value (g := (mkF m 17 #[rv a1, iv 2] [(.ref a1)])) rfl rfl (hb hby d11_17)
  refine Go.st (f' := (mkF m 20 #[rv a1, iv 2] [(.ref t1)])) (fun _ k => st2 _ k) ?_
  refine Go.st (f' := (mkF m 21 #[rv a1, iv 2] [(.int 2), (.ref t1)])) (fun _ k => XS.iloadN X2.here hx rfl (hb hby d11_20) rfl k) ?_
  obtain ⟨_, _, ⟨T3, L3, kk3, nn3⟩, -, X3, ⟨Lc3, hQ3, lq3, yq3, zz3⟩, st3⟩ := Jvm.LawKit.callS X2 hx (y := (⟨"java/lang/StringUTF16", "charAt", "([BI)C"⟩ : MethodName)) hown (mvT hZ (ww hw 100 rfl)) (mvT hZ (ww hw 101 rfl)) (mvT hZ (ww hw 43 rfl)) (mvT hZ (ww hw 102 rfl)) (by decide) (own_back (W := 0) (uv16_3_2 l Z a0 hw [] t1 k1 x0 x1 x2 x3 x4 x5 i_COMPACT_STRINGS v_SIOOBE_FORMATTER h0 n0 O0 V_t1 WW) hZ (ww hw 102 rfl) (ww hw 43 rfl) (by decide) (by decide)) (g := (mkF m 21 #[rv a1, iv 2] [(.int 2), (.ref t1)])) rfl (by rw [hml]; rfl) (argsL := [(.ref t1), (.int (2 : Int32))]) (rest := []) (lenOf pd___BI_C rfl) rfl (by show 2 * 0 + _ ≤ _; exact Nat.le_of_eq rfl) (hb hby d11_21) (fun _ _ => ⟨rfl, e2, (by decide : 0 + 0 ≤ _), (by decide : 0 + 0 ≤ _)⟩)
  dsimp only [Pt.U, Pt.locs, Pt.cells, Pt.slots] at X3 lq3 yq3 zz3 st3 hQ3
  subst lq3 yq3 zz3
  obtain ⟨rfl, Nq3, kq3⟩ := hQ3
  have N3 := Fr.app N1 Nq3
  refine Go.st (f' := (mkF m 24 #[rv a1, iv 2] [(.int (uvI_3_2 x0 x1 x2 x3 x4 x5))])) (fun _ k => st3 _ k) ?_
  refine Go.retB X3 hlk hx (t := .char) hret (by simp) (hb hby d11_24) kq3 ?_ (by decide) (by decide)
  show (some (.int (nar .char (uvI_3_2 x0 x1 x2 x3 x4 x5))) : Option Value) = some (.int (caU_3_2 x0 x1 x2 x3 x4 x5)) ∧ _
  exact ⟨by rw [caU_3_2], N3, rfl⟩
theorem own_i2c {c : Int32} (h : 0 ≤ c.toInt ∧ c.toInt < 65536) : c.toUInt32.toUInt16.toUInt32.toInt32 = c := by
  have q := c_i2c c
  rw [← Int32.toInt_inj]; omega
theorem own_nch {c : Int32} (h : 0 ≤ c.toInt ∧ c.toInt < 65536) : nar .char c = c := own_i2c h
theorem own_caL {c : Int32} (h : 0 ≤ c.toInt ∧ c.toInt < 65536) (h1 : ¬ (255 : Int32) < c) : caL (nar .byte (c.toInt8.toInt32)) = c := by
  have e255 : (255 : Int32).toInt = 255 := by decide
  rw [Int32.lt_iff_toInt_lt] at h1
  have f1 := c_i2b c
  have m : (nar .byte (c.toInt8.toInt32) &&& (255 : Int32)) = c := by
    show (c.toInt8.toInt32.toInt8.toInt32 &&& (255 : Int32)) = c
    generalize c.toInt8.toInt32 = u at *
    have f2 := c_i2b u
    generalize u.toInt8.toInt32 = v at *
    have f3 : (v &&& (255 : Int32)).toInt = v.toInt % (2 ^ 8 : Nat) := c_mask v 255 8 (by decide) (by decide)
    rw [← Int32.toInt_inj]; omega
  unfold caL clI
  rw [m, own_i2c h, own_nch h, own_nch h]
theorem own_caU_1_0 {c0 : Int32} (h : 0 ≤ c0.toInt ∧ c0.toInt < 65536) : caU_1_0 (nar .byte ((c0 >>> ((0 : Int32) &&& 31)).toInt8.toInt32)) (nar .byte ((c0 >>> ((8 : Int32) &&& 31)).toInt8.toInt32)) = c0 := by
  unfold caU_1_0 uvI_1_0
  rw [own_gc h, own_nch h, own_nch h]
theorem own_caU_2_0 {c0 c1 : Int32} (h : 0 ≤ c0.toInt ∧ c0.toInt < 65536) : caU_2_0 (nar .byte ((c0 >>> ((0 : Int32) &&& 31)).toInt8.toInt32)) (nar .byte ((c0 >>> ((8 : Int32) &&& 31)).toInt8.toInt32)) (nar .byte ((c1 >>> ((0 : Int32) &&& 31)).toInt8.toInt32)) (nar .byte ((c1 >>> ((8 : Int32) &&& 31)).toInt8.toInt32)) = c0 := by
  unfold caU_2_0 uvI_2_0
  rw [own_gc h, own_nch h, own_nch h]
theorem own_caU_2_1 {c0 c1 : Int32} (h : 0 ≤ c1.toInt ∧ c1.toInt < 65536) : caU_2_1 (nar .byte ((c0 >>> ((0 : Int32) &&& 31)).toInt8.toInt32)) (nar .byte ((c0 >>> ((8 : Int32) &&& 31)).toInt8.toInt32)) (nar .byte ((c1 >>> ((0 : Int32) &&& 31)).toInt8.toInt32)) (nar .byte ((c1 >>> ((8 : Int32) &&& 31)).toInt8.toInt32)) = c1 := by
  unfold caU_2_1 uvI_2_1
  rw [own_gc h, own_nch h, own_nch h]
theorem own_caU_3_0 {c0 c1 c2 : Int32} (h : 0 ≤ c0.toInt ∧ c0.toInt < 65536) : caU_3_0 (nar .byte ((c0 >>> ((0 : Int32) &&& 31)).toInt8.toInt32)) (nar .byte ((c0 >>> ((8 : Int32) &&& 31)).toInt8.toInt32)) (nar .byte ((c1 >>> ((0 : Int32) &&& 31)).toInt8.toInt32)) (nar .byte ((c1 >>> ((8 : Int32) &&& 31)).toInt8.toInt32)) (nar .byte ((c2 >>> ((0 : Int32) &&& 31)).toInt8.toInt32)) (nar .byte ((c2 >>> ((8 : Int32) &&& 31)).toInt8.toInt32)) = c0 := by
  unfold caU_3_0 uvI_3_0
  rw [own_gc h, own_nch h, own_nch h]
theorem own_caU_3_1 {c0 c1 c2 : Int32} (h : 0 ≤ c1.toInt ∧ c1.toInt < 65536) : caU_3_1 (nar .byte ((c0 >>> ((0 : Int32) &&& 31)).toInt8.toInt32)) (nar .byte ((c0 >>> ((8 : Int32) &&& 31)).toInt8.toInt32)) (nar .byte ((c1 >>> ((0 : Int32) &&& 31)).toInt8.toInt32)) (nar .byte ((c1 >>> ((8 : Int32) &&& 31)).toInt8.toInt32)) (nar .byte ((c2 >>> ((0 : Int32) &&& 31)).toInt8.toInt32)) (nar .byte ((c2 >>> ((8 : Int32) &&& 31)).toInt8.toInt32)) = c1 := by
  unfold caU_3_1 uvI_3_1
  rw [own_gc h, own_nch h, own_nch h]
theorem own_caU_3_2 {c0 c1 c2 : Int32} (h : 0 ≤ c2.toInt ∧ c2.toInt < 65536) : caU_3_2 (nar .byte ((c0 >>> ((0 : Int32) &&& 31)).toInt8.toInt32)) (nar .byte ((c0 >>> ((8 : Int32) &&& 31)).toInt8.toInt32)) (nar .byte ((c1 >>> ((0 : Int32) &&& 31)).toInt8.toInt32)) (nar .byte ((c1 >>> ((8 : Int32) &&& 31)).toInt8.toInt32)) (nar .byte ((c2 >>> ((0 : Int32) &&& 31)).toInt8.toInt32)) (nar .byte ((c2 >>> ((8 : Int32) &&& 31)).toInt8.toInt32)) = c2 := by
  unfold caU_3_2 uvI_3_2
  rw [own_gc h, own_nch h, own_nch h]
theorem caS_1_0 (l : Launch) (Z : State) (a0 : Array Value) (hw : ∀ d ∈ tables_1, d.before a0 Z = true) (ws : List Jvm.Cond) (a1 : Addr) (t1 : Addr) (k1 : ClassId) (c0 : Int32) (i_COMPACT_STRINGS : Int32) (v_SIOOBE_FORMATTER : Value) (h0 : Heap) (n0 : Nat) (O0 : Old Z n0 h0) (E_a1 : Exa Z h0 a1 "java/lang/String") (F_a1_value : Fld Z h0 a1 "java/lang/String" "value" "[B" (.ref t1)) (D_a1 : Sx1 Z h0 a1 t1 k1 c0) (hk_c0 : 0 ≤ c0.toInt ∧ c0.toInt < 65536) (WW : World1 Z i_COMPACT_STRINGS v_SIOOBE_FORMATTER) :
    Con l Z (⟨"java/lang/String", "charAt", "(I)C"⟩ : MethodName) jdk_42_method_56_code 2 (some .char) ws ({ frames := 4, cells := 0, slots := 0, locals := 53 } : Room) #[(.ref a1), (.int 0)] h0 (fun v h L => v = some (.int c0) ∧ Fr n0 L ∧ h = h0) := by
  rcases D_a1 with ⟨c, q, v⟩ | ⟨c, v⟩
  · exact Con.weaken (ca0 l Z a0 hw ws a1 t1 k1 _ _ (0 : Int32) _ i_COMPACT_STRINGS v_SIOOBE_FORMATTER h0 n0 O0 (by decide) (by decide) rfl E_a1 c F_a1_value v WW) (fun _ _ _ z => ⟨z.1.trans (congrArg (fun q => some (Value.int q)) (own_caL hk_c0 q)), z.2⟩)
  · exact Con.weaken (ca1_1_0 l Z a0 hw ws a1 t1 k1 _ _ i_COMPACT_STRINGS v_SIOOBE_FORMATTER h0 n0 O0 E_a1 c F_a1_value v WW) (fun _ _ _ z => ⟨z.1.trans (congrArg (fun q => some (Value.int q)) (own_caU_1_0 hk_c0)), z.2⟩)
theorem caS_2_0 (l : Launch) (Z : State) (a0 : Array Value) (hw : ∀ d ∈ tables_1, d.before a0 Z = true) (ws : List Jvm.Cond) (a1 : Addr) (t1 : Addr) (k1 : ClassId) (c0 : Int32) (c1 : Int32) (i_COMPACT_STRINGS : Int32) (v_SIOOBE_FORMATTER : Value) (h0 : Heap) (n0 : Nat) (O0 : Old Z n0 h0) (E_a1 : Exa Z h0 a1 "java/lang/String") (F_a1_value : Fld Z h0 a1 "java/lang/String" "value" "[B" (.ref t1)) (D_a1 : Sx2 Z h0 a1 t1 k1 c0 c1) (hk_c0 : 0 ≤ c0.toInt ∧ c0.toInt < 65536) (hk_c1 : 0 ≤ c1.toInt ∧ c1.toInt < 65536) (WW : World1 Z i_COMPACT_STRINGS v_SIOOBE_FORMATTER) :
    Con l Z (⟨"java/lang/String", "charAt", "(I)C"⟩ : MethodName) jdk_42_method_56_code 2 (some .char) ws ({ frames := 4, cells := 0, slots := 0, locals := 53 } : Room) #[(.ref a1), (.int 0)] h0 (fun v h L => v = some (.int c0) ∧ Fr n0 L ∧ h = h0) := by
  rcases D_a1 with ⟨c, q, v⟩ | ⟨c, v⟩
  · exact Con.weaken (ca0 l Z a0 hw ws a1 t1 k1 _ _ (0 : Int32) _ i_COMPACT_STRINGS v_SIOOBE_FORMATTER h0 n0 O0 (by decide) (by decide) rfl E_a1 c F_a1_value v WW) (fun _ _ _ z => ⟨z.1.trans (congrArg (fun q => some (Value.int q)) (own_caL hk_c0 q.1)), z.2⟩)
  · exact Con.weaken (ca1_2_0 l Z a0 hw ws a1 t1 k1 _ _ _ _ i_COMPACT_STRINGS v_SIOOBE_FORMATTER h0 n0 O0 E_a1 c F_a1_value v WW) (fun _ _ _ z => ⟨z.1.trans (congrArg (fun q => some (Value.int q)) (own_caU_2_0 hk_c0)), z.2⟩)
theorem caS_2_1 (l : Launch) (Z : State) (a0 : Array Value) (hw : ∀ d ∈ tables_1, d.before a0 Z = true) (ws : List Jvm.Cond) (a1 : Addr) (t1 : Addr) (k1 : ClassId) (c0 : Int32) (c1 : Int32) (i_COMPACT_STRINGS : Int32) (v_SIOOBE_FORMATTER : Value) (h0 : Heap) (n0 : Nat) (O0 : Old Z n0 h0) (E_a1 : Exa Z h0 a1 "java/lang/String") (F_a1_value : Fld Z h0 a1 "java/lang/String" "value" "[B" (.ref t1)) (D_a1 : Sx2 Z h0 a1 t1 k1 c0 c1) (hk_c0 : 0 ≤ c0.toInt ∧ c0.toInt < 65536) (hk_c1 : 0 ≤ c1.toInt ∧ c1.toInt < 65536) (WW : World1 Z i_COMPACT_STRINGS v_SIOOBE_FORMATTER) :
    Con l Z (⟨"java/lang/String", "charAt", "(I)C"⟩ : MethodName) jdk_42_method_56_code 2 (some .char) ws ({ frames := 4, cells := 0, slots := 0, locals := 53 } : Room) #[(.ref a1), (.int 1)] h0 (fun v h L => v = some (.int c1) ∧ Fr n0 L ∧ h = h0) := by
  rcases D_a1 with ⟨c, q, v⟩ | ⟨c, v⟩
  · exact Con.weaken (ca0 l Z a0 hw ws a1 t1 k1 _ _ (1 : Int32) _ i_COMPACT_STRINGS v_SIOOBE_FORMATTER h0 n0 O0 (by decide) (by decide) rfl E_a1 c F_a1_value v WW) (fun _ _ _ z => ⟨z.1.trans (congrArg (fun q => some (Value.int q)) (own_caL hk_c1 q.2)), z.2⟩)
  · exact Con.weaken (ca1_2_1 l Z a0 hw ws a1 t1 k1 _ _ _ _ i_COMPACT_STRINGS v_SIOOBE_FORMATTER h0 n0 O0 E_a1 c F_a1_value v WW) (fun _ _ _ z => ⟨z.1.trans (congrArg (fun q => some (Value.int q)) (own_caU_2_1 hk_c1)), z.2⟩)
theorem caS_3_0 (l : Launch) (Z : State) (a0 : Array Value) (hw : ∀ d ∈ tables_1, d.before a0 Z = true) (ws : List Jvm.Cond) (a1 : Addr) (t1 : Addr) (k1 : ClassId) (c0 : Int32) (c1 : Int32) (c2 : Int32) (i_COMPACT_STRINGS : Int32) (v_SIOOBE_FORMATTER : Value) (h0 : Heap) (n0 : Nat) (O0 : Old Z n0 h0) (E_a1 : Exa Z h0 a1 "java/lang/String") (F_a1_value : Fld Z h0 a1 "java/lang/String" "value" "[B" (.ref t1)) (D_a1 : Sx3 Z h0 a1 t1 k1 c0 c1 c2) (hk_c0 : 0 ≤ c0.toInt ∧ c0.toInt < 65536) (hk_c1 : 0 ≤ c1.toInt ∧ c1.toInt < 65536) (hk_c2 : 0 ≤ c2.toInt ∧ c2.toInt < 65536) (WW : World1 Z i_COMPACT_STRINGS v_SIOOBE_FORMATTER) :
    Con l Z (⟨"java/lang/String", "charAt", "(I)C"⟩ : MethodName) jdk_42_method_56_code 2 (some .char) ws ({ frames := 4, cells := 0, slots := 0, locals := 53 } : Room) #[(.ref a1), (.int 0)] h0 (fun v h L => v = some (.int c0) ∧ Fr n0 L ∧ h = h0) := by
  rcases D_a1 with ⟨c, q, v⟩ | ⟨c, v⟩
  · exact Con.weaken (ca0 l Z a0 hw ws a1 t1 k1 _ _ (0 : Int32) _ i_COMPACT_STRINGS v_SIOOBE_FORMATTER h0 n0 O0 (by decide) (by decide) rfl E_a1 c F_a1_value v WW) (fun _ _ _ z => ⟨z.1.trans (congrArg (fun q => some (Value.int q)) (own_caL hk_c0 q.1)), z.2⟩)
  · exact Con.weaken (ca1_3_0 l Z a0 hw ws a1 t1 k1 _ _ _ _ _ _ i_COMPACT_STRINGS v_SIOOBE_FORMATTER h0 n0 O0 E_a1 c F_a1_value v WW) (fun _ _ _ z => ⟨z.1.trans (congrArg (fun q => some (Value.int q)) (own_caU_3_0 hk_c0)), z.2⟩)
theorem caS_3_1 (l : Launch) (Z : State) (a0 : Array Value) (hw : ∀ d ∈ tables_1, d.before a0 Z = true) (ws : List Jvm.Cond) (a1 : Addr) (t1 : Addr) (k1 : ClassId) (c0 : Int32) (c1 : Int32) (c2 : Int32) (i_COMPACT_STRINGS : Int32) (v_SIOOBE_FORMATTER : Value) (h0 : Heap) (n0 : Nat) (O0 : Old Z n0 h0) (E_a1 : Exa Z h0 a1 "java/lang/String") (F_a1_value : Fld Z h0 a1 "java/lang/String" "value" "[B" (.ref t1)) (D_a1 : Sx3 Z h0 a1 t1 k1 c0 c1 c2) (hk_c0 : 0 ≤ c0.toInt ∧ c0.toInt < 65536) (hk_c1 : 0 ≤ c1.toInt ∧ c1.toInt < 65536) (hk_c2 : 0 ≤ c2.toInt ∧ c2.toInt < 65536) (WW : World1 Z i_COMPACT_STRINGS v_SIOOBE_FORMATTER) :
    Con l Z (⟨"java/lang/String", "charAt", "(I)C"⟩ : MethodName) jdk_42_method_56_code 2 (some .char) ws ({ frames := 4, cells := 0, slots := 0, locals := 53 } : Room) #[(.ref a1), (.int 1)] h0 (fun v h L => v = some (.int c1) ∧ Fr n0 L ∧ h = h0) := by
  rcases D_a1 with ⟨c, q, v⟩ | ⟨c, v⟩
  · exact Con.weaken (ca0 l Z a0 hw ws a1 t1 k1 _ _ (1 : Int32) _ i_COMPACT_STRINGS v_SIOOBE_FORMATTER h0 n0 O0 (by decide) (by decide) rfl E_a1 c F_a1_value v WW) (fun _ _ _ z => ⟨z.1.trans (congrArg (fun q => some (Value.int q)) (own_caL hk_c1 q.2.1)), z.2⟩)
  · exact Con.weaken (ca1_3_1 l Z a0 hw ws a1 t1 k1 _ _ _ _ _ _ i_COMPACT_STRINGS v_SIOOBE_FORMATTER h0 n0 O0 E_a1 c F_a1_value v WW) (fun _ _ _ z => ⟨z.1.trans (congrArg (fun q => some (Value.int q)) (own_caU_3_1 hk_c1)), z.2⟩)
theorem caS_3_2 (l : Launch) (Z : State) (a0 : Array Value) (hw : ∀ d ∈ tables_1, d.before a0 Z = true) (ws : List Jvm.Cond) (a1 : Addr) (t1 : Addr) (k1 : ClassId) (c0 : Int32) (c1 : Int32) (c2 : Int32) (i_COMPACT_STRINGS : Int32) (v_SIOOBE_FORMATTER : Value) (h0 : Heap) (n0 : Nat) (O0 : Old Z n0 h0) (E_a1 : Exa Z h0 a1 "java/lang/String") (F_a1_value : Fld Z h0 a1 "java/lang/String" "value" "[B" (.ref t1)) (D_a1 : Sx3 Z h0 a1 t1 k1 c0 c1 c2) (hk_c0 : 0 ≤ c0.toInt ∧ c0.toInt < 65536) (hk_c1 : 0 ≤ c1.toInt ∧ c1.toInt < 65536) (hk_c2 : 0 ≤ c2.toInt ∧ c2.toInt < 65536) (WW : World1 Z i_COMPACT_STRINGS v_SIOOBE_FORMATTER) :
    Con l Z (⟨"java/lang/String", "charAt", "(I)C"⟩ : MethodName) jdk_42_method_56_code 2 (some .char) ws ({ frames := 4, cells := 0, slots := 0, locals := 53 } : Room) #[(.ref a1), (.int 2)] h0 (fun v h L => v = some (.int c2) ∧ Fr n0 L ∧ h = h0) := by
  rcases D_a1 with ⟨c, q, v⟩ | ⟨c, v⟩
  · exact Con.weaken (ca0 l Z a0 hw ws a1 t1 k1 _ _ (2 : Int32) _ i_COMPACT_STRINGS v_SIOOBE_FORMATTER h0 n0 O0 (by decide) (by decide) rfl E_a1 c F_a1_value v WW) (fun _ _ _ z => ⟨z.1.trans (congrArg (fun q => some (Value.int q)) (own_caL hk_c2 q.2.2)), z.2⟩)
  · exact Con.weaken (ca1_3_2 l Z a0 hw ws a1 t1 k1 _ _ _ _ _ _ i_COMPACT_STRINGS v_SIOOBE_FORMATTER h0 n0 O0 E_a1 c F_a1_value v WW) (fun _ _ _ z => ⟨z.1.trans (congrArg (fun q => some (Value.int q)) (own_caU_3_2 hk_c2)), z.2⟩)
theorem pn_com_example_rulebridge_rulebridge_server_Id : plainName "com/example/rulebridge/rulebridge/server/Id" = true := by first | (simp [plainName, overriddenIn]; done) | decide +kernel
theorem d16_0 : decode prog_36_method_3_code 0 = .ok (.iload_n 0, 1) := by decide +kernel
theorem d16_1 : decode prog_36_method_3_code 1 = .ok (.bipush 65, 2) := by decide +kernel
theorem d16_3 : decode prog_36_method_3_code 3 = .ok (.if_icmp .lt 9, 3) := by decide +kernel
theorem d16_12 : decode prog_36_method_3_code 12 = .ok (.iload_n 0, 1) := by decide +kernel
theorem d16_13 : decode prog_36_method_3_code 13 = .ok (.bipush 97, 2) := by decide +kernel
theorem d16_15 : decode prog_36_method_3_code 15 = .ok (.if_icmp .lt 9, 3) := by decide +kernel
theorem d16_24 : decode prog_36_method_3_code 24 = .ok (.iload_n 0, 1) := by decide +kernel
theorem d16_25 : decode prog_36_method_3_code 25 = .ok (.bipush 48, 2) := by decide +kernel
theorem d16_27 : decode prog_36_method_3_code 27 = .ok (.if_icmp .lt 9, 3) := by decide +kernel
theorem d16_36 : decode prog_36_method_3_code 36 = .ok (.iload_n 0, 1) := by decide +kernel
theorem d16_37 : decode prog_36_method_3_code 37 = .ok (.bipush 95, 2) := by decide +kernel
theorem d16_39 : decode prog_36_method_3_code 39 = .ok (.if_icmp .eq 9, 3) := by decide +kernel
theorem d16_48 : decode prog_36_method_3_code 48 = .ok (.iconst 1, 1) := by decide +kernel
theorem d16_49 : decode prog_36_method_3_code 49 = .ok (.goto 4, 3) := by decide +kernel
theorem d16_53 : decode prog_36_method_3_code 53 = .ok (.ireturn, 1) := by decide +kernel
theorem d16_42 : decode prog_36_method_3_code 42 = .ok (.iload_n 0, 1) := by decide +kernel
theorem d16_43 : decode prog_36_method_3_code 43 = .ok (.bipush 45, 2) := by decide +kernel
theorem d16_45 : decode prog_36_method_3_code 45 = .ok (.if_icmp .ne 7, 3) := by decide +kernel
theorem d16_52 : decode prog_36_method_3_code 52 = .ok (.iconst 0, 1) := by decide +kernel
theorem d16_30 : decode prog_36_method_3_code 30 = .ok (.iload_n 0, 1) := by decide +kernel
theorem d16_31 : decode prog_36_method_3_code 31 = .ok (.bipush 57, 2) := by decide +kernel
theorem d16_33 : decode prog_36_method_3_code 33 = .ok (.if_icmp .le 15, 3) := by decide +kernel
theorem d16_18 : decode prog_36_method_3_code 18 = .ok (.iload_n 0, 1) := by decide +kernel
theorem d16_19 : decode prog_36_method_3_code 19 = .ok (.bipush 122, 2) := by decide +kernel
theorem d16_21 : decode prog_36_method_3_code 21 = .ok (.if_icmp .le 27, 3) := by decide +kernel
theorem d16_6 : decode prog_36_method_3_code 6 = .ok (.iload_n 0, 1) := by decide +kernel
theorem d16_7 : decode prog_36_method_3_code 7 = .ok (.bipush 90, 2) := by decide +kernel
theorem d16_9 : decode prog_36_method_3_code 9 = .ok (.if_icmp .le 39, 3) := by decide +kernel
def idI (p1 : Int32) : Int32 := (if p1 < (65 : Int32) then (if p1 < (97 : Int32) then (if p1 < (48 : Int32) then (if p1 = (95 : Int32) then (1 : Int32) else (if p1 = (45 : Int32) then (1 : Int32) else (0 : Int32))) else (if (57 : Int32) < p1 then (if p1 = (95 : Int32) then (1 : Int32) else (if p1 = (45 : Int32) then (1 : Int32) else (0 : Int32))) else (1 : Int32))) else (if (122 : Int32) < p1 then (if p1 < (48 : Int32) then (if p1 = (95 : Int32) then (1 : Int32) else (if p1 = (45 : Int32) then (1 : Int32) else (0 : Int32))) else (if (57 : Int32) < p1 then (if p1 = (95 : Int32) then (1 : Int32) else (if p1 = (45 : Int32) then (1 : Int32) else (0 : Int32))) else (1 : Int32))) else (1 : Int32))) else (if (90 : Int32) < p1 then (if p1 < (97 : Int32) then (if p1 < (48 : Int32) then (if p1 = (95 : Int32) then (1 : Int32) else (if p1 = (45 : Int32) then (1 : Int32) else (0 : Int32))) else (if (57 : Int32) < p1 then (if p1 = (95 : Int32) then (1 : Int32) else (if p1 = (45 : Int32) then (1 : Int32) else (0 : Int32))) else (1 : Int32))) else (if (122 : Int32) < p1 then (if p1 < (48 : Int32) then (if p1 = (95 : Int32) then (1 : Int32) else (if p1 = (45 : Int32) then (1 : Int32) else (0 : Int32))) else (if (57 : Int32) < p1 then (if p1 = (95 : Int32) then (1 : Int32) else (if p1 = (45 : Int32) then (1 : Int32) else (0 : Int32))) else (1 : Int32))) else (1 : Int32))) else (1 : Int32)))
set_option maxRecDepth 65536 in
set_option maxHeartbeats 40000000 in
theorem rmId (l : Launch) (Z : State) (a0 : Array Value) (hw : ∀ d ∈ tables_1, d.before a0 Z = true) (ws : List Jvm.Cond) (p1 : Int32) (h0 : Heap) (n0 : Nat) (O0 : Old Z n0 h0)  :
    Con l Z (⟨"com/example/rulebridge/rulebridge/server/Id", "isIdCharacter", "(C)Z"⟩ : MethodName) prog_36_method_3_code 1 (some .boolean) ws ({ frames := 0, cells := 0, slots := 0, locals := 0 } : Room) #[(.int p1)] h0 (fun v h L => v = some (.int (idI p1)) ∧ Fr n0 L ∧ h = h0) := by
  refine own_body (plainFor_of_name pn_com_example_rulebridge_rulebridge_server_Id) ?_
  intro p e s m below meth c s₁ hx hby hml hZ hown hnm hlk hret X0 e0
  have N0 := Fr.nil n0
  refine Go.st (T' := s₁) (f' := (mkF m 0 #[iv p1] [])) (fun _ k => castTop (by first | (simp [entryFrame, mkF, argsToLocals, Value.category]; done) | rfl) k) ?_
  refine Go.st (f' := (mkF m 1 #[iv p1] [(.int p1)])) (fun _ k => XS.iloadN X0.here hx rfl (hb hby d16_0) rfl k) ?_
  refine Go.st (f' := (mkF m 3 #[iv p1] [(.int 65), (.int p1)])) (fun _ k => XS.bipush X0.here hx rfl (hb hby d16_1) k) ?_
  by_cases cd1 : p1 < (65 : Int32)
  · refine Go.st (f' := (mkF m 12 #[iv p1] [])) (fun _ k => XS.icmpYes X0.here hx rfl (pc0 := 3) (pc' := 12) rfl (hb hby d16_3) rfl (tlt cd1).1 (by decide) (by decide) k) ?_
    refine Go.st (f' := (mkF m 13 #[iv p1] [(.int p1)])) (fun _ k => XS.iloadN X0.here hx rfl (hb hby d16_12) rfl k) ?_
    refine Go.st (f' := (mkF m 15 #[iv p1] [(.int 97), (.int p1)])) (fun _ k => XS.bipush X0.here hx rfl (hb hby d16_13) k) ?_
    by_cases cd2 : p1 < (97 : Int32)
    · refine Go.st (f' := (mkF m 24 #[iv p1] [])) (fun _ k => XS.icmpYes X0.here hx rfl (pc0 := 15) (pc' := 24) rfl (hb hby d16_15) rfl (tlt cd2).1 (by decide) (by decide) k) ?_
      refine Go.st (f' := (mkF m 25 #[iv p1] [(.int p1)])) (fun _ k => XS.iloadN X0.here hx rfl (hb hby d16_24) rfl k) ?_
      refine Go.st (f' := (mkF m 27 #[iv p1] [(.int 48), (.int p1)])) (fun _ k => XS.bipush X0.here hx rfl (hb hby d16_25) k) ?_
      by_cases cd3 : p1 < (48 : Int32)
      · refine Go.st (f' := (mkF m 36 #[iv p1] [])) (fun _ k => XS.icmpYes X0.here hx rfl (pc0 := 27) (pc' := 36) rfl (hb hby d16_27) rfl (tlt cd3).1 (by decide) (by decide) k) ?_
        refine Go.st (f' := (mkF m 37 #[iv p1] [(.int p1)])) (fun _ k => XS.iloadN X0.here hx rfl (hb hby d16_36) rfl k) ?_
        refine Go.st (f' := (mkF m 39 #[iv p1] [(.int 95), (.int p1)])) (fun _ k => XS.bipush X0.here hx rfl (hb hby d16_37) k) ?_
        by_cases cd4 : p1 = (95 : Int32)
        · refine Go.st (f' := (mkF m 48 #[iv p1] [])) (fun _ k => XS.icmpYes X0.here hx rfl (pc0 := 39) (pc' := 48) rfl (hb hby d16_39) rfl (teq cd4).1 (by decide) (by decide) k) ?_
          refine Go.st (f' := (mkF m 49 #[iv p1] [(.int 1)])) (fun _ k => XS.iconst X0.here hx rfl (hb hby d16_48) k) ?_
          refine Go.st (f' := (mkF m 53 #[iv p1] [(.int 1)])) (fun _ k => XS.goto X0.here hx rfl (pc0 := 49) (pc' := 53) rfl (hb hby d16_49) (by decide) (by decide) k) ?_
          refine Go.retB X0 hlk hx (t := .boolean) hret (by simp) (hb hby d16_53) e0 ?_ (by decide) (by decide)
          show (some (.int (1 : Int32)) : Option Value) = some (.int (idI p1)) ∧ _
          exact ⟨by rw [idI, if_pos cd1, if_pos cd2, if_pos cd3, if_pos cd4], N0, rfl⟩
        · refine Go.st (f' := (mkF m 42 #[iv p1] [])) (fun _ k => XS.icmpNo X0.here hx rfl (hb hby d16_39) rfl (feq cd4).1 k) ?_
          refine Go.st (f' := (mkF m 43 #[iv p1] [(.int p1)])) (fun _ k => XS.iloadN X0.here hx rfl (hb hby d16_42) rfl k) ?_
          refine Go.st (f' := (mkF m 45 #[iv p1] [(.int 45), (.int p1)])) (fun _ k => XS.bipush X0.here hx rfl (hb hby d16_43) k) ?_
          by_cases cd5 : p1 = (45 : Int32)
          · refine Go.st (f' := (mkF m 48 #[iv p1] [])) (fun _ k => XS.icmpNo X0.here hx rfl (hb hby d16_45) rfl (teq cd5).2 k) ?_
            refine Go.st (f' := (mkF m 49 #[iv p1] [(.int 1)])) (fun _ k => XS.iconst X0.here hx rfl (hb hby d16_48) k) ?_
            refine Go.st (f' := (mkF m 53 #[iv p1] [(.int 1)])) (fun _ k => XS.goto X0.here hx rfl (pc0 := 49) (pc' := 53) rfl (hb hby d16_49) (by decide) (by decide) k) ?_
            refine Go.retB X0 hlk hx (t := .boolean) hret (by simp) (hb hby d16_53) e0 ?_ (by decide) (by decide)
            show (some (.int (1 : Int32)) : Option Value) = some (.int (idI p1)) ∧ _
            exact ⟨by rw [idI, if_pos cd1, if_pos cd2, if_pos cd3, if_neg cd4, if_pos cd5], N0, rfl⟩
          · refine Go.st (f' := (mkF m 52 #[iv p1] [])) (fun _ k => XS.icmpYes X0.here hx rfl (pc0 := 45) (pc' := 52) rfl (hb hby d16_45) rfl (feq cd5).2 (by decide) (by decide) k) ?_
            refine Go.st (f' := (mkF m 53 #[iv p1] [(.int 0)])) (fun _ k => XS.iconst X0.here hx rfl (hb hby d16_52) k) ?_
            refine Go.retB X0 hlk hx (t := .boolean) hret (by simp) (hb hby d16_53) e0 ?_ (by decide) (by decide)
            show (some (.int (0 : Int32)) : Option Value) = some (.int (idI p1)) ∧ _
            exact ⟨by rw [idI, if_pos cd1, if_pos cd2, if_pos cd3, if_neg cd4, if_neg cd5], N0, rfl⟩
      · refine Go.st (f' := (mkF m 30 #[iv p1] [])) (fun _ k => XS.icmpNo X0.here hx rfl (hb hby d16_27) rfl (flt cd3).1 k) ?_
        refine Go.st (f' := (mkF m 31 #[iv p1] [(.int p1)])) (fun _ k => XS.iloadN X0.here hx rfl (hb hby d16_30) rfl k) ?_
        refine Go.st (f' := (mkF m 33 #[iv p1] [(.int 57), (.int p1)])) (fun _ k => XS.bipush X0.here hx rfl (hb hby d16_31) k) ?_
        by_cases cd6 : (57 : Int32) < p1
        · refine Go.st (f' := (mkF m 36 #[iv p1] [])) (fun _ k => XS.icmpNo X0.here hx rfl (hb hby d16_33) rfl (tlt cd6).2.2.2 k) ?_
          refine Go.st (f' := (mkF m 37 #[iv p1] [(.int p1)])) (fun _ k => XS.iloadN X0.here hx rfl (hb hby d16_36) rfl k) ?_
          refine Go.st (f' := (mkF m 39 #[iv p1] [(.int 95), (.int p1)])) (fun _ k => XS.bipush X0.here hx rfl (hb hby d16_37) k) ?_
          by_cases cd7 : p1 = (95 : Int32)
          · refine Go.st (f' := (mkF m 48 #[iv p1] [])) (fun _ k => XS.icmpYes X0.here hx rfl (pc0 := 39) (pc' := 48) rfl (hb hby d16_39) rfl (teq cd7).1 (by decide) (by decide) k) ?_
            refine Go.st (f' := (mkF m 49 #[iv p1] [(.int 1)])) (fun _ k => XS.iconst X0.here hx rfl (hb hby d16_48) k) ?_
            refine Go.st (f' := (mkF m 53 #[iv p1] [(.int 1)])) (fun _ k => XS.goto X0.here hx rfl (pc0 := 49) (pc' := 53) rfl (hb hby d16_49) (by decide) (by decide) k) ?_
            refine Go.retB X0 hlk hx (t := .boolean) hret (by simp) (hb hby d16_53) e0 ?_ (by decide) (by decide)
            show (some (.int (1 : Int32)) : Option Value) = some (.int (idI p1)) ∧ _
            exact ⟨by rw [idI, if_pos cd1, if_pos cd2, if_neg cd3, if_pos cd6, if_pos cd7], N0, rfl⟩
          · refine Go.st (f' := (mkF m 42 #[iv p1] [])) (fun _ k => XS.icmpNo X0.here hx rfl (hb hby d16_39) rfl (feq cd7).1 k) ?_
            refine Go.st (f' := (mkF m 43 #[iv p1] [(.int p1)])) (fun _ k => XS.iloadN X0.here hx rfl (hb hby d16_42) rfl k) ?_
            refine Go.st (f' := (mkF m 45 #[iv p1] [(.int 45), (.int p1)])) (fun _ k => XS.bipush X0.here hx rfl (hb hby d16_43) k) ?_
            by_cases cd8 : p1 = (45 : Int32)
            · refine Go.st (f' := (mkF m 48 #[iv p1] [])) (fun _ k => XS.icmpNo X0.here hx rfl (hb hby d16_45) rfl (teq cd8).2 k) ?_
              refine Go.st (f' := (mkF m 49 #[iv p1] [(.int 1)])) (fun _ k => XS.iconst X0.here hx rfl (hb hby d16_48) k) ?_
              refine Go.st (f' := (mkF m 53 #[iv p1] [(.int 1)])) (fun _ k => XS.goto X0.here hx rfl (pc0 := 49) (pc' := 53) rfl (hb hby d16_49) (by decide) (by decide) k) ?_
              refine Go.retB X0 hlk hx (t := .boolean) hret (by simp) (hb hby d16_53) e0 ?_ (by decide) (by decide)
              show (some (.int (1 : Int32)) : Option Value) = some (.int (idI p1)) ∧ _
              exact ⟨by rw [idI, if_pos cd1, if_pos cd2, if_neg cd3, if_pos cd6, if_neg cd7, if_pos cd8], N0, rfl⟩
            · refine Go.st (f' := (mkF m 52 #[iv p1] [])) (fun _ k => XS.icmpYes X0.here hx rfl (pc0 := 45) (pc' := 52) rfl (hb hby d16_45) rfl (feq cd8).2 (by decide) (by decide) k) ?_
              refine Go.st (f' := (mkF m 53 #[iv p1] [(.int 0)])) (fun _ k => XS.iconst X0.here hx rfl (hb hby d16_52) k) ?_
              refine Go.retB X0 hlk hx (t := .boolean) hret (by simp) (hb hby d16_53) e0 ?_ (by decide) (by decide)
              show (some (.int (0 : Int32)) : Option Value) = some (.int (idI p1)) ∧ _
              exact ⟨by rw [idI, if_pos cd1, if_pos cd2, if_neg cd3, if_pos cd6, if_neg cd7, if_neg cd8], N0, rfl⟩
        · refine Go.st (f' := (mkF m 48 #[iv p1] [])) (fun _ k => XS.icmpYes X0.here hx rfl (pc0 := 33) (pc' := 48) rfl (hb hby d16_33) rfl (flt cd6).2.2.2 (by decide) (by decide) k) ?_
          refine Go.st (f' := (mkF m 49 #[iv p1] [(.int 1)])) (fun _ k => XS.iconst X0.here hx rfl (hb hby d16_48) k) ?_
          refine Go.st (f' := (mkF m 53 #[iv p1] [(.int 1)])) (fun _ k => XS.goto X0.here hx rfl (pc0 := 49) (pc' := 53) rfl (hb hby d16_49) (by decide) (by decide) k) ?_
          refine Go.retB X0 hlk hx (t := .boolean) hret (by simp) (hb hby d16_53) e0 ?_ (by decide) (by decide)
          show (some (.int (1 : Int32)) : Option Value) = some (.int (idI p1)) ∧ _
          exact ⟨by rw [idI, if_pos cd1, if_pos cd2, if_neg cd3, if_neg cd6], N0, rfl⟩
    · refine Go.st (f' := (mkF m 18 #[iv p1] [])) (fun _ k => XS.icmpNo X0.here hx rfl (hb hby d16_15) rfl (flt cd2).1 k) ?_
      refine Go.st (f' := (mkF m 19 #[iv p1] [(.int p1)])) (fun _ k => XS.iloadN X0.here hx rfl (hb hby d16_18) rfl k) ?_
      refine Go.st (f' := (mkF m 21 #[iv p1] [(.int 122), (.int p1)])) (fun _ k => XS.bipush X0.here hx rfl (hb hby d16_19) k) ?_
      by_cases cd9 : (122 : Int32) < p1
      · refine Go.st (f' := (mkF m 24 #[iv p1] [])) (fun _ k => XS.icmpNo X0.here hx rfl (hb hby d16_21) rfl (tlt cd9).2.2.2 k) ?_
        refine Go.st (f' := (mkF m 25 #[iv p1] [(.int p1)])) (fun _ k => XS.iloadN X0.here hx rfl (hb hby d16_24) rfl k) ?_
        refine Go.st (f' := (mkF m 27 #[iv p1] [(.int 48), (.int p1)])) (fun _ k => XS.bipush X0.here hx rfl (hb hby d16_25) k) ?_
        by_cases cd10 : p1 < (48 : Int32)
        · refine Go.st (f' := (mkF m 36 #[iv p1] [])) (fun _ k => XS.icmpYes X0.here hx rfl (pc0 := 27) (pc' := 36) rfl (hb hby d16_27) rfl (tlt cd10).1 (by decide) (by decide) k) ?_
          refine Go.st (f' := (mkF m 37 #[iv p1] [(.int p1)])) (fun _ k => XS.iloadN X0.here hx rfl (hb hby d16_36) rfl k) ?_
          refine Go.st (f' := (mkF m 39 #[iv p1] [(.int 95), (.int p1)])) (fun _ k => XS.bipush X0.here hx rfl (hb hby d16_37) k) ?_
          by_cases cd11 : p1 = (95 : Int32)
          · refine Go.st (f' := (mkF m 48 #[iv p1] [])) (fun _ k => XS.icmpYes X0.here hx rfl (pc0 := 39) (pc' := 48) rfl (hb hby d16_39) rfl (teq cd11).1 (by decide) (by decide) k) ?_
            refine Go.st (f' := (mkF m 49 #[iv p1] [(.int 1)])) (fun _ k => XS.iconst X0.here hx rfl (hb hby d16_48) k) ?_
            refine Go.st (f' := (mkF m 53 #[iv p1] [(.int 1)])) (fun _ k => XS.goto X0.here hx rfl (pc0 := 49) (pc' := 53) rfl (hb hby d16_49) (by decide) (by decide) k) ?_
            refine Go.retB X0 hlk hx (t := .boolean) hret (by simp) (hb hby d16_53) e0 ?_ (by decide) (by decide)
            show (some (.int (1 : Int32)) : Option Value) = some (.int (idI p1)) ∧ _
            exact ⟨by rw [idI, if_pos cd1, if_neg cd2, if_pos cd9, if_pos cd10, if_pos cd11], N0, rfl⟩
          · refine Go.st (f' := (mkF m 42 #[iv p1] [])) (fun _ k => XS.icmpNo X0.here hx rfl (hb hby d16_39) rfl (feq cd11).1 k) ?_
            refine Go.st (f' := (mkF m 43 #[iv p1] [(.int p1)])) (fun _ k => XS.iloadN X0.here hx rfl (hb hby d16_42) rfl k) ?_
            refine Go.st (f' := (mkF m 45 #[iv p1] [(.int 45), (.int p1)])) (fun _ k => XS.bipush X0.here hx rfl (hb hby d16_43) k) ?_
            by_cases cd12 : p1 = (45 : Int32)
            · refine Go.st (f' := (mkF m 48 #[iv p1] [])) (fun _ k => XS.icmpNo X0.here hx rfl (hb hby d16_45) rfl (teq cd12).2 k) ?_
              refine Go.st (f' := (mkF m 49 #[iv p1] [(.int 1)])) (fun _ k => XS.iconst X0.here hx rfl (hb hby d16_48) k) ?_
              refine Go.st (f' := (mkF m 53 #[iv p1] [(.int 1)])) (fun _ k => XS.goto X0.here hx rfl (pc0 := 49) (pc' := 53) rfl (hb hby d16_49) (by decide) (by decide) k) ?_
              refine Go.retB X0 hlk hx (t := .boolean) hret (by simp) (hb hby d16_53) e0 ?_ (by decide) (by decide)
              show (some (.int (1 : Int32)) : Option Value) = some (.int (idI p1)) ∧ _
              exact ⟨by rw [idI, if_pos cd1, if_neg cd2, if_pos cd9, if_pos cd10, if_neg cd11, if_pos cd12], N0, rfl⟩
            · refine Go.st (f' := (mkF m 52 #[iv p1] [])) (fun _ k => XS.icmpYes X0.here hx rfl (pc0 := 45) (pc' := 52) rfl (hb hby d16_45) rfl (feq cd12).2 (by decide) (by decide) k) ?_
              refine Go.st (f' := (mkF m 53 #[iv p1] [(.int 0)])) (fun _ k => XS.iconst X0.here hx rfl (hb hby d16_52) k) ?_
              refine Go.retB X0 hlk hx (t := .boolean) hret (by simp) (hb hby d16_53) e0 ?_ (by decide) (by decide)
              show (some (.int (0 : Int32)) : Option Value) = some (.int (idI p1)) ∧ _
              exact ⟨by rw [idI, if_pos cd1, if_neg cd2, if_pos cd9, if_pos cd10, if_neg cd11, if_neg cd12], N0, rfl⟩
        · refine Go.st (f' := (mkF m 30 #[iv p1] [])) (fun _ k => XS.icmpNo X0.here hx rfl (hb hby d16_27) rfl (flt cd10).1 k) ?_
          refine Go.st (f' := (mkF m 31 #[iv p1] [(.int p1)])) (fun _ k => XS.iloadN X0.here hx rfl (hb hby d16_30) rfl k) ?_
          refine Go.st (f' := (mkF m 33 #[iv p1] [(.int 57), (.int p1)])) (fun _ k => XS.bipush X0.here hx rfl (hb hby d16_31) k) ?_
          by_cases cd13 : (57 : Int32) < p1
          · refine Go.st (f' := (mkF m 36 #[iv p1] [])) (fun _ k => XS.icmpNo X0.here hx rfl (hb hby d16_33) rfl (tlt cd13).2.2.2 k) ?_
            refine Go.st (f' := (mkF m 37 #[iv p1] [(.int p1)])) (fun _ k => XS.iloadN X0.here hx rfl (hb hby d16_36) rfl k) ?_
            refine Go.st (f' := (mkF m 39 #[iv p1] [(.int 95), (.int p1)])) (fun _ k => XS.bipush X0.here hx rfl (hb hby d16_37) k) ?_
            by_cases cd14 : p1 = (95 : Int32)
            · refine Go.st (f' := (mkF m 48 #[iv p1] [])) (fun _ k => XS.icmpYes X0.here hx rfl (pc0 := 39) (pc' := 48) rfl (hb hby d16_39) rfl (teq cd14).1 (by decide) (by decide) k) ?_
              refine Go.st (f' := (mkF m 49 #[iv p1] [(.int 1)])) (fun _ k => XS.iconst X0.here hx rfl (hb hby d16_48) k) ?_
              refine Go.st (f' := (mkF m 53 #[iv p1] [(.int 1)])) (fun _ k => XS.goto X0.here hx rfl (pc0 := 49) (pc' := 53) rfl (hb hby d16_49) (by decide) (by decide) k) ?_
              refine Go.retB X0 hlk hx (t := .boolean) hret (by simp) (hb hby d16_53) e0 ?_ (by decide) (by decide)
              show (some (.int (1 : Int32)) : Option Value) = some (.int (idI p1)) ∧ _
              exact ⟨by rw [idI, if_pos cd1, if_neg cd2, if_pos cd9, if_neg cd10, if_pos cd13, if_pos cd14], N0, rfl⟩
            · refine Go.st (f' := (mkF m 42 #[iv p1] [])) (fun _ k => XS.icmpNo X0.here hx rfl (hb hby d16_39) rfl (feq cd14).1 k) ?_
              refine Go.st (f' := (mkF m 43 #[iv p1] [(.int p1)])) (fun _ k => XS.iloadN X0.here hx rfl (hb hby d16_42) rfl k) ?_
              refine Go.st (f' := (mkF m 45 #[iv p1] [(.int 45), (.int p1)])) (fun _ k => XS.bipush X0.here hx rfl (hb hby d16_43) k) ?_
              by_cases cd15 : p1 = (45 : Int32)
              · refine Go.st (f' := (mkF m 48 #[iv p1] [])) (fun _ k => XS.icmpNo X0.here hx rfl (hb hby d16_45) rfl (teq cd15).2 k) ?_
                refine Go.st (f' := (mkF m 49 #[iv p1] [(.int 1)])) (fun _ k => XS.iconst X0.here hx rfl (hb hby d16_48) k) ?_
                refine Go.st (f' := (mkF m 53 #[iv p1] [(.int 1)])) (fun _ k => XS.goto X0.here hx rfl (pc0 := 49) (pc' := 53) rfl (hb hby d16_49) (by decide) (by decide) k) ?_
                refine Go.retB X0 hlk hx (t := .boolean) hret (by simp) (hb hby d16_53) e0 ?_ (by decide) (by decide)
                show (some (.int (1 : Int32)) : Option Value) = some (.int (idI p1)) ∧ _
                exact ⟨by rw [idI, if_pos cd1, if_neg cd2, if_pos cd9, if_neg cd10, if_pos cd13, if_neg cd14, if_pos cd15], N0, rfl⟩
              · refine Go.st (f' := (mkF m 52 #[iv p1] [])) (fun _ k => XS.icmpYes X0.here hx rfl (pc0 := 45) (pc' := 52) rfl (hb hby d16_45) rfl (feq cd15).2 (by decide) (by decide) k) ?_
                refine Go.st (f' := (mkF m 53 #[iv p1] [(.int 0)])) (fun _ k => XS.iconst X0.here hx rfl (hb hby d16_52) k) ?_
                refine Go.retB X0 hlk hx (t := .boolean) hret (by simp) (hb hby d16_53) e0 ?_ (by decide) (by decide)
                show (some (.int (0 : Int32)) : Option Value) = some (.int (idI p1)) ∧ _
                exact ⟨by rw [idI, if_pos cd1, if_neg cd2, if_pos cd9, if_neg cd10, if_pos cd13, if_neg cd14, if_neg cd15], N0, rfl⟩
          · refine Go.st (f' := (mkF m 48 #[iv p1] [])) (fun _ k => XS.icmpYes X0.here hx rfl (pc0 := 33) (pc' := 48) rfl (hb hby d16_33) rfl (flt cd13).2.2.2 (by decide) (by decide) k) ?_
            refine Go.st (f' := (mkF m 49 #[iv p1] [(.int 1)])) (fun _ k => XS.iconst X0.here hx rfl (hb hby d16_48) k) ?_
            refine Go.st (f' := (mkF m 53 #[iv p1] [(.int 1)])) (fun _ k => XS.goto X0.here hx rfl (pc0 := 49) (pc' := 53) rfl (hb hby d16_49) (by decide) (by decide) k) ?_
            refine Go.retB X0 hlk hx (t := .boolean) hret (by simp) (hb hby d16_53) e0 ?_ (by decide) (by decide)
            show (some (.int (1 : Int32)) : Option Value) = some (.int (idI p1)) ∧ _
            exact ⟨by rw [idI, if_pos cd1, if_neg cd2, if_pos cd9, if_neg cd10, if_neg cd13], N0, rfl⟩
      · refine Go.st (f' := (mkF m 48 #[iv p1] [])) (fun _ k => XS.icmpYes X0.here hx rfl (pc0 := 21) (pc' := 48) rfl (hb hby d16_21) rfl (flt cd9).2.2.2 (by decide) (by decide) k) ?_
        refine Go.st (f' := (mkF m 49 #[iv p1] [(.int 1)])) (fun _ k => XS.iconst X0.here hx rfl (hb hby d16_48) k) ?_
        refine Go.st (f' := (mkF m 53 #[iv p1] [(.int 1)])) (fun _ k => XS.goto X0.here hx rfl (pc0 := 49) (pc' := 53) rfl (hb hby d16_49) (by decide) (by decide) k) ?_
        refine Go.retB X0 hlk hx (t := .boolean) hret (by simp) (hb hby d16_53) e0 ?_ (by decide) (by decide)
        show (some (.int (1 : Int32)) : Option Value) = some (.int (idI p1)) ∧ _
        exact ⟨by rw [idI, if_pos cd1, if_neg cd2, if_neg cd9], N0, rfl⟩
  · refine Go.st (f' := (mkF m 6 #[iv p1] [])) (fun _ k => XS.icmpNo X0.here hx rfl (hb hby d16_3) rfl (flt cd1).1 k) ?_
    refine Go.st (f' := (mkF m 7 #[iv p1] [(.int p1)])) (fun _ k => XS.iloadN X0.here hx rfl (hb hby d16_6) rfl k) ?_
    refine Go.st (f' := (mkF m 9 #[iv p1] [(.int 90), (.int p1)])) (fun _ k => XS.bipush X0.here hx rfl (hb hby d16_7) k) ?_
    by_cases cd16 : (90 : Int32) < p1
    · refine Go.st (f' := (mkF m 12 #[iv p1] [])) (fun _ k => XS.icmpNo X0.here hx rfl (hb hby d16_9) rfl (tlt cd16).2.2.2 k) ?_
      refine Go.st (f' := (mkF m 13 #[iv p1] [(.int p1)])) (fun _ k => XS.iloadN X0.here hx rfl (hb hby d16_12) rfl k) ?_
      refine Go.st (f' := (mkF m 15 #[iv p1] [(.int 97), (.int p1)])) (fun _ k => XS.bipush X0.here hx rfl (hb hby d16_13) k) ?_
      by_cases cd17 : p1 < (97 : Int32)
      · refine Go.st (f' := (mkF m 24 #[iv p1] [])) (fun _ k => XS.icmpYes X0.here hx rfl (pc0 := 15) (pc' := 24) rfl (hb hby d16_15) rfl (tlt cd17).1 (by decide) (by decide) k) ?_
        refine Go.st (f' := (mkF m 25 #[iv p1] [(.int p1)])) (fun _ k => XS.iloadN X0.here hx rfl (hb hby d16_24) rfl k) ?_
        refine Go.st (f' := (mkF m 27 #[iv p1] [(.int 48), (.int p1)])) (fun _ k => XS.bipush X0.here hx rfl (hb hby d16_25) k) ?_
        by_cases cd18 : p1 < (48 : Int32)
        · refine Go.st (f' := (mkF m 36 #[iv p1] [])) (fun _ k => XS.icmpYes X0.here hx rfl (pc0 := 27) (pc' := 36) rfl (hb hby d16_27) rfl (tlt cd18).1 (by decide) (by decide) k) ?_
          refine Go.st (f' := (mkF m 37 #[iv p1] [(.int p1)])) (fun _ k => XS.iloadN X0.here hx rfl (hb hby d16_36) rfl k) ?_
          refine Go.st (f' := (mkF m 39 #[iv p1] [(.int 95), (.int p1)])) (fun _ k => XS.bipush X0.here hx rfl (hb hby d16_37) k) ?_
          by_cases cd19 : p1 = (95 : Int32)
          · refine Go.st (f' := (mkF m 48 #[iv p1] [])) (fun _ k => XS.icmpYes X0.here hx rfl (pc0 := 39) (pc' := 48) rfl (hb hby d16_39) rfl (teq cd19).1 (by decide) (by decide) k) ?_
            refine Go.st (f' := (mkF m 49 #[iv p1] [(.int 1)])) (fun _ k => XS.iconst X0.here hx rfl (hb hby d16_48) k) ?_
            refine Go.st (f' := (mkF m 53 #[iv p1] [(.int 1)])) (fun _ k => XS.goto X0.here hx rfl (pc0 := 49) (pc' := 53) rfl (hb hby d16_49) (by decide) (by decide) k) ?_
            refine Go.retB X0 hlk hx (t := .boolean) hret (by simp) (hb hby d16_53) e0 ?_ (by decide) (by decide)
            show (some (.int (1 : Int32)) : Option Value) = some (.int (idI p1)) ∧ _
            exact ⟨by rw [idI, if_neg cd1, if_pos cd16, if_pos cd17, if_pos cd18, if_pos cd19], N0, rfl⟩
          · refine Go.st (f' := (mkF m 42 #[iv p1] [])) (fun _ k => XS.icmpNo X0.here hx rfl (hb hby d16_39) rfl (feq cd19).1 k) ?_
            refine Go.st (f' := (mkF m 43 #[iv p1] [(.int p1)])) (fun _ k => XS.iloadN X0.here hx rfl (hb hby d16_42) rfl k) ?_
            refine Go.st (f' := (mkF m 45 #[iv p1] [(.int 45), (.int p1)])) (fun _ k => XS.bipush X0.here hx rfl (hb hby d16_43) k) ?_
            by_cases cd20 : p1 = (45 : Int32)
            · refine Go.st (f' := (mkF m 48 #[iv p1] [])) (fun _ k => XS.icmpNo X0.here hx rfl (hb hby d16_45) rfl (teq cd20).2 k) ?_
              refine Go.st (f' := (mkF m 49 #[iv p1] [(.int 1)])) (fun _ k => XS.iconst X0.here hx rfl (hb hby d16_48) k) ?_
              refine Go.st (f' := (mkF m 53 #[iv p1] [(.int 1)])) (fun _ k => XS.goto X0.here hx rfl (pc0 := 49) (pc' := 53) rfl (hb hby d16_49) (by decide) (by decide) k) ?_
              refine Go.retB X0 hlk hx (t := .boolean) hret (by simp) (hb hby d16_53) e0 ?_ (by decide) (by decide)
              show (some (.int (1 : Int32)) : Option Value) = some (.int (idI p1)) ∧ _
              exact ⟨by rw [idI, if_neg cd1, if_pos cd16, if_pos cd17, if_pos cd18, if_neg cd19, if_pos cd20], N0, rfl⟩
            · refine Go.st (f' := (mkF m 52 #[iv p1] [])) (fun _ k => XS.icmpYes X0.here hx rfl (pc0 := 45) (pc' := 52) rfl (hb hby d16_45) rfl (feq cd20).2 (by decide) (by decide) k) ?_
              refine Go.st (f' := (mkF m 53 #[iv p1] [(.int 0)])) (fun _ k => XS.iconst X0.here hx rfl (hb hby d16_52) k) ?_
              refine Go.retB X0 hlk hx (t := .boolean) hret (by simp) (hb hby d16_53) e0 ?_ (by decide) (by decide)
              show (some (.int (0 : Int32)) : Option Value) = some (.int (idI p1)) ∧ _
              exact ⟨by rw [idI, if_neg cd1, if_pos cd16, if_pos cd17, if_pos cd18, if_neg cd19, if_neg cd20], N0, rfl⟩
        · refine Go.st (f' := (mkF m 30 #[iv p1] [])) (fun _ k => XS.icmpNo X0.here hx rfl (hb hby d16_27) rfl (flt cd18).1 k) ?_
          refine Go.st (f' := (mkF m 31 #[iv p1] [(.int p1)])) (fun _ k => XS.iloadN X0.here hx rfl (hb hby d16_30) rfl k) ?_
          refine Go.st (f' := (mkF m 33 #[iv p1] [(.int 57), (.int p1)])) (fun _ k => XS.bipush X0.here hx rfl (hb hby d16_31) k) ?_
          by_cases cd21 : (57 : Int32) < p1
          · refine Go.st (f' := (mkF m 36 #[iv p1] [])) (fun _ k => XS.icmpNo X0.here hx rfl (hb hby d16_33) rfl (tlt cd21).2.2.2 k) ?_
            refine Go.st (f' := (mkF m 37 #[iv p1] [(.int p1)])) (fun _ k => XS.iloadN X0.here hx rfl (hb hby d16_36) rfl k) ?_
            refine Go.st (f' := (mkF m 39 #[iv p1] [(.int 95), (.int p1)])) (fun _ k => XS.bipush X0.here hx rfl (hb hby d16_37) k) ?_
            by_cases cd22 : p1 = (95 : Int32)
            · refine Go.st (f' := (mkF m 48 #[iv p1] [])) (fun _ k => XS.icmpYes X0.here hx rfl (pc0 := 39) (pc' := 48) rfl (hb hby d16_39) rfl (teq cd22).1 (by decide) (by decide) k) ?_
              refine Go.st (f' := (mkF m 49 #[iv p1] [(.int 1)])) (fun _ k => XS.iconst X0.here hx rfl (hb hby d16_48) k) ?_
              refine Go.st (f' := (mkF m 53 #[iv p1] [(.int 1)])) (fun _ k => XS.goto X0.here hx rfl (pc0 := 49) (pc' := 53) rfl (hb hby d16_49) (by decide) (by decide) k) ?_
              refine Go.retB X0 hlk hx (t := .boolean) hret (by simp) (hb hby d16_53) e0 ?_ (by decide) (by decide)
              show (some (.int (1 : Int32)) : Option Value) = some (.int (idI p1)) ∧ _
              exact ⟨by rw [idI, if_neg cd1, if_pos cd16, if_pos cd17, if_neg cd18, if_pos cd21, if_pos cd22], N0, rfl⟩
            · refine Go.st (f' := (mkF m 42 #[iv p1] [])) (fun _ k => XS.icmpNo X0.here hx rfl (hb hby d16_39) rfl (feq cd22).1 k) ?_
              refine Go.st (f' := (mkF m 43 #[iv p1] [(.int p1)])) (fun _ k => XS.iloadN X0.here hx rfl (hb hby d16_42) rfl k) ?_
              refine Go.st (f' := (mkF m 45 #[iv p1] [(.int 45), (.int p1)])) (fun _ k => XS.bipush X0.here hx rfl (hb hby d16_43) k) ?_
              by_cases cd23 : p1 = (45 : Int32)
              · refine Go.st (f' := (mkF m 48 #[iv p1] [])) (fun _ k => XS.icmpNo X0.here hx rfl (hb hby d16_45) rfl (teq cd23).2 k) ?_
                refine Go.st (f' := (mkF m 49 #[iv p1] [(.int 1)])) (fun _ k => XS.iconst X0.here hx rfl (hb hby d16_48) k) ?_
                refine Go.st (f' := (mkF m 53 #[iv p1] [(.int 1)])) (fun _ k => XS.goto X0.here hx rfl (pc0 := 49) (pc' := 53) rfl (hb hby d16_49) (by decide) (by decide) k) ?_
                refine Go.retB X0 hlk hx (t := .boolean) hret (by simp) (hb hby d16_53) e0 ?_ (by decide) (by decide)
                show (some (.int (1 : Int32)) : Option Value) = some (.int (idI p1)) ∧ _
                exact ⟨by rw [idI, if_neg cd1, if_pos cd16, if_pos cd17, if_neg cd18, if_pos cd21, if_neg cd22, if_pos cd23], N0, rfl⟩
              · refine Go.st (f' := (mkF m 52 #[iv p1] [])) (fun _ k => XS.icmpYes X0.here hx rfl (pc0 := 45) (pc' := 52) rfl (hb hby d16_45) rfl (feq cd23).2 (by decide) (by decide) k) ?_
                refine Go.st (f' := (mkF m 53 #[iv p1] [(.int 0)])) (fun _ k => XS.iconst X0.here hx rfl (hb hby d16_52) k) ?_
                refine Go.retB X0 hlk hx (t := .boolean) hret (by simp) (hb hby d16_53) e0 ?_ (by decide) (by decide)
                show (some (.int (0 : Int32)) : Option Value) = some (.int (idI p1)) ∧ _
                exact ⟨by rw [idI, if_neg cd1, if_pos cd16, if_pos cd17, if_neg cd18, if_pos cd21, if_neg cd22, if_neg cd23], N0, rfl⟩
          · refine Go.st (f' := (mkF m 48 #[iv p1] [])) (fun _ k => XS.icmpYes X0.here hx rfl (pc0 := 33) (pc' := 48) rfl (hb hby d16_33) rfl (flt cd21).2.2.2 (by decide) (by decide) k) ?_
            refine Go.st (f' := (mkF m 49 #[iv p1] [(.int 1)])) (fun _ k => XS.iconst X0.here hx rfl (hb hby d16_48) k) ?_
            refine Go.st (f' := (mkF m 53 #[iv p1] [(.int 1)])) (fun _ k => XS.goto X0.here hx rfl (pc0 := 49) (pc' := 53) rfl (hb hby d16_49) (by decide) (by decide) k) ?_
            refine Go.retB X0 hlk hx (t := .boolean) hret (by simp) (hb hby d16_53) e0 ?_ (by decide) (by decide)
            show (some (.int (1 : Int32)) : Option Value) = some (.int (idI p1)) ∧ _
            exact ⟨by rw [idI, if_neg cd1, if_pos cd16, if_pos cd17, if_neg cd18, if_neg cd21], N0, rfl⟩
      · refine Go.st (f' := (mkF m 18 #[iv p1] [])) (fun _ k => XS.icmpNo X0.here hx rfl (hb hby d16_15) rfl (flt cd17).1 k) ?_
        refine Go.st (f' := (mkF m 19 #[iv p1] [(.int p1)])) (fun _ k => XS.iloadN X0.here hx rfl (hb hby d16_18) rfl k) ?_
        refine Go.st (f' := (mkF m 21 #[iv p1] [(.int 122), (.int p1)])) (fun _ k => XS.bipush X0.here hx rfl (hb hby d16_19) k) ?_
        by_cases cd24 : (122 : Int32) < p1
        · refine Go.st (f' := (mkF m 24 #[iv p1] [])) (fun _ k => XS.icmpNo X0.here hx rfl (hb hby d16_21) rfl (tlt cd24).2.2.2 k) ?_
          refine Go.st (f' := (mkF m 25 #[iv p1] [(.int p1)])) (fun _ k => XS.iloadN X0.here hx rfl (hb hby d16_24) rfl k) ?_
          refine Go.st (f' := (mkF m 27 #[iv p1] [(.int 48), (.int p1)])) (fun _ k => XS.bipush X0.here hx rfl (hb hby d16_25) k) ?_
          by_cases cd25 : p1 < (48 : Int32)
          · refine Go.st (f' := (mkF m 36 #[iv p1] [])) (fun _ k => XS.icmpYes X0.here hx rfl (pc0 := 27) (pc' := 36) rfl (hb hby d16_27) rfl (tlt cd25).1 (by decide) (by decide) k) ?_
            refine Go.st (f' := (mkF m 37 #[iv p1] [(.int p1)])) (fun _ k => XS.iloadN X0.here hx rfl (hb hby d16_36) rfl k) ?_
            refine Go.st (f' := (mkF m 39 #[iv p1] [(.int 95), (.int p1)])) (fun _ k => XS.bipush X0.here hx rfl (hb hby d16_37) k) ?_
            by_cases cd26 : p1 = (95 : Int32)
            · refine Go.st (f' := (mkF m 48 #[iv p1] [])) (fun _ k => XS.icmpYes X0.here hx rfl (pc0 := 39) (pc' := 48) rfl (hb hby d16_39) rfl (teq cd26).1 (by decide) (by decide) k) ?_
              refine Go.st (f' := (mkF m 49 #[iv p1] [(.int 1)])) (fun _ k => XS.iconst X0.here hx rfl (hb hby d16_48) k) ?_
              refine Go.st (f' := (mkF m 53 #[iv p1] [(.int 1)])) (fun _ k => XS.goto X0.here hx rfl (pc0 := 49) (pc' := 53) rfl (hb hby d16_49) (by decide) (by decide) k) ?_
              refine Go.retB X0 hlk hx (t := .boolean) hret (by simp) (hb hby d16_53) e0 ?_ (by decide) (by decide)
              show (some (.int (1 : Int32)) : Option Value) = some (.int (idI p1)) ∧ _
              exact ⟨by rw [idI, if_neg cd1, if_pos cd16, if_neg cd17, if_pos cd24, if_pos cd25, if_pos cd26], N0, rfl⟩
            · refine Go.st (f' := (mkF m 42 #[iv p1] [])) (fun _ k => XS.icmpNo X0.here hx rfl (hb hby d16_39) rfl (feq cd26).1 k) ?_
              refine Go.st (f' := (mkF m 43 #[iv p1] [(.int p1)])) (fun _ k => XS.iloadN X0.here hx rfl (hb hby d16_42) rfl k) ?_
              refine Go.st (f' := (mkF m 45 #[iv p1] [(.int 45), (.int p1)])) (fun _ k => XS.bipush X0.here hx rfl (hb hby d16_43) k) ?_
              by_cases cd27 : p1 = (45 : Int32)
              · refine Go.st (f' := (mkF m 48 #[iv p1] [])) (fun _ k => XS.icmpNo X0.here hx rfl (hb hby d16_45) rfl (teq cd27).2 k) ?_
                refine Go.st (f' := (mkF m 49 #[iv p1] [(.int 1)])) (fun _ k => XS.iconst X0.here hx rfl (hb hby d16_48) k) ?_
                refine Go.st (f' := (mkF m 53 #[iv p1] [(.int 1)])) (fun _ k => XS.goto X0.here hx rfl (pc0 := 49) (pc' := 53) rfl (hb hby d16_49) (by decide) (by decide) k) ?_
                refine Go.retB X0 hlk hx (t := .boolean) hret (by simp) (hb hby d16_53) e0 ?_ (by decide) (by decide)
                show (some (.int (1 : Int32)) : Option Value) = some (.int (idI p1)) ∧ _
                exact ⟨by rw [idI, if_neg cd1, if_pos cd16, if_neg cd17, if_pos cd24, if_pos cd25, if_neg cd26, if_pos cd27], N0, rfl⟩
              · refine Go.st (f' := (mkF m 52 #[iv p1] [])) (fun _ k => XS.icmpYes X0.here hx rfl (pc0 := 45) (pc' := 52) rfl (hb hby d16_45) rfl (feq cd27).2 (by decide) (by decide) k) ?_
                refine Go.st (f' := (mkF m 53 #[iv p1] [(.int 0)])) (fun _ k => XS.iconst X0.here hx rfl (hb hby d16_52) k) ?_
                refine Go.retB X0 hlk hx (t := .boolean) hret (by simp) (hb hby d16_53) e0 ?_ (by decide) (by decide)
                show (some (.int (0 : Int32)) : Option Value) = some (.int (idI p1)) ∧ _
                exact ⟨by rw [idI, if_neg cd1, if_pos cd16, if_neg cd17, if_pos cd24, if_pos cd25, if_neg cd26, if_neg cd27], N0, rfl⟩
          · refine Go.st (f' := (mkF m 30 #[iv p1] [])) (fun _ k => XS.icmpNo X0.here hx rfl (hb hby d16_27) rfl (flt cd25).1 k) ?_
            refine Go.st (f' := (mkF m 31 #[iv p1] [(.int p1)])) (fun _ k => XS.iloadN X0.here hx rfl (hb hby d16_30) rfl k) ?_
            refine Go.st (f' := (mkF m 33 #[iv p1] [(.int 57), (.int p1)])) (fun _ k => XS.bipush X0.here hx rfl (hb hby d16_31) k) ?_
            by_cases cd28 : (57 : Int32) < p1
            · refine Go.st (f' := (mkF m 36 #[iv p1] [])) (fun _ k => XS.icmpNo X0.here hx rfl (hb hby d16_33) rfl (tlt cd28).2.2.2 k) ?_
              refine Go.st (f' := (mkF m 37 #[iv p1] [(.int p1)])) (fun _ k => XS.iloadN X0.here hx rfl (hb hby d16_36) rfl k) ?_
              refine Go.st (f' := (mkF m 39 #[iv p1] [(.int 95), (.int p1)])) (fun _ k => XS.bipush X0.here hx rfl (hb hby d16_37) k) ?_
              by_cases cd29 : p1 = (95 : Int32)
              · refine Go.st (f' := (mkF m 48 #[iv p1] [])) (fun _ k => XS.icmpYes X0.here hx rfl (pc0 := 39) (pc' := 48) rfl (hb hby d16_39) rfl (teq cd29).1 (by decide) (by decide) k) ?_
                refine Go.st (f' := (mkF m 49 #[iv p1] [(.int 1)])) (fun _ k => XS.iconst X0.here hx rfl (hb hby d16_48) k) ?_
                refine Go.st (f' := (mkF m 53 #[iv p1] [(.int 1)])) (fun _ k => XS.goto X0.here hx rfl (pc0 := 49) (pc' := 53) rfl (hb hby d16_49) (by decide) (by decide) k) ?_
                refine Go.retB X0 hlk hx (t := .boolean) hret (by simp) (hb hby d16_53) e0 ?_ (by decide) (by decide)
                show (some (.int (1 : Int32)) : Option Value) = some (.int (idI p1)) ∧ _
                exact ⟨by rw [idI, if_neg cd1, if_pos cd16, if_neg cd17, if_pos cd24, if_neg cd25, if_pos cd28, if_pos cd29], N0, rfl⟩
              · refine Go.st (f' := (mkF m 42 #[iv p1] [])) (fun _ k => XS.icmpNo X0.here hx rfl (hb hby d16_39) rfl (feq cd29).1 k) ?_
                refine Go.st (f' := (mkF m 43 #[iv p1] [(.int p1)])) (fun _ k => XS.iloadN X0.here hx rfl (hb hby d16_42) rfl k) ?_
                refine Go.st (f' := (mkF m 45 #[iv p1] [(.int 45), (.int p1)])) (fun _ k => XS.bipush X0.here hx rfl (hb hby d16_43) k) ?_
                by_cases cd30 : p1 = (45 : Int32)
                · refine Go.st (f' := (mkF m 48 #[iv p1] [])) (fun _ k => XS.icmpNo X0.here hx rfl (hb hby d16_45) rfl (teq cd30).2 k) ?_
                  refine Go.st (f' := (mkF m 49 #[iv p1] [(.int 1)])) (fun _ k => XS.iconst X0.here hx rfl (hb hby d16_48) k) ?_
                  refine Go.st (f' := (mkF m 53 #[iv p1] [(.int 1)])) (fun _ k => XS.goto X0.here hx rfl (pc0 := 49) (pc' := 53) rfl (hb hby d16_49) (by decide) (by decide) k) ?_
                  refine Go.retB X0 hlk hx (t := .boolean) hret (by simp) (hb hby d16_53) e0 ?_ (by decide) (by decide)
                  show (some (.int (1 : Int32)) : Option Value) = some (.int (idI p1)) ∧ _
                  exact ⟨by rw [idI, if_neg cd1, if_pos cd16, if_neg cd17, if_pos cd24, if_neg cd25, if_pos cd28, if_neg cd29, if_pos cd30], N0, rfl⟩
                · refine Go.st (f' := (mkF m 52 #[iv p1] [])) (fun _ k => XS.icmpYes X0.here hx rfl (pc0 := 45) (pc' := 52) rfl (hb hby d16_45) rfl (feq cd30).2 (by decide) (by decide) k) ?_
                  refine Go.st (f' := (mkF m 53 #[iv p1] [(.int 0)])) (fun _ k => XS.iconst X0.here hx rfl (hb hby d16_52) k) ?_
                  refine Go.retB X0 hlk hx (t := .boolean) hret (by simp) (hb hby d16_53) e0 ?_ (by decide) (by decide)
                  show (some (.int (0 : Int32)) : Option Value) = some (.int (idI p1)) ∧ _
                  exact ⟨by rw [idI, if_neg cd1, if_pos cd16, if_neg cd17, if_pos cd24, if_neg cd25, if_pos cd28, if_neg cd29, if_neg cd30], N0, rfl⟩
            · refine Go.st (f' := (mkF m 48 #[iv p1] [])) (fun _ k => XS.icmpYes X0.here hx rfl (pc0 := 33) (pc' := 48) rfl (hb hby d16_33) rfl (flt cd28).2.2.2 (by decide) (by decide) k) ?_
              refine Go.st (f' := (mkF m 49 #[iv p1] [(.int 1)])) (fun _ k => XS.iconst X0.here hx rfl (hb hby d16_48) k) ?_
              refine Go.st (f' := (mkF m 53 #[iv p1] [(.int 1)])) (fun _ k => XS.goto X0.here hx rfl (pc0 := 49) (pc' := 53) rfl (hb hby d16_49) (by decide) (by decide) k) ?_
              refine Go.retB X0 hlk hx (t := .boolean) hret (by simp) (hb hby d16_53) e0 ?_ (by decide) (by decide)
              show (some (.int (1 : Int32)) : Option Value) = some (.int (idI p1)) ∧ _
              exact ⟨by rw [idI, if_neg cd1, if_pos cd16, if_neg cd17, if_pos cd24, if_neg cd25, if_neg cd28], N0, rfl⟩
        · refine Go.st (f' := (mkF m 48 #[iv p1] [])) (fun _ k => XS.icmpYes X0.here hx rfl (pc0 := 21) (pc' := 48) rfl (hb hby d16_21) rfl (flt cd24).2.2.2 (by decide) (by decide) k) ?_
          refine Go.st (f' := (mkF m 49 #[iv p1] [(.int 1)])) (fun _ k => XS.iconst X0.here hx rfl (hb hby d16_48) k) ?_
          refine Go.st (f' := (mkF m 53 #[iv p1] [(.int 1)])) (fun _ k => XS.goto X0.here hx rfl (pc0 := 49) (pc' := 53) rfl (hb hby d16_49) (by decide) (by decide) k) ?_
          refine Go.retB X0 hlk hx (t := .boolean) hret (by simp) (hb hby d16_53) e0 ?_ (by decide) (by decide)
          show (some (.int (1 : Int32)) : Option Value) = some (.int (idI p1)) ∧ _
          exact ⟨by rw [idI, if_neg cd1, if_pos cd16, if_neg cd17, if_neg cd24], N0, rfl⟩
    · refine Go.st (f' := (mkF m 48 #[iv p1] [])) (fun _ k => XS.icmpYes X0.here hx rfl (pc0 := 9) (pc' := 48) rfl (hb hby d16_9) rfl (flt cd16).2.2.2 (by decide) (by decide) k) ?_
      refine Go.st (f' := (mkF m 49 #[iv p1] [(.int 1)])) (fun _ k => XS.iconst X0.here hx rfl (hb hby d16_48) k) ?_
      refine Go.st (f' := (mkF m 53 #[iv p1] [(.int 1)])) (fun _ k => XS.goto X0.here hx rfl (pc0 := 49) (pc' := 53) rfl (hb hby d16_49) (by decide) (by decide) k) ?_
      refine Go.retB X0 hlk hx (t := .boolean) hret (by simp) (hb hby d16_53) e0 ?_ (by decide) (by decide)
      show (some (.int (1 : Int32)) : Option Value) = some (.int (idI p1)) ∧ _
      exact ⟨by rw [idI, if_neg cd1, if_neg cd16], N0, rfl⟩
theorem pn_com_example_rulebridge_rulebridge_server_IdIsValidPinLaw : plainName "com/example/rulebridge/rulebridge/server/IdIsValidPinLaw" = true := by first | (simp [plainName, overriddenIn]; done) | decide +kernel
theorem d10_0 : decode method_2_code 0 = .ok (.iload_n 0, 1) := by decide +kernel
theorem d10_1 : decode method_2_code 1 = .ok (.bipush 95, 2) := by decide +kernel
theorem d10_3 : decode method_2_code 3 = .ok (.if_icmp .eq 9, 3) := by decide +kernel
theorem d10_12 : decode method_2_code 12 = .ok (.iconst 1, 1) := by decide +kernel
theorem d10_13 : decode method_2_code 13 = .ok (.ireturn, 1) := by decide +kernel
theorem d10_6 : decode method_2_code 6 = .ok (.iload_n 0, 1) := by decide +kernel
theorem d10_7 : decode method_2_code 7 = .ok (.bipush 45, 2) := by decide +kernel
theorem d10_9 : decode method_2_code 9 = .ok (.if_icmp .ne 5, 3) := by decide +kernel
theorem d10_14 : decode method_2_code 14 = .ok (.bipush 48, 2) := by decide +kernel
theorem d10_16 : decode method_2_code 16 = .ok (.iload_n 0, 1) := by decide +kernel
theorem d10_17 : decode method_2_code 17 = .ok (.if_icmp .gt 11, 3) := by decide +kernel
theorem d10_28 : decode method_2_code 28 = .ok (.bipush 65, 2) := by decide +kernel
theorem d10_30 : decode method_2_code 30 = .ok (.iload_n 0, 1) := by decide +kernel
theorem d10_31 : decode method_2_code 31 = .ok (.if_icmp .gt 11, 3) := by decide +kernel
theorem d10_42 : decode method_2_code 42 = .ok (.bipush 97, 2) := by decide +kernel
theorem d10_44 : decode method_2_code 44 = .ok (.iload_n 0, 1) := by decide +kernel
theorem d10_45 : decode method_2_code 45 = .ok (.if_icmp .gt 13, 3) := by decide +kernel
theorem d10_58 : decode method_2_code 58 = .ok (.iconst 0, 1) := by decide +kernel
theorem d10_59 : decode method_2_code 59 = .ok (.ireturn, 1) := by decide +kernel
theorem d10_48 : decode method_2_code 48 = .ok (.iload_n 0, 1) := by decide +kernel
theorem d10_49 : decode method_2_code 49 = .ok (.bipush 122, 2) := by decide +kernel
theorem d10_51 : decode method_2_code 51 = .ok (.if_icmp .gt 7, 3) := by decide +kernel
theorem d10_54 : decode method_2_code 54 = .ok (.iconst 1, 1) := by decide +kernel
theorem d10_55 : decode method_2_code 55 = .ok (.goto 4, 3) := by decide +kernel
theorem d10_34 : decode method_2_code 34 = .ok (.iload_n 0, 1) := by decide +kernel
theorem d10_35 : decode method_2_code 35 = .ok (.bipush 90, 2) := by decide +kernel
theorem d10_37 : decode method_2_code 37 = .ok (.if_icmp .gt 5, 3) := by decide +kernel
theorem d10_40 : decode method_2_code 40 = .ok (.iconst 1, 1) := by decide +kernel
theorem d10_41 : decode method_2_code 41 = .ok (.ireturn, 1) := by decide +kernel
theorem d10_20 : decode method_2_code 20 = .ok (.iload_n 0, 1) := by decide +kernel
theorem d10_21 : decode method_2_code 21 = .ok (.bipush 57, 2) := by decide +kernel
theorem d10_23 : decode method_2_code 23 = .ok (.if_icmp .gt 5, 3) := by decide +kernel
theorem d10_26 : decode method_2_code 26 = .ok (.iconst 1, 1) := by decide +kernel
theorem d10_27 : decode method_2_code 27 = .ok (.ireturn, 1) := by decide +kernel
def icI (p1 : Int32) : Int32 := (if p1 = (95 : Int32) then (1 : Int32) else (if p1 = (45 : Int32) then (1 : Int32) else (if p1 < (48 : Int32) then (if p1 < (65 : Int32) then (if p1 < (97 : Int32) then (0 : Int32) else (if (122 : Int32) < p1 then (0 : Int32) else (1 : Int32))) else (if (90 : Int32) < p1 then (if p1 < (97 : Int32) then (0 : Int32) else (if (122 : Int32) < p1 then (0 : Int32) else (1 : Int32))) else (1 : Int32))) else (if (57 : Int32) < p1 then (if p1 < (65 : Int32) then (if p1 < (97 : Int32) then (0 : Int32) else (if (122 : Int32) < p1 then (0 : Int32) else (1 : Int32))) else (if (90 : Int32) < p1 then (if p1 < (97 : Int32) then (0 : Int32) else (if (122 : Int32) < p1 then (0 : Int32) else (1 : Int32))) else (1 : Int32))) else (1 : Int32)))))
set_option maxRecDepth 65536 in
set_option maxHeartbeats 40000000 in
theorem rmIc (l : Launch) (Z : State) (a0 : Array Value) (hw : ∀ d ∈ tables_1, d.before a0 Z = true) (ws : List Jvm.Cond) (p1 : Int32) (h0 : Heap) (n0 : Nat) (O0 : Old Z n0 h0)  :
    Con l Z (⟨"com/example/rulebridge/rulebridge/server/IdIsValidPinLaw", "idChar", "(C)Z"⟩ : MethodName) method_2_code 1 (some .boolean) ws ({ frames := 0, cells := 0, slots := 0, locals := 0 } : Room) #[(.int p1)] h0 (fun v h L => v = some (.int (icI p1)) ∧ Fr n0 L ∧ h = h0) := by
  refine own_body (plainFor_of_name pn_com_example_rulebridge_rulebridge_server_IdIsValidPinLaw) ?_
  intro p e s m below meth c s₁ hx hby hml hZ hown hnm hlk hret X0 e0
  have N0 := Fr.nil n0
  refine Go.st (T' := s₁) (f' := (mkF m 0 #[iv p1] [])) (fun _ k => castTop (by first | (simp [entryFrame, mkF, argsToLocals, Value.category]; done) | rfl) k) ?_
  refine Go.st (f' := (mkF m 1 #[iv p1] [(.int p1)])) (fun _ k => XS.iloadN X0.here hx rfl (hb hby d10_0) rfl k) ?_
  refine Go.st (f' := (mkF m 3 #[iv p1] [(.int 95), (.int p1)])) (fun _ k => XS.bipush X0.here hx rfl (hb hby d10_1) k) ?_
  by_cases cd1 : p1 = (95 : Int32)
  · refine Go.st (f' := (mkF m 12 #[iv p1] [])) (fun _ k => XS.icmpYes X0.here hx rfl (pc0 := 3) (pc' := 12) rfl (hb hby d10_3) rfl (teq cd1).1 (by decide) (by decide) k) ?_
    refine Go.st (f' := (mkF m 13 #[iv p1] [(.int 1)])) (fun _ k => XS.iconst X0.here hx rfl (hb hby d10_12) k) ?_
    refine Go.retB X0 hlk hx (t := .boolean) hret (by simp) (hb hby d10_13) e0 ?_ (by decide) (by decide)
    show (some (.int (1 : Int32)) : Option Value) = some (.int (icI p1)) ∧ _
    exact ⟨by rw [icI, if_pos cd1], N0, rfl⟩
  · refine Go.st (f' := (mkF m 6 #[iv p1] [])) (fun _ k => XS.icmpNo X0.here hx rfl (hb hby d10_3) rfl (feq cd1).1 k) ?_
    refine Go.st (f' := (mkF m 7 #[iv p1] [(.int p1)])) (fun _ k => XS.iloadN X0.here hx rfl (hb hby d10_6) rfl k) ?_
    refine Go.st (f' := (mkF m 9 #[iv p1] [(.int 45), (.int p1)])) (fun _ k => XS.bipush X0.here hx rfl (hb hby d10_7) k) ?_
    by_cases cd2 : p1 = (45 : Int32)
    · refine Go.st (f' := (mkF m 12 #[iv p1] [])) (fun _ k => XS.icmpNo X0.here hx rfl (hb hby d10_9) rfl (teq cd2).2 k) ?_
      refine Go.st (f' := (mkF m 13 #[iv p1] [(.int 1)])) (fun _ k => XS.iconst X0.here hx rfl (hb hby d10_12) k) ?_
      refine Go.retB X0 hlk hx (t := .boolean) hret (by simp) (hb hby d10_13) e0 ?_ (by decide) (by decide)
      show (some (.int (1 : Int32)) : Option Value) = some (.int (icI p1)) ∧ _
      exact ⟨by rw [icI, if_neg cd1, if_pos cd2], N0, rfl⟩
    · refine Go.st (f' := (mkF m 14 #[iv p1] [])) (fun _ k => XS.icmpYes X0.here hx rfl (pc0 := 9) (pc' := 14) rfl (hb hby d10_9) rfl (feq cd2).2 (by decide) (by decide) k) ?_
      refine Go.st (f' := (mkF m 16 #[iv p1] [(.int 48)])) (fun _ k => XS.bipush X0.here hx rfl (hb hby d10_14) k) ?_
      refine Go.st (f' := (mkF m 17 #[iv p1] [(.int p1), (.int 48)])) (fun _ k => XS.iloadN X0.here hx rfl (hb hby d10_16) rfl k) ?_
      by_cases cd3 : p1 < (48 : Int32)
      · refine Go.st (f' := (mkF m 28 #[iv p1] [])) (fun _ k => XS.icmpYes X0.here hx rfl (pc0 := 17) (pc' := 28) rfl (hb hby d10_17) rfl (tlt cd3).2.2.1 (by decide) (by decide) k) ?_
        refine Go.st (f' := (mkF m 30 #[iv p1] [(.int 65)])) (fun _ k => XS.bipush X0.here hx rfl (hb hby d10_28) k) ?_
        refine Go.st (f' := (mkF m 31 #[iv p1] [(.int p1), (.int 65)])) (fun _ k => XS.iloadN X0.here hx rfl (hb hby d10_30) rfl k) ?_
        by_cases cd4 : p1 < (65 : Int32)
        · refine Go.st (f' := (mkF m 42 #[iv p1] [])) (fun _ k => XS.icmpYes X0.here hx rfl (pc0 := 31) (pc' := 42) rfl (hb hby d10_31) rfl (tlt cd4).2.2.1 (by decide) (by decide) k) ?_
          refine Go.st (f' := (mkF m 44 #[iv p1] [(.int 97)])) (fun _ k => XS.bipush X0.here hx rfl (hb hby d10_42) k) ?_
          refine Go.st (f' := (mkF m 45 #[iv p1] [(.int p1), (.int 97)])) (fun _ k => XS.iloadN X0.here hx rfl (hb hby d10_44) rfl k) ?_
          by_cases cd5 : p1 < (97 : Int32)
          · refine Go.st (f' := (mkF m 58 #[iv p1] [])) (fun _ k => XS.icmpYes X0.here hx rfl (pc0 := 45) (pc' := 58) rfl (hb hby d10_45) rfl (tlt cd5).2.2.1 (by decide) (by decide) k) ?_
            refine Go.st (f' := (mkF m 59 #[iv p1] [(.int 0)])) (fun _ k => XS.iconst X0.here hx rfl (hb hby d10_58) k) ?_
            refine Go.retB X0 hlk hx (t := .boolean) hret (by simp) (hb hby d10_59) e0 ?_ (by decide) (by decide)
            show (some (.int (0 : Int32)) : Option Value) = some (.int (icI p1)) ∧ _
            exact ⟨by rw [icI, if_neg cd1, if_neg cd2, if_pos cd3, if_pos cd4, if_pos cd5], N0, rfl⟩
          · refine Go.st (f' := (mkF m 48 #[iv p1] [])) (fun _ k => XS.icmpNo X0.here hx rfl (hb hby d10_45) rfl (flt cd5).2.2.1 k) ?_
            refine Go.st (f' := (mkF m 49 #[iv p1] [(.int p1)])) (fun _ k => XS.iloadN X0.here hx rfl (hb hby d10_48) rfl k) ?_
            refine Go.st (f' := (mkF m 51 #[iv p1] [(.int 122), (.int p1)])) (fun _ k => XS.bipush X0.here hx rfl (hb hby d10_49) k) ?_
            by_cases cd6 : (122 : Int32) < p1
            · refine Go.st (f' := (mkF m 58 #[iv p1] [])) (fun _ k => XS.icmpYes X0.here hx rfl (pc0 := 51) (pc' := 58) rfl (hb hby d10_51) rfl (tlt cd6).2.2.1 (by decide) (by decide) k) ?_
              refine Go.st (f' := (mkF m 59 #[iv p1] [(.int 0)])) (fun _ k => XS.iconst X0.here hx rfl (hb hby d10_58) k) ?_
              refine Go.retB X0 hlk hx (t := .boolean) hret (by simp) (hb hby d10_59) e0 ?_ (by decide) (by decide)
              show (some (.int (0 : Int32)) : Option Value) = some (.int (icI p1)) ∧ _
              exact ⟨by rw [icI, if_neg cd1, if_neg cd2, if_pos cd3, if_pos cd4, if_neg cd5, if_pos cd6], N0, rfl⟩
            · refine Go.st (f' := (mkF m 54 #[iv p1] [])) (fun _ k => XS.icmpNo X0.here hx rfl (hb hby d10_51) rfl (flt cd6).2.2.1 k) ?_
              refine Go.st (f' := (mkF m 55 #[iv p1] [(.int 1)])) (fun _ k => XS.iconst X0.here hx rfl (hb hby d10_54) k) ?_
              refine Go.st (f' := (mkF m 59 #[iv p1] [(.int 1)])) (fun _ k => XS.goto X0.here hx rfl (pc0 := 55) (pc' := 59) rfl (hb hby d10_55) (by decide) (by decide) k) ?_
              refine Go.retB X0 hlk hx (t := .boolean) hret (by simp) (hb hby d10_59) e0 ?_ (by decide) (by decide)
              show (some (.int (1 : Int32)) : Option Value) = some (.int (icI p1)) ∧ _
              exact ⟨by rw [icI, if_neg cd1, if_neg cd2, if_pos cd3, if_pos cd4, if_neg cd5, if_neg cd6], N0, rfl⟩
        · refine Go.st (f' := (mkF m 34 #[iv p1] [])) (fun _ k => XS.icmpNo X0.here hx rfl (hb hby d10_31) rfl (flt cd4).2.2.1 k) ?_
          refine Go.st (f' := (mkF m 35 #[iv p1] [(.int p1)])) (fun _ k => XS.iloadN X0.here hx rfl (hb hby d10_34) rfl k) ?_
          refine Go.st (f' := (mkF m 37 #[iv p1] [(.int 90), (.int p1)])) (fun _ k => XS.bipush X0.here hx rfl (hb hby d10_35) k) ?_
          by_cases cd7 : (90 : Int32) < p1
          · refine Go.st (f' := (mkF m 42 #[iv p1] [])) (fun _ k => XS.icmpYes X0.here hx rfl (pc0 := 37) (pc' := 42) rfl (hb hby d10_37) rfl (tlt cd7).2.2.1 (by decide) (by decide) k) ?_
            refine Go.st (f' := (mkF m 44 #[iv p1] [(.int 97)])) (fun _ k => XS.bipush X0.here hx rfl (hb hby d10_42) k) ?_
            refine Go.st (f' := (mkF m 45 #[iv p1] [(.int p1), (.int 97)])) (fun _ k => XS.iloadN X0.here hx rfl (hb hby d10_44) rfl k) ?_
            by_cases cd8 : p1 < (97 : Int32)
            · refine Go.st (f' := (mkF m 58 #[iv p1] [])) (fun _ k => XS.icmpYes X0.here hx rfl (pc0 := 45) (pc' := 58) rfl (hb hby d10_45) rfl (tlt cd8).2.2.1 (by decide) (by decide) k) ?_
              refine Go.st (f' := (mkF m 59 #[iv p1] [(.int 0)])) (fun _ k => XS.iconst X0.here hx rfl (hb hby d10_58) k) ?_
              refine Go.retB X0 hlk hx (t := .boolean) hret (by simp) (hb hby d10_59) e0 ?_ (by decide) (by decide)
              show (some (.int (0 : Int32)) : Option Value) = some (.int (icI p1)) ∧ _
              exact ⟨by rw [icI, if_neg cd1, if_neg cd2, if_pos cd3, if_neg cd4, if_pos cd7, if_pos cd8], N0, rfl⟩
            · refine Go.st (f' := (mkF m 48 #[iv p1] [])) (fun _ k => XS.icmpNo X0.here hx rfl (hb hby d10_45) rfl (flt cd8).2.2.1 k) ?_
              refine Go.st (f' := (mkF m 49 #[iv p1] [(.int p1)])) (fun _ k => XS.iloadN X0.here hx rfl (hb hby d10_48) rfl k) ?_
              refine Go.st (f' := (mkF m 51 #[iv p1] [(.int 122), (.int p1)])) (fun _ k => XS.bipush X0.here hx rfl (hb hby d10_49) k) ?_
              by_cases cd9 : (122 : Int32) < p1
              · refine Go.st (f' := (mkF m 58 #[iv p1] [])) (fun _ k => XS.icmpYes X0.here hx rfl (pc0 := 51) (pc' := 58) rfl (hb hby d10_51) rfl (tlt cd9).2.2.1 (by decide) (by decide) k) ?_
                refine Go.st (f' := (mkF m 59 #[iv p1] [(.int 0)])) (fun _ k => XS.iconst X0.here hx rfl (hb hby d10_58) k) ?_
                refine Go.retB X0 hlk hx (t := .boolean) hret (by simp) (hb hby d10_59) e0 ?_ (by decide) (by decide)
                show (some (.int (0 : Int32)) : Option Value) = some (.int (icI p1)) ∧ _
                exact ⟨by rw [icI, if_neg cd1, if_neg cd2, if_pos cd3, if_neg cd4, if_pos cd7, if_neg cd8, if_pos cd9], N0, rfl⟩
              · refine Go.st (f' := (mkF m 54 #[iv p1] [])) (fun _ k => XS.icmpNo X0.here hx rfl (hb hby d10_51) rfl (flt cd9).2.2.1 k) ?_
                refine Go.st (f' := (mkF m 55 #[iv p1] [(.int 1)])) (fun _ k => XS.iconst X0.here hx rfl (hb hby d10_54) k) ?_
                refine Go.st (f' := (mkF m 59 #[iv p1] [(.int 1)])) (fun _ k => XS.goto X0.here hx rfl (pc0 := 55) (pc' := 59) rfl (hb hby d10_55) (by decide) (by decide) k) ?_
                refine Go.retB X0 hlk hx (t := .boolean) hret (by simp) (hb hby d10_59) e0 ?_ (by decide) (by decide)
                show (some (.int (1 : Int32)) : Option Value) = some (.int (icI p1)) ∧ _
                exact ⟨by rw [icI, if_neg cd1, if_neg cd2, if_pos cd3, if_neg cd4, if_pos cd7, if_neg cd8, if_neg cd9], N0, rfl⟩
          · refine Go.st (f' := (mkF m 40 #[iv p1] [])) (fun _ k => XS.icmpNo X0.here hx rfl (hb hby d10_37) rfl (flt cd7).2.2.1 k) ?_
            refine Go.st (f' := (mkF m 41 #[iv p1] [(.int 1)])) (fun _ k => XS.iconst X0.here hx rfl (hb hby d10_40) k) ?_
            refine Go.retB X0 hlk hx (t := .boolean) hret (by simp) (hb hby d10_41) e0 ?_ (by decide) (by decide)
            show (some (.int (1 : Int32)) : Option Value) = some (.int (icI p1)) ∧ _
            exact ⟨by rw [icI, if_neg cd1, if_neg cd2, if_pos cd3, if_neg cd4, if_neg cd7], N0, rfl⟩
      · refine Go.st (f' := (mkF m 20 #[iv p1] [])) (fun _ k => XS.icmpNo X0.here hx rfl (hb hby d10_17) rfl (flt cd3).2.2.1 k) ?_
        refine Go.st (f' := (mkF m 21 #[iv p1] [(.int p1)])) (fun _ k => XS.iloadN X0.here hx rfl (hb hby d10_20) rfl k) ?_
        refine Go.st (f' := (mkF m 23 #[iv p1] [(.int 57), (.int p1)])) (fun _ k => XS.bipush X0.here hx rfl (hb hby d10_21) k) ?_
        by_cases cd10 : (57 : Int32) < p1
        · refine Go.st (f' := (mkF m 28 #[iv p1] [])) (fun _ k => XS.icmpYes X0.here hx rfl (pc0 := 23) (pc' := 28) rfl (hb hby d10_23) rfl (tlt cd10).2.2.1 (by decide) (by decide) k) ?_
          refine Go.st (f' := (mkF m 30 #[iv p1] [(.int 65)])) (fun _ k => XS.bipush X0.here hx rfl (hb hby d10_28) k) ?_
          refine Go.st (f' := (mkF m 31 #[iv p1] [(.int p1), (.int 65)])) (fun _ k => XS.iloadN X0.here hx rfl (hb hby d10_30) rfl k) ?_
          by_cases cd11 : p1 < (65 : Int32)
          · refine Go.st (f' := (mkF m 42 #[iv p1] [])) (fun _ k => XS.icmpYes X0.here hx rfl (pc0 := 31) (pc' := 42) rfl (hb hby d10_31) rfl (tlt cd11).2.2.1 (by decide) (by decide) k) ?_
            refine Go.st (f' := (mkF m 44 #[iv p1] [(.int 97)])) (fun _ k => XS.bipush X0.here hx rfl (hb hby d10_42) k) ?_
            refine Go.st (f' := (mkF m 45 #[iv p1] [(.int p1), (.int 97)])) (fun _ k => XS.iloadN X0.here hx rfl (hb hby d10_44) rfl k) ?_
            by_cases cd12 : p1 < (97 : Int32)
            · refine Go.st (f' := (mkF m 58 #[iv p1] [])) (fun _ k => XS.icmpYes X0.here hx rfl (pc0 := 45) (pc' := 58) rfl (hb hby d10_45) rfl (tlt cd12).2.2.1 (by decide) (by decide) k) ?_
              refine Go.st (f' := (mkF m 59 #[iv p1] [(.int 0)])) (fun _ k => XS.iconst X0.here hx rfl (hb hby d10_58) k) ?_
              refine Go.retB X0 hlk hx (t := .boolean) hret (by simp) (hb hby d10_59) e0 ?_ (by decide) (by decide)
              show (some (.int (0 : Int32)) : Option Value) = some (.int (icI p1)) ∧ _
              exact ⟨by rw [icI, if_neg cd1, if_neg cd2, if_neg cd3, if_pos cd10, if_pos cd11, if_pos cd12], N0, rfl⟩
            · refine Go.st (f' := (mkF m 48 #[iv p1] [])) (fun _ k => XS.icmpNo X0.here hx rfl (hb hby d10_45) rfl (flt cd12).2.2.1 k) ?_
              refine Go.st (f' := (mkF m 49 #[iv p1] [(.int p1)])) (fun _ k => XS.iloadN X0.here hx rfl (hb hby d10_48) rfl k) ?_
              refine Go.st (f' := (mkF m 51 #[iv p1] [(.int 122), (.int p1)])) (fun _ k => XS.bipush X0.here hx rfl (hb hby d10_49) k) ?_
              by_cases cd13 : (122 : Int32) < p1
              · refine Go.st (f' := (mkF m 58 #[iv p1] [])) (fun _ k => XS.icmpYes X0.here hx rfl (pc0 := 51) (pc' := 58) rfl (hb hby d10_51) rfl (tlt cd13).2.2.1 (by decide) (by decide) k) ?_
                refine Go.st (f' := (mkF m 59 #[iv p1] [(.int 0)])) (fun _ k => XS.iconst X0.here hx rfl (hb hby d10_58) k) ?_
                refine Go.retB X0 hlk hx (t := .boolean) hret (by simp) (hb hby d10_59) e0 ?_ (by decide) (by decide)
                show (some (.int (0 : Int32)) : Option Value) = some (.int (icI p1)) ∧ _
                exact ⟨by rw [icI, if_neg cd1, if_neg cd2, if_neg cd3, if_pos cd10, if_pos cd11, if_neg cd12, if_pos cd13], N0, rfl⟩
              · refine Go.st (f' := (mkF m 54 #[iv p1] [])) (fun _ k => XS.icmpNo X0.here hx rfl (hb hby d10_51) rfl (flt cd13).2.2.1 k) ?_
                refine Go.st (f' := (mkF m 55 #[iv p1] [(.int 1)])) (fun _ k => XS.iconst X0.here hx rfl (hb hby d10_54) k) ?_
                refine Go.st (f' := (mkF m 59 #[iv p1] [(.int 1)])) (fun _ k => XS.goto X0.here hx rfl (pc0 := 55) (pc' := 59) rfl (hb hby d10_55) (by decide) (by decide) k) ?_
                refine Go.retB X0 hlk hx (t := .boolean) hret (by simp) (hb hby d10_59) e0 ?_ (by decide) (by decide)
                show (some (.int (1 : Int32)) : Option Value) = some (.int (icI p1)) ∧ _
                exact ⟨by rw [icI, if_neg cd1, if_neg cd2, if_neg cd3, if_pos cd10, if_pos cd11, if_neg cd12, if_neg cd13], N0, rfl⟩
          · refine Go.st (f' := (mkF m 34 #[iv p1] [])) (fun _ k => XS.icmpNo X0.here hx rfl (hb hby d10_31) rfl (flt cd11).2.2.1 k) ?_
            refine Go.st (f' := (mkF m 35 #[iv p1] [(.int p1)])) (fun _ k => XS.iloadN X0.here hx rfl (hb hby d10_34) rfl k) ?_
            refine Go.st (f' := (mkF m 37 #[iv p1] [(.int 90), (.int p1)])) (fun _ k => XS.bipush X0.here hx rfl (hb hby d10_35) k) ?_
            by_cases cd14 : (90 : Int32) < p1
            · refine Go.st (f' := (mkF m 42 #[iv p1] [])) (fun _ k => XS.icmpYes X0.here hx rfl (pc0 := 37) (pc' := 42) rfl (hb hby d10_37) rfl (tlt cd14).2.2.1 (by decide) (by decide) k) ?_
              refine Go.st (f' := (mkF m 44 #[iv p1] [(.int 97)])) (fun _ k => XS.bipush X0.here hx rfl (hb hby d10_42) k) ?_
              refine Go.st (f' := (mkF m 45 #[iv p1] [(.int p1), (.int 97)])) (fun _ k => XS.iloadN X0.here hx rfl (hb hby d10_44) rfl k) ?_
              by_cases cd15 : p1 < (97 : Int32)
              · refine Go.st (f' := (mkF m 58 #[iv p1] [])) (fun _ k => XS.icmpYes X0.here hx rfl (pc0 := 45) (pc' := 58) rfl (hb hby d10_45) rfl (tlt cd15).2.2.1 (by decide) (by decide) k) ?_
                refine Go.st (f' := (mkF m 59 #[iv p1] [(.int 0)])) (fun _ k => XS.iconst X0.here hx rfl (hb hby d10_58) k) ?_
                refine Go.retB X0 hlk hx (t := .boolean) hret (by simp) (hb hby d10_59) e0 ?_ (by decide) (by decide)
                show (some (.int (0 : Int32)) : Option Value) = some (.int (icI p1)) ∧ _
                exact ⟨by rw [icI, if_neg cd1, if_neg cd2, if_neg cd3, if_pos cd10, if_neg cd11, if_pos cd14, if_pos cd15], N0, rfl⟩
              · refine Go.st (f' := (mkF m 48 #[iv p1] [])) (fun _ k => XS.icmpNo X0.here hx rfl (hb hby d10_45) rfl (flt cd15).2.2.1 k) ?_
                refine Go.st (f' := (mkF m 49 #[iv p1] [(.int p1)])) (fun _ k => XS.iloadN X0.here hx rfl (hb hby d10_48) rfl k) ?_
                refine Go.st (f' := (mkF m 51 #[iv p1] [(.int 122), (.int p1)])) (fun _ k => XS.bipush X0.here hx rfl (hb hby d10_49) k) ?_
                by_cases cd16 : (122 : Int32) < p1
                · refine Go.st (f' := (mkF m 58 #[iv p1] [])) (fun _ k => XS.icmpYes X0.here hx rfl (pc0 := 51) (pc' := 58) rfl (hb hby d10_51) rfl (tlt cd16).2.2.1 (by decide) (by decide) k) ?_
                  refine Go.st (f' := (mkF m 59 #[iv p1] [(.int 0)])) (fun _ k => XS.iconst X0.here hx rfl (hb hby d10_58) k) ?_
                  refine Go.retB X0 hlk hx (t := .boolean) hret (by simp) (hb hby d10_59) e0 ?_ (by decide) (by decide)
                  show (some (.int (0 : Int32)) : Option Value) = some (.int (icI p1)) ∧ _
                  exact ⟨by rw [icI, if_neg cd1, if_neg cd2, if_neg cd3, if_pos cd10, if_neg cd11, if_pos cd14, if_neg cd15, if_pos cd16], N0, rfl⟩
                · refine Go.st (f' := (mkF m 54 #[iv p1] [])) (fun _ k => XS.icmpNo X0.here hx rfl (hb hby d10_51) rfl (flt cd16).2.2.1 k) ?_
                  refine Go.st (f' := (mkF m 55 #[iv p1] [(.int 1)])) (fun _ k => XS.iconst X0.here hx rfl (hb hby d10_54) k) ?_
                  refine Go.st (f' := (mkF m 59 #[iv p1] [(.int 1)])) (fun _ k => XS.goto X0.here hx rfl (pc0 := 55) (pc' := 59) rfl (hb hby d10_55) (by decide) (by decide) k) ?_
                  refine Go.retB X0 hlk hx (t := .boolean) hret (by simp) (hb hby d10_59) e0 ?_ (by decide) (by decide)
                  show (some (.int (1 : Int32)) : Option Value) = some (.int (icI p1)) ∧ _
                  exact ⟨by rw [icI, if_neg cd1, if_neg cd2, if_neg cd3, if_pos cd10, if_neg cd11, if_pos cd14, if_neg cd15, if_neg cd16], N0, rfl⟩
            · refine Go.st (f' := (mkF m 40 #[iv p1] [])) (fun _ k => XS.icmpNo X0.here hx rfl (hb hby d10_37) rfl (flt cd14).2.2.1 k) ?_
              refine Go.st (f' := (mkF m 41 #[iv p1] [(.int 1)])) (fun _ k => XS.iconst X0.here hx rfl (hb hby d10_40) k) ?_
              refine Go.retB X0 hlk hx (t := .boolean) hret (by simp) (hb hby d10_41) e0 ?_ (by decide) (by decide)
              show (some (.int (1 : Int32)) : Option Value) = some (.int (icI p1)) ∧ _
              exact ⟨by rw [icI, if_neg cd1, if_neg cd2, if_neg cd3, if_pos cd10, if_neg cd11, if_neg cd14], N0, rfl⟩
        · refine Go.st (f' := (mkF m 26 #[iv p1] [])) (fun _ k => XS.icmpNo X0.here hx rfl (hb hby d10_23) rfl (flt cd10).2.2.1 k) ?_
          refine Go.st (f' := (mkF m 27 #[iv p1] [(.int 1)])) (fun _ k => XS.iconst X0.here hx rfl (hb hby d10_26) k) ?_
          refine Go.retB X0 hlk hx (t := .boolean) hret (by simp) (hb hby d10_27) e0 ?_ (by decide) (by decide)
          show (some (.int (1 : Int32)) : Option Value) = some (.int (icI p1)) ∧ _
          exact ⟨by rw [icI, if_neg cd1, if_neg cd2, if_neg cd3, if_neg cd10], N0, rfl⟩
theorem ic_id (c : Int32) : icI c = idI c := by
  have e : (95 : Int32).toInt = 95 ∧ (45 : Int32).toInt = 45 ∧ (48 : Int32).toInt = 48 ∧ (57 : Int32).toInt = 57 ∧ (65 : Int32).toInt = 65 ∧ (90 : Int32).toInt = 90 ∧ (97 : Int32).toInt = 97 ∧ (122 : Int32).toInt = 122 := by decide
  unfold icI idI
  simp only [Int32.lt_iff_toInt_lt, ← Int32.toInt_inj, e]
  generalize c.toInt = k
  clear e
  repeat' split
  all_goals first | rfl | (exfalso; omega)
def okV : Value → Bool
  | .int x => decide (idI (caL x) = 1)
  | _ => false
theorem own_all {es : List Value} (h : es.all okV = true) (hl : es.length = 64) : ∀ j : Int32, ¬ j < (0 : Int32) → j < (64 : Int32) → ∃ x : Int32, es.getD j.toNatClampNeg (.int (0 : Int32)) = .int x ∧ idI (caL x) = (1 : Int32) := fun j h0 h1 => by
  rw [Int32.lt_iff_toInt_lt] at h0 h1
  have e0 : (0 : Int32).toInt = 0 := by decide
  have e64 : (64 : Int32).toInt = 64 := by decide
  have hk : j.toNatClampNeg < es.length := by simp only [Int32.toNatClampNeg]; omega
  have hg : es.getD j.toNatClampNeg (.int (0 : Int32)) = es[j.toNatClampNeg] := by simp [List.getD, hk]
  have ho := List.all_eq_true.mp h _ (List.getElem_mem hk)
  rw [hg]
  generalize es[j.toNatClampNeg] = v at ho
  cases v with
  | int x => exact ⟨x, rfl, of_decide_eq_true ho⟩
  | _ => cases ho
theorem d4_0 : decode prog_36_method_2_code 0 = .ok (.aload_n 0, 1) := by decide +kernel
theorem d4_1 : decode prog_36_method_2_code 1 = .ok (.invokevirtual 38, 3) := by decide +kernel
theorem pd___I : parseMethodDescriptor "()I" = some ⟨[], some .int⟩ := by decide +kernel
theorem d4_4 : decode prog_36_method_2_code 4 = .ok (.istore_n 1, 1) := by decide +kernel
theorem d4_5 : decode prog_36_method_2_code 5 = .ok (.iload_n 1, 1) := by decide +kernel
theorem d4_6 : decode prog_36_method_2_code 6 = .ok (.ifCond .eq 9, 3) := by decide +kernel
theorem d4_15 : decode prog_36_method_2_code 15 = .ok (.iconst 0, 1) := by decide +kernel
theorem d4_16 : decode prog_36_method_2_code 16 = .ok (.ireturn, 1) := by decide +kernel
set_option maxRecDepth 65536 in
set_option maxHeartbeats 40000000 in
theorem va_0 (l : Launch) (Z : State) (a0 : Array Value) (hw : ∀ d ∈ tables_1, d.before a0 Z = true) (ws : List Jvm.Cond) (a1 : Addr) (t1 : Addr) (k1 : ClassId) (es : List Value) (i_COMPACT_STRINGS : Int32) (v_SIOOBE_FORMATTER : Value) (h0 : Heap) (n0 : Nat) (O0 : Old Z n0 h0) (E_a1 : Exa Z h0 a1 "java/lang/String") (F_a1_coder : Fld Z h0 a1 "java/lang/String" "coder" "B" (.int 0)) (F_a1_value : Fld Z h0 a1 "java/lang/String" "value" "[B" (.ref t1)) (V_t1 : Arv Z h0 t1 k1 .byte (0 : Int32) es (.int 0)) (WW : World1 Z i_COMPACT_STRINGS v_SIOOBE_FORMATTER) :
    Con l Z (⟨"com/example/rulebridge/rulebridge/server/Id", "isValid", "(Ljava/lang/String;)Z"⟩ : MethodName) prog_36_method_2_code 3 (some .boolean) ws ({ frames := 2, cells := 0, slots := 0, locals := 25 } : Room) #[(.ref a1)] h0 (fun v h L => v = some (.int 0) ∧ Fr n0 L ∧ h = h0) := by
  refine own_body (plainFor_of_name pn_com_example_rulebridge_rulebridge_server_Id) ?_
  intro p e s m below meth c s₁ hx hby hml hZ hown hnm hlk hret X0 e0
  have N0 := Fr.nil n0
  refine Go.st (T' := s₁) (f' := (mkF m 0 #[rv a1, .unset, .unset] [])) (fun _ k => castTop (by first | (simp [entryFrame, mkF, argsToLocals, Value.category]; done) | rfl) k) ?_
  have ⟨S_i_COMPACT_STRINGS, nz_i_COMPACT_STRINGS, S_v_SIOOBE_FORMATTER, r_v_SIOOBE_FORMATTER, S_i__assertionsDisabled, S_i_HI_BYTE_SHIFT, S_i_LO_BYTE_SHIFT⟩ := WW
  have lt_a1 := E_a1.lt
  have lt_t1 := V_t1.lt
  refine Go.st (f' := (mkF m 1 #[rv a1, .unset, .unset] [(.ref a1)])) (fun _ k => XS.aloadN X0.here hx rfl (hb hby d4_0) rfl rfl k) ?_
  obtain ⟨cq1, kq1, q1a, q1b, q1c⟩ := isOf hZ e0 E_a1
  obtain ⟨_, _, ⟨T1, L1, kk1, nn1⟩, -, X1, ⟨Lc1, hQ1, lq1, yq1, zz1⟩, st1⟩ := X0.virtualBack hx (y := (⟨"java/lang/String", "length", "()I"⟩ : MethodName)) (z := (⟨"java/lang/String", "length", "()I"⟩ : MethodName)) hown (mvT hZ (ww hw 30 rfl)) (mvT hZ (ww hw 31 rfl)) (notFace_of_selects (args := #[]) (mvT hZ (ww hw 33 rfl))) (mvT hZ (ww hw 33 rfl)) (mvT hZ (ww hw 32 rfl)) (by decide) (own_back (W := 0) (ln_0_0 l Z a0 hw [] a1 t1 k1 es i_COMPACT_STRINGS v_SIOOBE_FORMATTER h0 n0 O0 E_a1 F_a1_coder F_a1_value V_t1 WW) hZ (ww hw 34 rfl) (ww hw 3 rfl) (by decide) (by decide)) q1a q1c (g := (mkF m 1 #[rv a1, .unset, .unset] [(.ref a1)])) rfl (by rw [hml]; rfl) (Steps.refl _) (argsL := []) (rest := []) (lenOf pd___I rfl) rfl (by show 2 * 0 + _ ≤ _; exact Nat.le_of_eq rfl) (hb hby d4_1) (fun _ _ => ⟨rfl, e0, (by decide : 0 + 0 ≤ _), (by decide : 0 + 0 ≤ _)⟩)
  dsimp only [Pt.U, Pt.locs, Pt.cells, Pt.slots] at X1 lq1 yq1 zz1 st1 hQ1
  subst lq1 yq1 zz1
  obtain ⟨rfl, Nq1, kq1⟩ := hQ1
  have N1 := Fr.app N0 Nq1
  refine Go.tr (f' := (mkF m 4 #[rv a1, .unset, .unset] [(.int 0)])) st1 ?_
  refine Go.st (f' := (mkF m 5 #[rv a1, iv 0, .unset] [])) (fun _ k => XS.istoreN X1.here hx rfl (hb hby d4_4) rfl (l' := #[rv a1, iv 0, .unset]) rfl k) ?_
  refine Go.st (f' := (mkF m 6 #[rv a1, iv 0, .unset] [(.int 0)])) (fun _ k => XS.iloadN X1.here hx rfl (hb hby d4_5) rfl k) ?_
  refine Go.st (f' := (mkF m 15 #[rv a1, iv 0, .unset] [])) (fun _ k => XS.ifYes X1.here hx rfl (pc0 := 6) (pc' := 15) rfl (hb hby d4_6) rfl (by decide) (by decide) (by decide) k) ?_
  refine Go.st (f' := (mkF m 16 #[rv a1, iv 0, .unset] [(.int 0)])) (fun _ k => XS.iconst X1.here hx rfl (hb hby d4_15) k) ?_
  refine Go.retB X1 hlk hx (t := .boolean) hret (by simp) (hb hby d4_16) kq1 ?_ (by decide) (by decide)
  exact ⟨rfl, N1, rfl⟩
theorem d4_9 : decode prog_36_method_2_code 9 = .ok (.iload_n 1, 1) := by decide +kernel
theorem d4_10 : decode prog_36_method_2_code 10 = .ok (.bipush 64, 2) := by decide +kernel
theorem d4_12 : decode prog_36_method_2_code 12 = .ok (.if_icmp .le 5, 3) := by decide +kernel
set_option maxRecDepth 65536 in
set_option maxHeartbeats 40000000 in
theorem va_65 (l : Launch) (Z : State) (a0 : Array Value) (hw : ∀ d ∈ tables_1, d.before a0 Z = true) (ws : List Jvm.Cond) (a1 : Addr) (t1 : Addr) (k1 : ClassId) (es : List Value) (i_COMPACT_STRINGS : Int32) (v_SIOOBE_FORMATTER : Value) (h0 : Heap) (n0 : Nat) (O0 : Old Z n0 h0) (E_a1 : Exa Z h0 a1 "java/lang/String") (F_a1_coder : Fld Z h0 a1 "java/lang/String" "coder" "B" (.int 0)) (F_a1_value : Fld Z h0 a1 "java/lang/String" "value" "[B" (.ref t1)) (V_t1 : Arv Z h0 t1 k1 .byte (65 : Int32) es (.int 0)) (WW : World1 Z i_COMPACT_STRINGS v_SIOOBE_FORMATTER) :
    Con l Z (⟨"com/example/rulebridge/rulebridge/server/Id", "isValid", "(Ljava/lang/String;)Z"⟩ : MethodName) prog_36_method_2_code 3 (some .boolean) ws ({ frames := 2, cells := 0, slots := 0, locals := 25 } : Room) #[(.ref a1)] h0 (fun v h L => v = some (.int 0) ∧ Fr n0 L ∧ h = h0) := by
  refine own_body (plainFor_of_name pn_com_example_rulebridge_rulebridge_server_Id) ?_
  intro p e s m below meth c s₁ hx hby hml hZ hown hnm hlk hret X0 e0
  have N0 := Fr.nil n0
  refine Go.st (T' := s₁) (f' := (mkF m 0 #[rv a1, .unset, .unset] [])) (fun _ k => castTop (by first | (simp [entryFrame, mkF, argsToLocals, Value.category]; done) | rfl) k) ?_
  have ⟨S_i_COMPACT_STRINGS, nz_i_COMPACT_STRINGS, S_v_SIOOBE_FORMATTER, r_v_SIOOBE_FORMATTER, S_i__assertionsDisabled, S_i_HI_BYTE_SHIFT, S_i_LO_BYTE_SHIFT⟩ := WW
  have lt_a1 := E_a1.lt
  have lt_t1 := V_t1.lt
  refine Go.st (f' := (mkF m 1 #[rv a1, .unset, .unset] [(.ref a1)])) (fun _ k => XS.aloadN X0.here hx rfl (hb hby d4_0) rfl rfl k) ?_
  obtain ⟨cq1, kq1, q1a, q1b, q1c⟩ := isOf hZ e0 E_a1
  obtain ⟨_, _, ⟨T1, L1, kk1, nn1⟩, -, X1, ⟨Lc1, hQ1, lq1, yq1, zz1⟩, st1⟩ := X0.virtualBack hx (y := (⟨"java/lang/String", "length", "()I"⟩ : MethodName)) (z := (⟨"java/lang/String", "length", "()I"⟩ : MethodName)) hown (mvT hZ (ww hw 30 rfl)) (mvT hZ (ww hw 31 rfl)) (notFace_of_selects (args := #[]) (mvT hZ (ww hw 33 rfl))) (mvT hZ (ww hw 33 rfl)) (mvT hZ (ww hw 32 rfl)) (by decide) (own_back (W := 0) (ln_65_0 l Z a0 hw [] a1 t1 k1 es i_COMPACT_STRINGS v_SIOOBE_FORMATTER h0 n0 O0 E_a1 F_a1_coder F_a1_value V_t1 WW) hZ (ww hw 34 rfl) (ww hw 3 rfl) (by decide) (by decide)) q1a q1c (g := (mkF m 1 #[rv a1, .unset, .unset] [(.ref a1)])) rfl (by rw [hml]; rfl) (Steps.refl _) (argsL := []) (rest := []) (lenOf pd___I rfl) rfl (by show 2 * 0 + _ ≤ _; exact Nat.le_of_eq rfl) (hb hby d4_1) (fun _ _ => ⟨rfl, e0, (by decide : 0 + 0 ≤ _), (by decide : 0 + 0 ≤ _)⟩)
  dsimp only [Pt.U, Pt.locs, Pt.cells, Pt.slots] at X1 lq1 yq1 zz1 st1 hQ1
  subst lq1 yq1 zz1
  obtain ⟨rfl, Nq1, kq1⟩ := hQ1
  have N1 := Fr.app N0 Nq1
  refine Go.tr (f' := (mkF m 4 #[rv a1, .unset, .unset] [(.int 65)])) st1 ?_
  refine Go.st (f' := (mkF m 5 #[rv a1, iv 65, .unset] [])) (fun _ k => XS.istoreN X1.here hx rfl (hb hby d4_4) rfl (l' := #[rv a1, iv 65, .unset]) rfl k) ?_
  refine Go.st (f' := (mkF m 6 #[rv a1, iv 65, .unset] [(.int 65)])) (fun _ k => XS.iloadN X1.here hx rfl (hb hby d4_5) rfl k) ?_
  refine Go.st (f' := (mkF m 9 #[rv a1, iv 65, .unset] [])) (fun _ k => XS.ifNo X1.here hx rfl (hb hby d4_6) rfl (by decide) k) ?_
  refine Go.st (f' := (mkF m 10 #[rv a1, iv 65, .unset] [(.int 65)])) (fun _ k => XS.iloadN X1.here hx rfl (hb hby d4_9) rfl k) ?_
  refine Go.st (f' := (mkF m 12 #[rv a1, iv 65, .unset] [(.int 64), (.int 65)])) (fun _ k => XS.bipush X1.here hx rfl (hb hby d4_10) k) ?_
  refine Go.st (f' := (mkF m 15 #[rv a1, iv 65, .unset] [])) (fun _ k => XS.icmpNo X1.here hx rfl (hb hby d4_12) rfl (by decide) k) ?_
  refine Go.st (f' := (mkF m 16 #[rv a1, iv 65, .unset] [(.int 0)])) (fun _ k => XS.iconst X1.here hx rfl (hb hby d4_15) k) ?_
  refine Go.retB X1 hlk hx (t := .boolean) hret (by simp) (hb hby d4_16) kq1 ?_ (by decide) (by decide)
  exact ⟨rfl, N1, rfl⟩
theorem d4_17 : decode prog_36_method_2_code 17 = .ok (.iconst 0, 1) := by decide +kernel
theorem d4_18 : decode prog_36_method_2_code 18 = .ok (.istore_n 2, 1) := by decide +kernel
theorem d4_19 : decode prog_36_method_2_code 19 = .ok (.iload_n 2, 1) := by decide +kernel
theorem d4_20 : decode prog_36_method_2_code 20 = .ok (.iload_n 1, 1) := by decide +kernel
theorem d4_21 : decode prog_36_method_2_code 21 = .ok (.if_icmp .ge 22, 3) := by decide +kernel
theorem d4_24 : decode prog_36_method_2_code 24 = .ok (.aload_n 0, 1) := by decide +kernel
theorem d4_25 : decode prog_36_method_2_code 25 = .ok (.iload_n 2, 1) := by decide +kernel
theorem d4_26 : decode prog_36_method_2_code 26 = .ok (.invokevirtual 44, 3) := by decide +kernel
theorem pd__I_C : parseMethodDescriptor "(I)C" = some ⟨[.int], some .char⟩ := by decide +kernel
theorem d4_29 : decode prog_36_method_2_code 29 = .ok (.invokestatic 48, 3) := by decide +kernel
theorem pd__C_Z : parseMethodDescriptor "(C)Z" = some ⟨[.char], some .boolean⟩ := by decide +kernel
theorem d4_32 : decode prog_36_method_2_code 32 = .ok (.ifCond .ne 5, 3) := by decide +kernel
theorem d4_35 : decode prog_36_method_2_code 35 = .ok (.iconst 0, 1) := by decide +kernel
theorem d4_36 : decode prog_36_method_2_code 36 = .ok (.ireturn, 1) := by decide +kernel
theorem d4_37 : decode prog_36_method_2_code 37 = .ok (.iinc 2 1, 3) := by decide +kernel
theorem d4_40 : decode prog_36_method_2_code 40 = .ok (.goto (-21), 3) := by decide +kernel
theorem d4_43 : decode prog_36_method_2_code 43 = .ok (.iconst 1, 1) := by decide +kernel
theorem d4_44 : decode prog_36_method_2_code 44 = .ok (.ireturn, 1) := by decide +kernel
def vI_1 (c0 : Int32) : Int32 := (if (idI c0) = (0 : Int32) then (0 : Int32) else (1 : Int32))
set_option maxRecDepth 65536 in
set_option maxHeartbeats 40000000 in
theorem vaS_1 (l : Launch) (Z : State) (a0 : Array Value) (hw : ∀ d ∈ tables_1, d.before a0 Z = true) (ws : List Jvm.Cond) (a1 : Addr) (t1 : Addr) (k1 : ClassId) (c0 : Int32) (i_COMPACT_STRINGS : Int32) (v_SIOOBE_FORMATTER : Value) (h0 : Heap) (n0 : Nat) (O0 : Old Z n0 h0) (E_a1 : Exa Z h0 a1 "java/lang/String") (F_a1_value : Fld Z h0 a1 "java/lang/String" "value" "[B" (.ref t1)) (D_a1 : Sx1 Z h0 a1 t1 k1 c0) (hk_c0 : 0 ≤ c0.toInt ∧ c0.toInt < 65536) (WW : World1 Z i_COMPACT_STRINGS v_SIOOBE_FORMATTER) :
    Con l Z (⟨"com/example/rulebridge/rulebridge/server/Id", "isValid", "(Ljava/lang/String;)Z"⟩ : MethodName) prog_36_method_2_code 3 (some .boolean) ws ({ frames := 5, cells := 0, slots := 0, locals := 66 } : Room) #[(.ref a1)] h0 (fun v h L => v = some (.int (vI_1 c0)) ∧ Fr n0 L ∧ h = h0) := by
  refine own_body (plainFor_of_name pn_com_example_rulebridge_rulebridge_server_Id) ?_
  intro p e s m below meth c s₁ hx hby hml hZ hown hnm hlk hret X0 e0
  have N0 := Fr.nil n0
  refine Go.st (T' := s₁) (f' := (mkF m 0 #[rv a1, .unset, .unset] [])) (fun _ k => castTop (by first | (simp [entryFrame, mkF, argsToLocals, Value.category]; done) | rfl) k) ?_
  have ⟨S_i_COMPACT_STRINGS, nz_i_COMPACT_STRINGS, S_v_SIOOBE_FORMATTER, r_v_SIOOBE_FORMATTER, S_i__assertionsDisabled, S_i_HI_BYTE_SHIFT, S_i_LO_BYTE_SHIFT⟩ := WW
  refine Go.st (f' := (mkF m 1 #[rv a1, .unset, .unset] [(.ref a1)])) (fun _ k => XS.aloadN X0.here hx rfl (hb hby d4_0) rfl rfl k) ?_
  obtain ⟨cq1, kq1, q1a, q1b, q1c⟩ := isOf hZ e0 E_a1
  obtain ⟨_, _, ⟨T1, L1, kk1, nn1⟩, -, X1, ⟨Lc1, hQ1, lq1, yq1, zz1⟩, st1⟩ := X0.virtualBack hx (y := (⟨"java/lang/String", "length", "()I"⟩ : MethodName)) (z := (⟨"java/lang/String", "length", "()I"⟩ : MethodName)) hown (mvT hZ (ww hw 30 rfl)) (mvT hZ (ww hw 31 rfl)) (notFace_of_selects (args := #[]) (mvT hZ (ww hw 33 rfl))) (mvT hZ (ww hw 33 rfl)) (mvT hZ (ww hw 32 rfl)) (by decide) (own_back (W := 0) (lnS_1 l Z a0 hw [] a1 t1 k1 c0 i_COMPACT_STRINGS v_SIOOBE_FORMATTER h0 n0 O0 E_a1 F_a1_value D_a1 hk_c0 WW) hZ (ww hw 34 rfl) (ww hw 3 rfl) (by decide) (by decide)) q1a q1c (g := (mkF m 1 #[rv a1, .unset, .unset] [(.ref a1)])) rfl (by rw [hml]; rfl) (Steps.refl _) (argsL := []) (rest := []) (lenOf pd___I rfl) rfl (by show 2 * 0 + _ ≤ _; exact Nat.le_of_eq rfl) (hb hby d4_1) (fun _ _ => ⟨rfl, e0, (by decide : 0 + 0 ≤ _), (by decide : 0 + 0 ≤ _)⟩)
  dsimp only [Pt.U, Pt.locs, Pt.cells, Pt.slots] at X1 lq1 yq1 zz1 st1 hQ1
  subst lq1 yq1 zz1
  obtain ⟨rfl, Nq1, kq1⟩ := hQ1
  have N1 := Fr.app N0 Nq1
  refine Go.tr (f' := (mkF m 4 #[rv a1, .unset, .unset] [(.int 1)])) st1 ?_
  refine Go.st (f' := (mkF m 5 #[rv a1, iv 1, .unset] [])) (fun _ k => XS.istoreN X1.here hx rfl (hb hby d4_4) rfl (l' := #[rv a1, iv 1, .unset]) rfl k) ?_
  refine Go.st (f' := (mkF m 6 #[rv a1, iv 1, .unset] [(.int 1)])) (fun _ k => XS.iloadN X1.here hx rfl (hb hby d4_5) rfl k) ?_
  refine Go.st (f' := (mkF m 9 #[rv a1, iv 1, .unset] [])) (fun _ k => XS.ifNo X1.here hx rfl (hb hby d4_6) rfl (by decide) k) ?_
  refine Go.st (f' := (mkF m 10 #[rv a1, iv 1, .unset] [(.int 1)])) (fun _ k => XS.iloadN X1.here hx rfl (hb hby d4_9) rfl k) ?_
  refine Go.st (f' := (mkF m 12 #[rv a1, iv 1, .unset] [(.int 64), (.int 1)])) (fun _ k => XS.bipush X1.here hx rfl (hb hby d4_10) k) ?_
  refine Go.st (f' := (mkF m 17 #[rv a1, iv 1, .unset] [])) (fun _ k => XS.icmpYes X1.here hx rfl (pc0 := 12) (pc' := 17) rfl (hb hby d4_12) rfl (by decide) (by decide) (by decide) k) ?_
  refine Go.st (f' := (mkF m 18 #[rv a1, iv 1, .unset] [(.int 0)])) (fun _ k => XS.iconst X1.here hx rfl (hb hby d4_17) k) ?_
  refine Go.st (f' := (mkF m 19 #[rv a1, iv 1, iv 0] [])) (fun _ k => XS.istoreN X1.here hx rfl (hb hby d4_18) rfl (l' := #[rv a1, iv 1, iv 0]) rfl k) ?_
  refine Go.st (f' := (mkF m 20 #[rv a1, iv 1, iv 0] [(.int 0)])) (fun _ k => XS.iloadN X1.here hx rfl (hb hby d4_19) rfl k) ?_
  refine Go.st (f' := (mkF m 21 #[rv a1, iv 1, iv 0] [(.int 1), (.int 0)])) (fun _ k => XS.iloadN X1.here hx rfl (hb hby d4_20) rfl k) ?_
  refine Go.st (f' := (mkF m 24 #[rv a1, iv 1, iv 0] [])) (fun _ k => XS.icmpNo X1.here hx rfl (hb hby d4_21) rfl (by decide) k) ?_
  refine Go.st (f' := (mkF m 25 #[rv a1, iv 1, iv 0] [(.ref a1)])) (fun _ k => XS.aloadN X1.here hx rfl (hb hby d4_24) rfl rfl k) ?_
  refine Go.st (f' := (mkF m 26 #[rv a1, iv 1, iv 0] [(.int 0), (.ref a1)])) (fun _ k => XS.iloadN X1.here hx rfl (hb hby d4_25) rfl k) ?_
  obtain ⟨cq2, kq2, q2a, q2b, q2c⟩ := isOf hZ kq1 E_a1
  obtain ⟨_, _, ⟨T2, L2, kk2, nn2⟩, -, X2, ⟨Lc2, hQ2, lq2, yq2, zz2⟩, st2⟩ := X1.virtualBack hx (y := (⟨"java/lang/String", "charAt", "(I)C"⟩ : MethodName)) (z := (⟨"java/lang/String", "charAt", "(I)C"⟩ : MethodName)) hown (mvT hZ (ww hw 55 rfl)) (mvT hZ (ww hw 56 rfl)) (notFace_of_selects (args := #[]) (mvT hZ (ww hw 58 rfl))) (mvT hZ (ww hw 58 rfl)) (mvT hZ (ww hw 57 rfl)) (by decide) (own_back (W := 0) (caS_1_0 l Z a0 hw [] a1 t1 k1 c0 i_COMPACT_STRINGS v_SIOOBE_FORMATTER h0 n0 O0 E_a1 F_a1_value D_a1 hk_c0 WW) hZ (ww hw 59 rfl) (ww hw 3 rfl) (by decide) (by decide)) q2a q2c (g := (mkF m 26 #[rv a1, iv 1, iv 0] [(.int 0), (.ref a1)])) rfl (by rw [hml]; rfl) (Steps.refl _) (argsL := [(.int (0 : Int32))]) (rest := []) (lenOf pd__I_C rfl) rfl (by show 2 * 0 + _ ≤ _; exact Nat.le_of_eq rfl) (hb hby d4_26) (fun _ _ => ⟨rfl, kq1, (by decide : 0 + 0 ≤ _), (by decide : 0 + 0 ≤ _)⟩)
  dsimp only [Pt.U, Pt.locs, Pt.cells, Pt.slots] at X2 lq2 yq2 zz2 st2 hQ2
  subst lq2 yq2 zz2
  obtain ⟨rfl, Nq2, kq2⟩ := hQ2
  have N2 := Fr.app N1 Nq2
  refine Go.tr (f' := (mkF m 29 #[rv a1, iv 1, iv 0] [(.int c0)])) st2 ?_
  obtain ⟨_, _, ⟨T3, L3, kk3, nn3⟩, -, X3, ⟨Lc3, hQ3, lq3, yq3, zz3⟩, st3⟩ := Jvm.LawKit.callS X2 hx (y := (⟨"com/example/rulebridge/rulebridge/server/Id", "isIdCharacter", "(C)Z"⟩ : MethodName)) hown (mvT hZ (ww hw 77 rfl)) (mvT hZ (ww hw 78 rfl)) (mvT hZ (ww hw 28 rfl)) (mvT hZ (ww hw 79 rfl)) (by decide) (own_back (W := 0) (rmId l Z a0 hw [] c0 h0 n0 O0) hZ (ww hw 79 rfl) (ww hw 28 rfl) (by decide) (by decide)) (g := (mkF m 29 #[rv a1, iv 1, iv 0] [(.int c0)])) rfl (by rw [hml]; rfl) (argsL := [(.int c0)]) (rest := []) (lenOf pd__C_Z rfl) rfl (by show 2 * 0 + _ ≤ _; exact Nat.le_of_eq rfl) (hb hby d4_29) (fun _ _ => ⟨rfl, kq2, (by decide : 0 + 0 ≤ _), (by decide : 0 + 0 ≤ _)⟩)
  dsimp only [Pt.U, Pt.locs, Pt.cells, Pt.slots] at X3 lq3 yq3 zz3 st3 hQ3
  subst lq3 yq3 zz3
  obtain ⟨rfl, Nq3, kq3⟩ := hQ3
  have N3 := Fr.app N2 Nq3
  refine Go.st (f' := (mkF m 32 #[rv a1, iv 1, iv 0] [(.int (idI c0))])) (fun _ k => st3 _ k) ?_
  by_cases cd4 : (idI c0) = (0 : Int32)
  · refine Go.st (f' := (mkF m 35 #[rv a1, iv 1, iv 0] [])) (fun _ k => XS.ifNo X3.here hx rfl (hb hby d4_32) rfl ((if0 _ _).trans (teq cd4).2) k) ?_
    refine Go.st (f' := (mkF m 36 #[rv a1, iv 1, iv 0] [(.int 0)])) (fun _ k => XS.iconst X3.here hx rfl (hb hby d4_35) k) ?_
    refine Go.retB X3 hlk hx (t := .boolean) hret (by simp) (hb hby d4_36) kq3 ?_ (by decide) (by decide)
    show (some (.int (0 : Int32)) : Option Value) = some (.int (vI_1 c0)) ∧ _
    exact ⟨by rw [vI_1, if_pos cd4], N3, rfl⟩
  · refine Go.st (f' := (mkF m 37 #[rv a1, iv 1, iv 0] [])) (fun _ k => XS.ifYes X3.here hx rfl (pc0 := 32) (pc' := 37) rfl (hb hby d4_32) rfl ((if0 _ _).trans (feq cd4).2) (by decide) (by decide) k) ?_
    refine Go.st (f' := (mkF m 40 #[rv a1, iv 1, iv 1] [])) (fun _ k => XS.iinc X3.here hx rfl (hb hby d4_37) rfl (l' := #[rv a1, iv 1, iv 1]) rfl k) ?_
    refine Go.st (f' := (mkF m 19 #[rv a1, iv 1, iv 1] [])) (fun _ k => XS.goto X3.here hx rfl (pc0 := 40) (pc' := 19) rfl (hb hby d4_40) (by decide) (by decide) k) ?_
    refine Go.st (f' := (mkF m 20 #[rv a1, iv 1, iv 1] [(.int 1)])) (fun _ k => XS.iloadN X3.here hx rfl (hb hby d4_19) rfl k) ?_
    refine Go.st (f' := (mkF m 21 #[rv a1, iv 1, iv 1] [(.int 1), (.int 1)])) (fun _ k => XS.iloadN X3.here hx rfl (hb hby d4_20) rfl k) ?_
    refine Go.st (f' := (mkF m 43 #[rv a1, iv 1, iv 1] [])) (fun _ k => XS.icmpYes X3.here hx rfl (pc0 := 21) (pc' := 43) rfl (hb hby d4_21) rfl (by decide) (by decide) (by decide) k) ?_
    refine Go.st (f' := (mkF m 44 #[rv a1, iv 1, iv 1] [(.int 1)])) (fun _ k => XS.iconst X3.here hx rfl (hb hby d4_43) k) ?_
    refine Go.retB X3 hlk hx (t := .boolean) hret (by simp) (hb hby d4_44) kq3 ?_ (by decide) (by decide)
    show (some (.int (1 : Int32)) : Option Value) = some (.int (vI_1 c0)) ∧ _
    exact ⟨by rw [vI_1, if_neg cd4], N3, rfl⟩
def vI_2 (c0 : Int32) (c1 : Int32) : Int32 := (if (idI c0) = (0 : Int32) then (0 : Int32) else (if (idI c1) = (0 : Int32) then (0 : Int32) else (1 : Int32)))
set_option maxRecDepth 65536 in
set_option maxHeartbeats 40000000 in
theorem vaS_2 (l : Launch) (Z : State) (a0 : Array Value) (hw : ∀ d ∈ tables_1, d.before a0 Z = true) (ws : List Jvm.Cond) (a1 : Addr) (t1 : Addr) (k1 : ClassId) (c0 : Int32) (c1 : Int32) (i_COMPACT_STRINGS : Int32) (v_SIOOBE_FORMATTER : Value) (h0 : Heap) (n0 : Nat) (O0 : Old Z n0 h0) (E_a1 : Exa Z h0 a1 "java/lang/String") (F_a1_value : Fld Z h0 a1 "java/lang/String" "value" "[B" (.ref t1)) (D_a1 : Sx2 Z h0 a1 t1 k1 c0 c1) (hk_c0 : 0 ≤ c0.toInt ∧ c0.toInt < 65536) (hk_c1 : 0 ≤ c1.toInt ∧ c1.toInt < 65536) (WW : World1 Z i_COMPACT_STRINGS v_SIOOBE_FORMATTER) :
    Con l Z (⟨"com/example/rulebridge/rulebridge/server/Id", "isValid", "(Ljava/lang/String;)Z"⟩ : MethodName) prog_36_method_2_code 3 (some .boolean) ws ({ frames := 5, cells := 0, slots := 0, locals := 66 } : Room) #[(.ref a1)] h0 (fun v h L => v = some (.int (vI_2 c0 c1)) ∧ Fr n0 L ∧ h = h0) := by
  refine own_body (plainFor_of_name pn_com_example_rulebridge_rulebridge_server_Id) ?_
  intro p e s m below meth c s₁ hx hby hml hZ hown hnm hlk hret X0 e0
  have N0 := Fr.nil n0
  refine Go.st (T' := s₁) (f' := (mkF m 0 #[rv a1, .unset, .unset] [])) (fun _ k => castTop (by first | (simp [entryFrame, mkF, argsToLocals, Value.category]; done) | rfl) k) ?_
  have ⟨S_i_COMPACT_STRINGS, nz_i_COMPACT_STRINGS, S_v_SIOOBE_FORMATTER, r_v_SIOOBE_FORMATTER, S_i__assertionsDisabled, S_i_HI_BYTE_SHIFT, S_i_LO_BYTE_SHIFT⟩ := WW
  refine Go.st (f' := (mkF m 1 #[rv a1, .unset, .unset] [(.ref a1)])) (fun _ k => XS.aloadN X0.here hx rfl (hb hby d4_0) rfl rfl k) ?_
  obtain ⟨cq1, kq1, q1a, q1b, q1c⟩ := isOf hZ e0 E_a1
  obtain ⟨_, _, ⟨T1, L1, kk1, nn1⟩, -, X1, ⟨Lc1, hQ1, lq1, yq1, zz1⟩, st1⟩ := X0.virtualBack hx (y := (⟨"java/lang/String", "length", "()I"⟩ : MethodName)) (z := (⟨"java/lang/String", "length", "()I"⟩ : MethodName)) hown (mvT hZ (ww hw 30 rfl)) (mvT hZ (ww hw 31 rfl)) (notFace_of_selects (args := #[]) (mvT hZ (ww hw 33 rfl))) (mvT hZ (ww hw 33 rfl)) (mvT hZ (ww hw 32 rfl)) (by decide) (own_back (W := 0) (lnS_2 l Z a0 hw [] a1 t1 k1 c0 c1 i_COMPACT_STRINGS v_SIOOBE_FORMATTER h0 n0 O0 E_a1 F_a1_value D_a1 hk_c0 hk_c1 WW) hZ (ww hw 34 rfl) (ww hw 3 rfl) (by decide) (by decide)) q1a q1c (g := (mkF m 1 #[rv a1, .unset, .unset] [(.ref a1)])) rfl (by rw [hml]; rfl) (Steps.refl _) (argsL := []) (rest := []) (lenOf pd___I rfl) rfl (by show 2 * 0 + _ ≤ _; exact Nat.le_of_eq rfl) (hb hby d4_1) (fun _ _ => ⟨rfl, e0, (by decide : 0 + 0 ≤ _), (by decide : 0 + 0 ≤ _)⟩)
  dsimp only [Pt.U, Pt.locs, Pt.cells, Pt.slots] at X1 lq1 yq1 zz1 st1 hQ1
  subst lq1 yq1 zz1
  obtain ⟨rfl, Nq1, kq1⟩ := hQ1
  have N1 := Fr.app N0 Nq1
  refine Go.tr (f' := (mkF m 4 #[rv a1, .unset, .unset] [(.int 2)])) st1 ?_
  refine Go.st (f' := (mkF m 5 #[rv a1, iv 2, .unset] [])) (fun _ k => XS.istoreN X1.here hx rfl (hb hby d4_4) rfl (l' := #[rv a1, iv 2, .unset]) rfl k) ?_
  refine Go.st (f' := (mkF m 6 #[rv a1, iv 2, .unset] [(.int 2)])) (fun _ k => XS.iloadN X1.here hx rfl (hb hby d4_5) rfl k) ?_
  refine Go.st (f' := (mkF m 9 #[rv a1, iv 2, .unset] [])) (fun _ k => XS.ifNo X1.here hx rfl (hb hby d4_6) rfl (by decide) k) ?_
  refine Go.st (f' := (mkF m 10 #[rv a1, iv 2, .unset] [(.int 2)])) (fun _ k => XS.iloadN X1.here hx rfl (hb hby d4_9) rfl k) ?_
  refine Go.st (f' := (mkF m 12 #[rv a1, iv 2, .unset] [(.int 64), (.int 2)])) (fun _ k => XS.bipush X1.here hx rfl (hb hby d4_10) k) ?_
  refine Go.st (f' := (mkF m 17 #[rv a1, iv 2, .unset] [])) (fun _ k => XS.icmpYes X1.here hx rfl (pc0 := 12) (pc' := 17) rfl (hb hby d4_12) rfl (by decide) (by decide) (by decide) k) ?_
  refine Go.st (f' := (mkF m 18 #[rv a1, iv 2, .unset] [(.int 0)])) (fun _ k => XS.iconst X1.here hx rfl (hb hby d4_17) k) ?_
  refine Go.st (f' := (mkF m 19 #[rv a1, iv 2, iv 0] [])) (fun _ k => XS.istoreN X1.here hx rfl (hb hby d4_18) rfl (l' := #[rv a1, iv 2, iv 0]) rfl k) ?_
  refine Go.st (f' := (mkF m 20 #[rv a1, iv 2, iv 0] [(.int 0)])) (fun _ k => XS.iloadN X1.here hx rfl (hb hby d4_19) rfl k) ?_
  refine Go.st (f' := (mkF m 21 #[rv a1, iv 2, iv 0] [(.int 2), (.int 0)])) (fun _ k => XS.iloadN X1.here hx rfl (hb hby d4_20) rfl k) ?_
  refine Go.st (f' := (mkF m 24 #[rv a1, iv 2, iv 0] [])) (fun _ k => XS.icmpNo X1.here hx rfl (hb hby d4_21) rfl (by decide) k) ?_
  refine Go.st (f' := (mkF m 25 #[rv a1, iv 2, iv 0] [(.ref a1)])) (fun _ k => XS.aloadN X1.here hx rfl (hb hby d4_24) rfl rfl k) ?_
  refine Go.st (f' := (mkF m 26 #[rv a1, iv 2, iv 0] [(.int 0), (.ref a1)])) (fun _ k => XS.iloadN X1.here hx rfl (hb hby d4_25) rfl k) ?_
  obtain ⟨cq2, kq2, q2a, q2b, q2c⟩ := isOf hZ kq1 E_a1
  obtain ⟨_, _, ⟨T2, L2, kk2, nn2⟩, -, X2, ⟨Lc2, hQ2, lq2, yq2, zz2⟩, st2⟩ := X1.virtualBack hx (y := (⟨"java/lang/String", "charAt", "(I)C"⟩ : MethodName)) (z := (⟨"java/lang/String", "charAt", "(I)C"⟩ : MethodName)) hown (mvT hZ (ww hw 55 rfl)) (mvT hZ (ww hw 56 rfl)) (notFace_of_selects (args := #[]) (mvT hZ (ww hw 58 rfl))) (mvT hZ (ww hw 58 rfl)) (mvT hZ (ww hw 57 rfl)) (by decide) (own_back (W := 0) (caS_2_0 l Z a0 hw [] a1 t1 k1 c0 c1 i_COMPACT_STRINGS v_SIOOBE_FORMATTER h0 n0 O0 E_a1 F_a1_value D_a1 hk_c0 hk_c1 WW) hZ (ww hw 59 rfl) (ww hw 3 rfl) (by decide) (by decide)) q2a q2c (g := (mkF m 26 #[rv a1, iv 2, iv 0] [(.int 0), (.ref a1)])) rfl (by rw [hml]; rfl) (Steps.refl _) (argsL := [(.int (0 : Int32))]) (rest := []) (lenOf pd__I_C rfl) rfl (by show 2 * 0 + _ ≤ _; exact Nat.le_of_eq rfl) (hb hby d4_26) (fun _ _ => ⟨rfl, kq1, (by decide : 0 + 0 ≤ _), (by decide : 0 + 0 ≤ _)⟩)
  dsimp only [Pt.U, Pt.locs, Pt.cells, Pt.slots] at X2 lq2 yq2 zz2 st2 hQ2
  subst lq2 yq2 zz2
  obtain ⟨rfl, Nq2, kq2⟩ := hQ2
  have N2 := Fr.app N1 Nq2
  refine Go.tr (f' := (mkF m 29 #[rv a1, iv 2, iv 0] [(.int c0)])) st2 ?_
  obtain ⟨_, _, ⟨T3, L3, kk3, nn3⟩, -, X3, ⟨Lc3, hQ3, lq3, yq3, zz3⟩, st3⟩ := Jvm.LawKit.callS X2 hx (y := (⟨"com/example/rulebridge/rulebridge/server/Id", "isIdCharacter", "(C)Z"⟩ : MethodName)) hown (mvT hZ (ww hw 77 rfl)) (mvT hZ (ww hw 78 rfl)) (mvT hZ (ww hw 28 rfl)) (mvT hZ (ww hw 79 rfl)) (by decide) (own_back (W := 0) (rmId l Z a0 hw [] c0 h0 n0 O0) hZ (ww hw 79 rfl) (ww hw 28 rfl) (by decide) (by decide)) (g := (mkF m 29 #[rv a1, iv 2, iv 0] [(.int c0)])) rfl (by rw [hml]; rfl) (argsL := [(.int c0)]) (rest := []) (lenOf pd__C_Z rfl) rfl (by show 2 * 0 + _ ≤ _; exact Nat.le_of_eq rfl) (hb hby d4_29) (fun _ _ => ⟨rfl, kq2, (by decide : 0 + 0 ≤ _), (by decide : 0 + 0 ≤ _)⟩)
  dsimp only [Pt.U, Pt.locs, Pt.cells, Pt.slots] at X3 lq3 yq3 zz3 st3 hQ3
  subst lq3 yq3 zz3
  obtain ⟨rfl, Nq3, kq3⟩ := hQ3
  have N3 := Fr.app N2 Nq3
  refine Go.st (f' := (mkF m 32 #[rv a1, iv 2, iv 0] [(.int (idI c0))])) (fun _ k => st3 _ k) ?_
  by_cases cd4 : (idI c0) = (0 : Int32)
  · refine Go.st (f' := (mkF m 35 #[rv a1, iv 2, iv 0] [])) (fun _ k => XS.ifNo X3.here hx rfl (hb hby d4_32) rfl ((if0 _ _).trans (teq cd4).2) k) ?_
    refine Go.st (f' := (mkF m 36 #[rv a1, iv 2, iv 0] [(.int 0)])) (fun _ k => XS.iconst X3.here hx rfl (hb hby d4_35) k) ?_
    refine Go.retB X3 hlk hx (t := .boolean) hret (by simp) (hb hby d4_36) kq3 ?_ (by decide) (by decide)
    show (some (.int (0 : Int32)) : Option Value) = some (.int (vI_2 c0 c1)) ∧ _
    exact ⟨by rw [vI_2, if_pos cd4], N3, rfl⟩
  · refine Go.st (f' := (mkF m 37 #[rv a1, iv 2, iv 0] [])) (fun _ k => XS.ifYes X3.here hx rfl (pc0 := 32) (pc' := 37) rfl (hb hby d4_32) rfl ((if0 _ _).trans (feq cd4).2) (by decide) (by decide) k) ?_
    refine Go.st (f' := (mkF m 40 #[rv a1, iv 2, iv 1] [])) (fun _ k => XS.iinc X3.here hx rfl (hb hby d4_37) rfl (l' := #[rv a1, iv 2, iv 1]) rfl k) ?_
    refine Go.st (f' := (mkF m 19 #[rv a1, iv 2, iv 1] [])) (fun _ k => XS.goto X3.here hx rfl (pc0 := 40) (pc' := 19) rfl (hb hby d4_40) (by decide) (by decide) k) ?_
    refine Go.st (f' := (mkF m 20 #[rv a1, iv 2, iv 1] [(.int 1)])) (fun _ k => XS.iloadN X3.here hx rfl (hb hby d4_19) rfl k) ?_
    refine Go.st (f' := (mkF m 21 #[rv a1, iv 2, iv 1] [(.int 2), (.int 1)])) (fun _ k => XS.iloadN X3.here hx rfl (hb hby d4_20) rfl k) ?_
    refine Go.st (f' := (mkF m 24 #[rv a1, iv 2, iv 1] [])) (fun _ k => XS.icmpNo X3.here hx rfl (hb hby d4_21) rfl (by decide) k) ?_
    refine Go.st (f' := (mkF m 25 #[rv a1, iv 2, iv 1] [(.ref a1)])) (fun _ k => XS.aloadN X3.here hx rfl (hb hby d4_24) rfl rfl k) ?_
    refine Go.st (f' := (mkF m 26 #[rv a1, iv 2, iv 1] [(.int 1), (.ref a1)])) (fun _ k => XS.iloadN X3.here hx rfl (hb hby d4_25) rfl k) ?_
    obtain ⟨cq5, kq5, q5a, q5b, q5c⟩ := isOf hZ kq3 E_a1
    obtain ⟨_, _, ⟨T5, L5, kk5, nn5⟩, -, X5, ⟨Lc5, hQ5, lq5, yq5, zz5⟩, st5⟩ := X3.virtualBack hx (y := (⟨"java/lang/String", "charAt", "(I)C"⟩ : MethodName)) (z := (⟨"java/lang/String", "charAt", "(I)C"⟩ : MethodName)) hown (mvT hZ (ww hw 55 rfl)) (mvT hZ (ww hw 56 rfl)) (notFace_of_selects (args := #[]) (mvT hZ (ww hw 58 rfl))) (mvT hZ (ww hw 58 rfl)) (mvT hZ (ww hw 57 rfl)) (by decide) (own_back (W := 0) (caS_2_1 l Z a0 hw [] a1 t1 k1 c0 c1 i_COMPACT_STRINGS v_SIOOBE_FORMATTER h0 n0 O0 E_a1 F_a1_value D_a1 hk_c0 hk_c1 WW) hZ (ww hw 59 rfl) (ww hw 3 rfl) (by decide) (by decide)) q5a q5c (g := (mkF m 26 #[rv a1, iv 2, iv 1] [(.int 1), (.ref a1)])) rfl (by rw [hml]; rfl) (Steps.refl _) (argsL := [(.int (1 : Int32))]) (rest := []) (lenOf pd__I_C rfl) rfl (by show 2 * 0 + _ ≤ _; exact Nat.le_of_eq rfl) (hb hby d4_26) (fun _ _ => ⟨rfl, kq3, (by decide : 0 + 0 ≤ _), (by decide : 0 + 0 ≤ _)⟩)
    dsimp only [Pt.U, Pt.locs, Pt.cells, Pt.slots] at X5 lq5 yq5 zz5 st5 hQ5
    subst lq5 yq5 zz5
    obtain ⟨rfl, Nq5, kq5⟩ := hQ5
    have N5 := Fr.app N3 Nq5
    refine Go.tr (f' := (mkF m 29 #[rv a1, iv 2, iv 1] [(.int c1)])) st5 ?_
    obtain ⟨_, _, ⟨T6, L6, kk6, nn6⟩, -, X6, ⟨Lc6, hQ6, lq6, yq6, zz6⟩, st6⟩ := Jvm.LawKit.callS X5 hx (y := (⟨"com/example/rulebridge/rulebridge/server/Id", "isIdCharacter", "(C)Z"⟩ : MethodName)) hown (mvT hZ (ww hw 77 rfl)) (mvT hZ (ww hw 78 rfl)) (mvT hZ (ww hw 28 rfl)) (mvT hZ (ww hw 79 rfl)) (by decide) (own_back (W := 0) (rmId l Z a0 hw [] c1 h0 n0 O0) hZ (ww hw 79 rfl) (ww hw 28 rfl) (by decide) (by decide)) (g := (mkF m 29 #[rv a1, iv 2, iv 1] [(.int c1)])) rfl (by rw [hml]; rfl) (argsL := [(.int c1)]) (rest := []) (lenOf pd__C_Z rfl) rfl (by show 2 * 0 + _ ≤ _; exact Nat.le_of_eq rfl) (hb hby d4_29) (fun _ _ => ⟨rfl, kq5, (by decide : 0 + 0 ≤ _), (by decide : 0 + 0 ≤ _)⟩)
    dsimp only [Pt.U, Pt.locs, Pt.cells, Pt.slots] at X6 lq6 yq6 zz6 st6 hQ6
    subst lq6 yq6 zz6
    obtain ⟨rfl, Nq6, kq6⟩ := hQ6
    have N6 := Fr.app N5 Nq6
    refine Go.st (f' := (mkF m 32 #[rv a1, iv 2, iv 1] [(.int (idI c1))])) (fun _ k => st6 _ k) ?_
    by_cases cd7 : (idI c1) = (0 : Int32)
    · refine Go.st (f' := (mkF m 35 #[rv a1, iv 2, iv 1] [])) (fun _ k => XS.ifNo X6.here hx rfl (hb hby d4_32) rfl ((if0 _ _).trans (teq cd7).2) k) ?_
      refine Go.st (f' := (mkF m 36 #[rv a1, iv 2, iv 1] [(.int 0)])) (fun _ k => XS.iconst X6.here hx rfl (hb hby d4_35) k) ?_
      refine Go.retB X6 hlk hx (t := .boolean) hret (by simp) (hb hby d4_36) kq6 ?_ (by decide) (by decide)
      show (some (.int (0 : Int32)) : Option Value) = some (.int (vI_2 c0 c1)) ∧ _
      exact ⟨by rw [vI_2, if_neg cd4, if_pos cd7], N6, rfl⟩
    · refine Go.st (f' := (mkF m 37 #[rv a1, iv 2, iv 1] [])) (fun _ k => XS.ifYes X6.here hx rfl (pc0 := 32) (pc' := 37) rfl (hb hby d4_32) rfl ((if0 _ _).trans (feq cd7).2) (by decide) (by decide) k) ?_
      refine Go.st (f' := (mkF m 40 #[rv a1, iv 2, iv 2] [])) (fun _ k => XS.iinc X6.here hx rfl (hb hby d4_37) rfl (l' := #[rv a1, iv 2, iv 2]) rfl k) ?_
      refine Go.st (f' := (mkF m 19 #[rv a1, iv 2, iv 2] [])) (fun _ k => XS.goto X6.here hx rfl (pc0 := 40) (pc' := 19) rfl (hb hby d4_40) (by decide) (by decide) k) ?_
      refine Go.st (f' := (mkF m 20 #[rv a1, iv 2, iv 2] [(.int 2)])) (fun _ k => XS.iloadN X6.here hx rfl (hb hby d4_19) rfl k) ?_
      refine Go.st (f' := (mkF m 21 #[rv a1, iv 2, iv 2] [(.int 2), (.int 2)])) (fun _ k => XS.iloadN X6.here hx rfl (hb hby d4_20) rfl k) ?_
      refine Go.st (f' := (mkF m 43 #[rv a1, iv 2, iv 2] [])) (fun _ k => XS.icmpYes X6.here hx rfl (pc0 := 21) (pc' := 43) rfl (hb hby d4_21) rfl (by decide) (by decide) (by decide) k) ?_
      refine Go.st (f' := (mkF m 44 #[rv a1, iv 2, iv 2] [(.int 1)])) (fun _ k => XS.iconst X6.here hx rfl (hb hby d4_43) k) ?_
      refine Go.retB X6 hlk hx (t := .boolean) hret (by simp) (hb hby d4_44) kq6 ?_ (by decide) (by decide)
      show (some (.int (1 : Int32)) : Option Value) = some (.int (vI_2 c0 c1)) ∧ _
      exact ⟨by rw [vI_2, if_neg cd4, if_neg cd7], N6, rfl⟩
def vI_3 (c0 : Int32) (c1 : Int32) (c2 : Int32) : Int32 := (if (idI c0) = (0 : Int32) then (0 : Int32) else (if (idI c1) = (0 : Int32) then (0 : Int32) else (if (idI c2) = (0 : Int32) then (0 : Int32) else (1 : Int32))))
set_option maxRecDepth 65536 in
set_option maxHeartbeats 40000000 in
theorem vaS_3 (l : Launch) (Z : State) (a0 : Array Value) (hw : ∀ d ∈ tables_1, d.before a0 Z = true) (ws : List Jvm.Cond) (a1 : Addr) (t1 : Addr) (k1 : ClassId) (c0 : Int32) (c1 : Int32) (c2 : Int32) (i_COMPACT_STRINGS : Int32) (v_SIOOBE_FORMATTER : Value) (h0 : Heap) (n0 : Nat) (O0 : Old Z n0 h0) (E_a1 : Exa Z h0 a1 "java/lang/String") (F_a1_value : Fld Z h0 a1 "java/lang/String" "value" "[B" (.ref t1)) (D_a1 : Sx3 Z h0 a1 t1 k1 c0 c1 c2) (hk_c0 : 0 ≤ c0.toInt ∧ c0.toInt < 65536) (hk_c1 : 0 ≤ c1.toInt ∧ c1.toInt < 65536) (hk_c2 : 0 ≤ c2.toInt ∧ c2.toInt < 65536) (WW : World1 Z i_COMPACT_STRINGS v_SIOOBE_FORMATTER) :
    Con l Z (⟨"com/example/rulebridge/rulebridge/server/Id", "isValid", "(Ljava/lang/String;)Z"⟩ : MethodName) prog_36_method_2_code 3 (some .boolean) ws ({ frames := 5, cells := 0, slots := 0, locals := 66 } : Room) #[(.ref a1)] h0 (fun v h L => v = some (.int (vI_3 c0 c1 c2)) ∧ Fr n0 L ∧ h = h0) := by
  refine own_body (plainFor_of_name pn_com_example_rulebridge_rulebridge_server_Id) ?_
  intro p e s m below meth c s₁ hx hby hml hZ hown hnm hlk hret X0 e0
  have N0 := Fr.nil n0
  refine Go.st (T' := s₁) (f' := (mkF m 0 #[rv a1, .unset, .unset] [])) (fun _ k => castTop (by first | (simp [entryFrame, mkF, argsToLocals, Value.category]; done) | rfl) k) ?_
  have ⟨S_i_COMPACT_STRINGS, nz_i_COMPACT_STRINGS, S_v_SIOOBE_FORMATTER, r_v_SIOOBE_FORMATTER, S_i__assertionsDisabled, S_i_HI_BYTE_SHIFT, S_i_LO_BYTE_SHIFT⟩ := WW
  refine Go.st (f' := (mkF m 1 #[rv a1, .unset, .unset] [(.ref a1)])) (fun _ k => XS.aloadN X0.here hx rfl (hb hby d4_0) rfl rfl k) ?_
  obtain ⟨cq1, kq1, q1a, q1b, q1c⟩ := isOf hZ e0 E_a1
  obtain ⟨_, _, ⟨T1, L1, kk1, nn1⟩, -, X1, ⟨Lc1, hQ1, lq1, yq1, zz1⟩, st1⟩ := X0.virtualBack hx (y := (⟨"java/lang/String", "length", "()I"⟩ : MethodName)) (z := (⟨"java/lang/String", "length", "()I"⟩ : MethodName)) hown (mvT hZ (ww hw 30 rfl)) (mvT hZ (ww hw 31 rfl)) (notFace_of_selects (args := #[]) (mvT hZ (ww hw 33 rfl))) (mvT hZ (ww hw 33 rfl)) (mvT hZ (ww hw 32 rfl)) (by decide) (own_back (W := 0) (lnS_3 l Z a0 hw [] a1 t1 k1 c0 c1 c2 i_COMPACT_STRINGS v_SIOOBE_FORMATTER h0 n0 O0 E_a1 F_a1_value D_a1 hk_c0 hk_c1 hk_c2 WW) hZ (ww hw 34 rfl) (ww hw 3 rfl) (by decide) (by decide)) q1a q1c (g := (mkF m 1 #[rv a1, .unset, .unset] [(.ref a1)])) rfl (by rw [hml]; rfl) (Steps.refl _) (argsL := []) (rest := []) (lenOf pd___I rfl) rfl (by show 2 * 0 + _ ≤ _; exact Nat.le_of_eq rfl) (hb hby d4_1) (fun _ _ => ⟨rfl, e0, (by decide : 0 + 0 ≤ _), (by decide : 0 + 0 ≤ _)⟩)
  dsimp only [Pt.U, Pt.locs, Pt.cells, Pt.slots] at X1 lq1 yq1 zz1 st1 hQ1
  subst lq1 yq1 zz1
  obtain ⟨rfl, Nq1, kq1⟩ := hQ1
  have N1 := Fr.app N0 Nq1
  refine Go.tr (f' := (mkF m 4 #[rv a1, .unset, .unset] [(.int 3)])) st1 ?_
  refine Go.st (f' := (mkF m 5 #[rv a1, iv 3, .unset] [])) (fun _ k => XS.istoreN X1.here hx rfl (hb hby d4_4) rfl (l' := #[rv a1, iv 3, .unset]) rfl k) ?_
  refine Go.st (f' := (mkF m 6 #[rv a1, iv 3, .unset] [(.int 3)])) (fun _ k => XS.iloadN X1.here hx rfl (hb hby d4_5) rfl k) ?_
  refine Go.st (f' := (mkF m 9 #[rv a1, iv 3, .unset] [])) (fun _ k => XS.ifNo X1.here hx rfl (hb hby d4_6) rfl (by decide) k) ?_
  refine Go.st (f' := (mkF m 10 #[rv a1, iv 3, .unset] [(.int 3)])) (fun _ k => XS.iloadN X1.here hx rfl (hb hby d4_9) rfl k) ?_
  refine Go.st (f' := (mkF m 12 #[rv a1, iv 3, .unset] [(.int 64), (.int 3)])) (fun _ k => XS.bipush X1.here hx rfl (hb hby d4_10) k) ?_
  refine Go.st (f' := (mkF m 17 #[rv a1, iv 3, .unset] [])) (fun _ k => XS.icmpYes X1.here hx rfl (pc0 := 12) (pc' := 17) rfl (hb hby d4_12) rfl (by decide) (by decide) (by decide) k) ?_
  refine Go.st (f' := (mkF m 18 #[rv a1, iv 3, .unset] [(.int 0)])) (fun _ k => XS.iconst X1.here hx rfl (hb hby d4_17) k) ?_
  refine Go.st (f' := (mkF m 19 #[rv a1, iv 3, iv 0] [])) (fun _ k => XS.istoreN X1.here hx rfl (hb hby d4_18) rfl (l' := #[rv a1, iv 3, iv 0]) rfl k) ?_
  refine Go.st (f' := (mkF m 20 #[rv a1, iv 3, iv 0] [(.int 0)])) (fun _ k => XS.iloadN X1.here hx rfl (hb hby d4_19) rfl k) ?_
  refine Go.st (f' := (mkF m 21 #[rv a1, iv 3, iv 0] [(.int 3), (.int 0)])) (fun _ k => XS.iloadN X1.here hx rfl (hb hby d4_20) rfl k) ?_
  refine Go.st (f' := (mkF m 24 #[rv a1, iv 3, iv 0] [])) (fun _ k => XS.icmpNo X1.here hx rfl (hb hby d4_21) rfl (by decide) k) ?_
  refine Go.st (f' := (mkF m 25 #[rv a1, iv 3, iv 0] [(.ref a1)])) (fun _ k => XS.aloadN X1.here hx rfl (hb hby d4_24) rfl rfl k) ?_
  refine Go.st (f' := (mkF m 26 #[rv a1, iv 3, iv 0] [(.int 0), (.ref a1)])) (fun _ k => XS.iloadN X1.here hx rfl (hb hby d4_25) rfl k) ?_
  obtain ⟨cq2, kq2, q2a, q2b, q2c⟩ := isOf hZ kq1 E_a1
  obtain ⟨_, _, ⟨T2, L2, kk2, nn2⟩, -, X2, ⟨Lc2, hQ2, lq2, yq2, zz2⟩, st2⟩ := X1.virtualBack hx (y := (⟨"java/lang/String", "charAt", "(I)C"⟩ : MethodName)) (z := (⟨"java/lang/String", "charAt", "(I)C"⟩ : MethodName)) hown (mvT hZ (ww hw 55 rfl)) (mvT hZ (ww hw 56 rfl)) (notFace_of_selects (args := #[]) (mvT hZ (ww hw 58 rfl))) (mvT hZ (ww hw 58 rfl)) (mvT hZ (ww hw 57 rfl)) (by decide) (own_back (W := 0) (caS_3_0 l Z a0 hw [] a1 t1 k1 c0 c1 c2 i_COMPACT_STRINGS v_SIOOBE_FORMATTER h0 n0 O0 E_a1 F_a1_value D_a1 hk_c0 hk_c1 hk_c2 WW) hZ (ww hw 59 rfl) (ww hw 3 rfl) (by decide) (by decide)) q2a q2c (g := (mkF m 26 #[rv a1, iv 3, iv 0] [(.int 0), (.ref a1)])) rfl (by rw [hml]; rfl) (Steps.refl _) (argsL := [(.int (0 : Int32))]) (rest := []) (lenOf pd__I_C rfl) rfl (by show 2 * 0 + _ ≤ _; exact Nat.le_of_eq rfl) (hb hby d4_26) (fun _ _ => ⟨rfl, kq1, (by decide : 0 + 0 ≤ _), (by decide : 0 + 0 ≤ _)⟩)
  dsimp only [Pt.U, Pt.locs, Pt.cells, Pt.slots] at X2 lq2 yq2 zz2 st2 hQ2
  subst lq2 yq2 zz2
  obtain ⟨rfl, Nq2, kq2⟩ := hQ2
  have N2 := Fr.app N1 Nq2
  refine Go.tr (f' := (mkF m 29 #[rv a1, iv 3, iv 0] [(.int c0)])) st2 ?_
  obtain ⟨_, _, ⟨T3, L3, kk3, nn3⟩, -, X3, ⟨Lc3, hQ3, lq3, yq3, zz3⟩, st3⟩ := Jvm.LawKit.callS X2 hx (y := (⟨"com/example/rulebridge/rulebridge/server/Id", "isIdCharacter", "(C)Z"⟩ : MethodName)) hown (mvT hZ (ww hw 77 rfl)) (mvT hZ (ww hw 78 rfl)) (mvT hZ (ww hw 28 rfl)) (mvT hZ (ww hw 79 rfl)) (by decide) (own_back (W := 0) (rmId l Z a0 hw [] c0 h0 n0 O0) hZ (ww hw 79 rfl) (ww hw 28 rfl) (by decide) (by decide)) (g := (mkF m 29 #[rv a1, iv 3, iv 0] [(.int c0)])) rfl (by rw [hml]; rfl) (argsL := [(.int c0)]) (rest := []) (lenOf pd__C_Z rfl) rfl (by show 2 * 0 + _ ≤ _; exact Nat.le_of_eq rfl) (hb hby d4_29) (fun _ _ => ⟨rfl, kq2, (by decide : 0 + 0 ≤ _), (by decide : 0 + 0 ≤ _)⟩)
  dsimp only [Pt.U, Pt.locs, Pt.cells, Pt.slots] at X3 lq3 yq3 zz3 st3 hQ3
  subst lq3 yq3 zz3
  obtain ⟨rfl, Nq3, kq3⟩ := hQ3
  have N3 := Fr.app N2 Nq3
  refine Go.st (f' := (mkF m 32 #[rv a1, iv 3, iv 0] [(.int (idI c0))])) (fun _ k => st3 _ k) ?_
  by_cases cd4 : (idI c0) = (0 : Int32)
  · refine Go.st (f' := (mkF m 35 #[rv a1, iv 3, iv 0] [])) (fun _ k => XS.ifNo X3.here hx rfl (hb hby d4_32) rfl ((if0 _ _).trans (teq cd4).2) k) ?_
    refine Go.st (f' := (mkF m 36 #[rv a1, iv 3, iv 0] [(.int 0)])) (fun _ k => XS.iconst X3.here hx rfl (hb hby d4_35) k) ?_
    refine Go.retB X3 hlk hx (t := .boolean) hret (by simp) (hb hby d4_36) kq3 ?_ (by decide) (by decide)
    show (some (.int (0 : Int32)) : Option Value) = some (.int (vI_3 c0 c1 c2)) ∧ _
    exact ⟨by rw [vI_3, if_pos cd4], N3, rfl⟩
  · refine Go.st (f' := (mkF m 37 #[rv a1, iv 3, iv 0] [])) (fun _ k => XS.ifYes X3.here hx rfl (pc0 := 32) (pc' := 37) rfl (hb hby d4_32) rfl ((if0 _ _).trans (feq cd4).2) (by decide) (by decide) k) ?_
    refine Go.st (f' := (mkF m 40 #[rv a1, iv 3, iv 1] [])) (fun _ k => XS.iinc X3.here hx rfl (hb hby d4_37) rfl (l' := #[rv a1, iv 3, iv 1]) rfl k) ?_
    refine Go.st (f' := (mkF m 19 #[rv a1, iv 3, iv 1] [])) (fun _ k => XS.goto X3.here hx rfl (pc0 := 40) (pc' := 19) rfl (hb hby d4_40) (by decide) (by decide) k) ?_
    refine Go.st (f' := (mkF m 20 #[rv a1, iv 3, iv 1] [(.int 1)])) (fun _ k => XS.iloadN X3.here hx rfl (hb hby d4_19) rfl k) ?_
    refine Go.st (f' := (mkF m 21 #[rv a1, iv 3, iv 1] [(.int 3), (.int 1)])) (fun _ k => XS.iloadN X3.here hx rfl (hb hby d4_20) rfl k) ?_
    refine Go.st (f' := (mkF m 24 #[rv a1, iv 3, iv 1] [])) (fun _ k => XS.icmpNo X3.here hx rfl (hb hby d4_21) rfl (by decide) k) ?_
    refine Go.st (f' := (mkF m 25 #[rv a1, iv 3, iv 1] [(.ref a1)])) (fun _ k => XS.aloadN X3.here hx rfl (hb hby d4_24) rfl rfl k) ?_
    refine Go.st (f' := (mkF m 26 #[rv a1, iv 3, iv 1] [(.int 1), (.ref a1)])) (fun _ k => XS.iloadN X3.here hx rfl (hb hby d4_25) rfl k) ?_
    obtain ⟨cq5, kq5, q5a, q5b, q5c⟩ := isOf hZ kq3 E_a1
    obtain ⟨_, _, ⟨T5, L5, kk5, nn5⟩, -, X5, ⟨Lc5, hQ5, lq5, yq5, zz5⟩, st5⟩ := X3.virtualBack hx (y := (⟨"java/lang/String", "charAt", "(I)C"⟩ : MethodName)) (z := (⟨"java/lang/String", "charAt", "(I)C"⟩ : MethodName)) hown (mvT hZ (ww hw 55 rfl)) (mvT hZ (ww hw 56 rfl)) (notFace_of_selects (args := #[]) (mvT hZ (ww hw 58 rfl))) (mvT hZ (ww hw 58 rfl)) (mvT hZ (ww hw 57 rfl)) (by decide) (own_back (W := 0) (caS_3_1 l Z a0 hw [] a1 t1 k1 c0 c1 c2 i_COMPACT_STRINGS v_SIOOBE_FORMATTER h0 n0 O0 E_a1 F_a1_value D_a1 hk_c0 hk_c1 hk_c2 WW) hZ (ww hw 59 rfl) (ww hw 3 rfl) (by decide) (by decide)) q5a q5c (g := (mkF m 26 #[rv a1, iv 3, iv 1] [(.int 1), (.ref a1)])) rfl (by rw [hml]; rfl) (Steps.refl _) (argsL := [(.int (1 : Int32))]) (rest := []) (lenOf pd__I_C rfl) rfl (by show 2 * 0 + _ ≤ _; exact Nat.le_of_eq rfl) (hb hby d4_26) (fun _ _ => ⟨rfl, kq3, (by decide : 0 + 0 ≤ _), (by decide : 0 + 0 ≤ _)⟩)
    dsimp only [Pt.U, Pt.locs, Pt.cells, Pt.slots] at X5 lq5 yq5 zz5 st5 hQ5
    subst lq5 yq5 zz5
    obtain ⟨rfl, Nq5, kq5⟩ := hQ5
    have N5 := Fr.app N3 Nq5
    refine Go.tr (f' := (mkF m 29 #[rv a1, iv 3, iv 1] [(.int c1)])) st5 ?_
    obtain ⟨_, _, ⟨T6, L6, kk6, nn6⟩, -, X6, ⟨Lc6, hQ6, lq6, yq6, zz6⟩, st6⟩ := Jvm.LawKit.callS X5 hx (y := (⟨"com/example/rulebridge/rulebridge/server/Id", "isIdCharacter", "(C)Z"⟩ : MethodName)) hown (mvT hZ (ww hw 77 rfl)) (mvT hZ (ww hw 78 rfl)) (mvT hZ (ww hw 28 rfl)) (mvT hZ (ww hw 79 rfl)) (by decide) (own_back (W := 0) (rmId l Z a0 hw [] c1 h0 n0 O0) hZ (ww hw 79 rfl) (ww hw 28 rfl) (by decide) (by decide)) (g := (mkF m 29 #[rv a1, iv 3, iv 1] [(.int c1)])) rfl (by rw [hml]; rfl) (argsL := [(.int c1)]) (rest := []) (lenOf pd__C_Z rfl) rfl (by show 2 * 0 + _ ≤ _; exact Nat.le_of_eq rfl) (hb hby d4_29) (fun _ _ => ⟨rfl, kq5, (by decide : 0 + 0 ≤ _), (by decide : 0 + 0 ≤ _)⟩)
    dsimp only [Pt.U, Pt.locs, Pt.cells, Pt.slots] at X6 lq6 yq6 zz6 st6 hQ6
    subst lq6 yq6 zz6
    obtain ⟨rfl, Nq6, kq6⟩ := hQ6
    have N6 := Fr.app N5 Nq6
    refine Go.st (f' := (mkF m 32 #[rv a1, iv 3, iv 1] [(.int (idI c1))])) (fun _ k => st6 _ k) ?_
    by_cases cd7 : (idI c1) = (0 : Int32)
    · refine Go.st (f' := (mkF m 35 #[rv a1, iv 3, iv 1] [])) (fun _ k => XS.ifNo X6.here hx rfl (hb hby d4_32) rfl ((if0 _ _).trans (teq cd7).2) k) ?_
      refine Go.st (f' := (mkF m 36 #[rv a1, iv 3, iv 1] [(.int 0)])) (fun _ k => XS.iconst X6.here hx rfl (hb hby d4_35) k) ?_
      refine Go.retB X6 hlk hx (t := .boolean) hret (by simp) (hb hby d4_36) kq6 ?_ (by decide) (by decide)
      show (some (.int (0 : Int32)) : Option Value) = some (.int (vI_3 c0 c1 c2)) ∧ _
      exact ⟨by rw [vI_3, if_neg cd4, if_pos cd7], N6, rfl⟩
    · refine Go.st (f' := (mkF m 37 #[rv a1, iv 3, iv 1] [])) (fun _ k => XS.ifYes X6.here hx rfl (pc0 := 32) (pc' := 37) rfl (hb hby d4_32) rfl ((if0 _ _).trans (feq cd7).2) (by decide) (by decide) k) ?_
      refine Go.st (f' := (mkF m 40 #[rv a1, iv 3, iv 2] [])) (fun _ k => XS.iinc X6.here hx rfl (hb hby d4_37) rfl (l' := #[rv a1, iv 3, iv 2]) rfl k) ?_
      refine Go.st (f' := (mkF m 19 #[rv a1, iv 3, iv 2] [])) (fun _ k => XS.goto X6.here hx rfl (pc0 := 40) (pc' := 19) rfl (hb hby d4_40) (by decide) (by decide) k) ?_
      refine Go.st (f' := (mkF m 20 #[rv a1, iv 3, iv 2] [(.int 2)])) (fun _ k => XS.iloadN X6.here hx rfl (hb hby d4_19) rfl k) ?_
      refine Go.st (f' := (mkF m 21 #[rv a1, iv 3, iv 2] [(.int 3), (.int 2)])) (fun _ k => XS.iloadN X6.here hx rfl (hb hby d4_20) rfl k) ?_
      refine Go.st (f' := (mkF m 24 #[rv a1, iv 3, iv 2] [])) (fun _ k => XS.icmpNo X6.here hx rfl (hb hby d4_21) rfl (by decide) k) ?_
      refine Go.st (f' := (mkF m 25 #[rv a1, iv 3, iv 2] [(.ref a1)])) (fun _ k => XS.aloadN X6.here hx rfl (hb hby d4_24) rfl rfl k) ?_
      refine Go.st (f' := (mkF m 26 #[rv a1, iv 3, iv 2] [(.int 2), (.ref a1)])) (fun _ k => XS.iloadN X6.here hx rfl (hb hby d4_25) rfl k) ?_
      obtain ⟨cq8, kq8, q8a, q8b, q8c⟩ := isOf hZ kq6 E_a1
      obtain ⟨_, _, ⟨T8, L8, kk8, nn8⟩, -, X8, ⟨Lc8, hQ8, lq8, yq8, zz8⟩, st8⟩ := X6.virtualBack hx (y := (⟨"java/lang/String", "charAt", "(I)C"⟩ : MethodName)) (z := (⟨"java/lang/String", "charAt", "(I)C"⟩ : MethodName)) hown (mvT hZ (ww hw 55 rfl)) (mvT hZ (ww hw 56 rfl)) (notFace_of_selects (args := #[]) (mvT hZ (ww hw 58 rfl))) (mvT hZ (ww hw 58 rfl)) (mvT hZ (ww hw 57 rfl)) (by decide) (own_back (W := 0) (caS_3_2 l Z a0 hw [] a1 t1 k1 c0 c1 c2 i_COMPACT_STRINGS v_SIOOBE_FORMATTER h0 n0 O0 E_a1 F_a1_value D_a1 hk_c0 hk_c1 hk_c2 WW) hZ (ww hw 59 rfl) (ww hw 3 rfl) (by decide) (by decide)) q8a q8c (g := (mkF m 26 #[rv a1, iv 3, iv 2] [(.int 2), (.ref a1)])) rfl (by rw [hml]; rfl) (Steps.refl _) (argsL := [(.int (2 : Int32))]) (rest := []) (lenOf pd__I_C rfl) rfl (by show 2 * 0 + _ ≤ _; exact Nat.le_of_eq rfl) (hb hby d4_26) (fun _ _ => ⟨rfl, kq6, (by decide : 0 + 0 ≤ _), (by decide : 0 + 0 ≤ _)⟩)
      dsimp only [Pt.U, Pt.locs, Pt.cells, Pt.slots] at X8 lq8 yq8 zz8 st8 hQ8
      subst lq8 yq8 zz8
      obtain ⟨rfl, Nq8, kq8⟩ := hQ8
      have N8 := Fr.app N6 Nq8
      refine Go.tr (f' := (mkF m 29 #[rv a1, iv 3, iv 2] [(.int c2)])) st8 ?_
      obtain ⟨_, _, ⟨T9, L9, kk9, nn9⟩, -, X9, ⟨Lc9, hQ9, lq9, yq9, zz9⟩, st9⟩ := Jvm.LawKit.callS X8 hx (y := (⟨"com/example/rulebridge/rulebridge/server/Id", "isIdCharacter", "(C)Z"⟩ : MethodName)) hown (mvT hZ (ww hw 77 rfl)) (mvT hZ (ww hw 78 rfl)) (mvT hZ (ww hw 28 rfl)) (mvT hZ (ww hw 79 rfl)) (by decide) (own_back (W := 0) (rmId l Z a0 hw [] c2 h0 n0 O0) hZ (ww hw 79 rfl) (ww hw 28 rfl) (by decide) (by decide)) (g := (mkF m 29 #[rv a1, iv 3, iv 2] [(.int c2)])) rfl (by rw [hml]; rfl) (argsL := [(.int c2)]) (rest := []) (lenOf pd__C_Z rfl) rfl (by show 2 * 0 + _ ≤ _; exact Nat.le_of_eq rfl) (hb hby d4_29) (fun _ _ => ⟨rfl, kq8, (by decide : 0 + 0 ≤ _), (by decide : 0 + 0 ≤ _)⟩)
      dsimp only [Pt.U, Pt.locs, Pt.cells, Pt.slots] at X9 lq9 yq9 zz9 st9 hQ9
      subst lq9 yq9 zz9
      obtain ⟨rfl, Nq9, kq9⟩ := hQ9
      have N9 := Fr.app N8 Nq9
      refine Go.st (f' := (mkF m 32 #[rv a1, iv 3, iv 2] [(.int (idI c2))])) (fun _ k => st9 _ k) ?_
      by_cases cd10 : (idI c2) = (0 : Int32)
      · refine Go.st (f' := (mkF m 35 #[rv a1, iv 3, iv 2] [])) (fun _ k => XS.ifNo X9.here hx rfl (hb hby d4_32) rfl ((if0 _ _).trans (teq cd10).2) k) ?_
        refine Go.st (f' := (mkF m 36 #[rv a1, iv 3, iv 2] [(.int 0)])) (fun _ k => XS.iconst X9.here hx rfl (hb hby d4_35) k) ?_
        refine Go.retB X9 hlk hx (t := .boolean) hret (by simp) (hb hby d4_36) kq9 ?_ (by decide) (by decide)
        show (some (.int (0 : Int32)) : Option Value) = some (.int (vI_3 c0 c1 c2)) ∧ _
        exact ⟨by rw [vI_3, if_neg cd4, if_neg cd7, if_pos cd10], N9, rfl⟩
      · refine Go.st (f' := (mkF m 37 #[rv a1, iv 3, iv 2] [])) (fun _ k => XS.ifYes X9.here hx rfl (pc0 := 32) (pc' := 37) rfl (hb hby d4_32) rfl ((if0 _ _).trans (feq cd10).2) (by decide) (by decide) k) ?_
        refine Go.st (f' := (mkF m 40 #[rv a1, iv 3, iv 3] [])) (fun _ k => XS.iinc X9.here hx rfl (hb hby d4_37) rfl (l' := #[rv a1, iv 3, iv 3]) rfl k) ?_
        refine Go.st (f' := (mkF m 19 #[rv a1, iv 3, iv 3] [])) (fun _ k => XS.goto X9.here hx rfl (pc0 := 40) (pc' := 19) rfl (hb hby d4_40) (by decide) (by decide) k) ?_
        refine Go.st (f' := (mkF m 20 #[rv a1, iv 3, iv 3] [(.int 3)])) (fun _ k => XS.iloadN X9.here hx rfl (hb hby d4_19) rfl k) ?_
        refine Go.st (f' := (mkF m 21 #[rv a1, iv 3, iv 3] [(.int 3), (.int 3)])) (fun _ k => XS.iloadN X9.here hx rfl (hb hby d4_20) rfl k) ?_
        refine Go.st (f' := (mkF m 43 #[rv a1, iv 3, iv 3] [])) (fun _ k => XS.icmpYes X9.here hx rfl (pc0 := 21) (pc' := 43) rfl (hb hby d4_21) rfl (by decide) (by decide) (by decide) k) ?_
        refine Go.st (f' := (mkF m 44 #[rv a1, iv 3, iv 3] [(.int 1)])) (fun _ k => XS.iconst X9.here hx rfl (hb hby d4_43) k) ?_
        refine Go.retB X9 hlk hx (t := .boolean) hret (by simp) (hb hby d4_44) kq9 ?_ (by decide) (by decide)
        show (some (.int (1 : Int32)) : Option Value) = some (.int (vI_3 c0 c1 c2)) ∧ _
        exact ⟨by rw [vI_3, if_neg cd4, if_neg cd7, if_neg cd10], N9, rfl⟩
theorem own_inc {i : Int32} (h : 0 ≤ i.toInt) (h1 : i < (64 : Int32)) : (i + (1 : Int32)).toInt = i.toInt + 1 := by
  rw [Int32.lt_iff_toInt_lt] at h1
  have a := c_iadd i 1
  have r := rng32 (i + 1)
  have e1 : (1 : Int32).toInt = 1 := by decide
  have e64 : (64 : Int32).toInt = 64 := by decide
  omega
set_option maxRecDepth 65536 in
set_option maxHeartbeats 40000000 in
theorem va_64 (l : Launch) (Z : State) (a0 : Array Value) (hw : ∀ d ∈ tables_1, d.before a0 Z = true) (ws : List Jvm.Cond) (a1 : Addr) (t1 : Addr) (k1 : ClassId) (es : List Value) (i_COMPACT_STRINGS : Int32) (v_SIOOBE_FORMATTER : Value) (h0 : Heap) (n0 : Nat) (O0 : Old Z n0 h0) (hall : ∀ j : Int32, ¬ j < (0 : Int32) → j < (64 : Int32) → ∃ x : Int32, es.getD j.toNatClampNeg (.int 0) = .int x ∧ idI (caL x) = (1 : Int32)) (E_a1 : Exa Z h0 a1 "java/lang/String") (F_a1_coder : Fld Z h0 a1 "java/lang/String" "coder" "B" (.int 0)) (F_a1_value : Fld Z h0 a1 "java/lang/String" "value" "[B" (.ref t1)) (V_t1 : Arv Z h0 t1 k1 .byte (64 : Int32) es (.int 0)) (WW : World1 Z i_COMPACT_STRINGS v_SIOOBE_FORMATTER) :
    Con l Z (⟨"com/example/rulebridge/rulebridge/server/Id", "isValid", "(Ljava/lang/String;)Z"⟩ : MethodName) prog_36_method_2_code 3 (some .boolean) ws ({ frames := 5, cells := 0, slots := 0, locals := 66 } : Room) #[(.ref a1)] h0 (fun v h L => v = some (.int 1) ∧ Fr n0 L ∧ h = h0) := by
  refine own_body (plainFor_of_name pn_com_example_rulebridge_rulebridge_server_Id) ?_
  intro p e s m below meth c s₁ hx hby hml hZ hown hnm hlk hret X0 e0
  have N0 := Fr.nil n0
  refine Go.st (T' := s₁) (f' := (mkF m 0 #[rv a1, .unset, .unset] [])) (fun _ k => castTop (by first | (simp [entryFrame, mkF, argsToLocals, Value.category]; done) | rfl) k) ?_
  have ⟨S_i_COMPACT_STRINGS, nz_i_COMPACT_STRINGS, S_v_SIOOBE_FORMATTER, r_v_SIOOBE_FORMATTER, S_i__assertionsDisabled, S_i_HI_BYTE_SHIFT, S_i_LO_BYTE_SHIFT⟩ := WW
  have lt_a1 := E_a1.lt
  have lt_t1 := V_t1.lt
  refine Go.st (f' := (mkF m 1 #[rv a1, .unset, .unset] [(.ref a1)])) (fun _ k => XS.aloadN X0.here hx rfl (hb hby d4_0) rfl rfl k) ?_
  obtain ⟨cq1, kq1, q1a, q1b, q1c⟩ := isOf hZ e0 E_a1
  obtain ⟨_, _, ⟨T1, L1, kk1, nn1⟩, -, X1, ⟨Lc1, hQ1, lq1, yq1, zz1⟩, st1⟩ := X0.virtualBack hx (y := (⟨"java/lang/String", "length", "()I"⟩ : MethodName)) (z := (⟨"java/lang/String", "length", "()I"⟩ : MethodName)) hown (mvT hZ (ww hw 30 rfl)) (mvT hZ (ww hw 31 rfl)) (notFace_of_selects (args := #[]) (mvT hZ (ww hw 33 rfl))) (mvT hZ (ww hw 33 rfl)) (mvT hZ (ww hw 32 rfl)) (by decide) (own_back (W := 0) (ln_64_0 l Z a0 hw [] a1 t1 k1 es i_COMPACT_STRINGS v_SIOOBE_FORMATTER h0 n0 O0 E_a1 F_a1_coder F_a1_value V_t1 WW) hZ (ww hw 34 rfl) (ww hw 3 rfl) (by decide) (by decide)) q1a q1c (g := (mkF m 1 #[rv a1, .unset, .unset] [(.ref a1)])) rfl (by rw [hml]; rfl) (Steps.refl _) (argsL := []) (rest := []) (lenOf pd___I rfl) rfl (by show 2 * 0 + _ ≤ _; exact Nat.le_of_eq rfl) (hb hby d4_1) (fun _ _ => ⟨rfl, e0, (by decide : 0 + 0 ≤ _), (by decide : 0 + 0 ≤ _)⟩)
  dsimp only [Pt.U, Pt.locs, Pt.cells, Pt.slots] at X1 lq1 yq1 zz1 st1 hQ1
  subst lq1 yq1 zz1
  obtain ⟨rfl, Nq1, kq1⟩ := hQ1
  have N1 := Fr.app N0 Nq1
  refine Go.tr (f' := (mkF m 4 #[rv a1, .unset, .unset] [(.int 64)])) st1 ?_
  refine Go.st (f' := (mkF m 5 #[rv a1, iv 64, .unset] [])) (fun _ k => XS.istoreN X1.here hx rfl (hb hby d4_4) rfl (l' := #[rv a1, iv 64, .unset]) rfl k) ?_
  refine Go.st (f' := (mkF m 6 #[rv a1, iv 64, .unset] [(.int 64)])) (fun _ k => XS.iloadN X1.here hx rfl (hb hby d4_5) rfl k) ?_
  refine Go.st (f' := (mkF m 9 #[rv a1, iv 64, .unset] [])) (fun _ k => XS.ifNo X1.here hx rfl (hb hby d4_6) rfl (by decide) k) ?_
  refine Go.st (f' := (mkF m 10 #[rv a1, iv 64, .unset] [(.int 64)])) (fun _ k => XS.iloadN X1.here hx rfl (hb hby d4_9) rfl k) ?_
  refine Go.st (f' := (mkF m 12 #[rv a1, iv 64, .unset] [(.int 64), (.int 64)])) (fun _ k => XS.bipush X1.here hx rfl (hb hby d4_10) k) ?_
  refine Go.st (f' := (mkF m 17 #[rv a1, iv 64, .unset] [])) (fun _ k => XS.icmpYes X1.here hx rfl (pc0 := 12) (pc' := 17) rfl (hb hby d4_12) rfl (by decide) (by decide) (by decide) k) ?_
  refine Go.st (f' := (mkF m 18 #[rv a1, iv 64, .unset] [(.int 0)])) (fun _ k => XS.iconst X1.here hx rfl (hb hby d4_17) k) ?_
  refine Go.st (f' := (mkF m 19 #[rv a1, iv 64, iv 0] [])) (fun _ k => XS.istoreN X1.here hx rfl (hb hby d4_18) rfl (l' := #[rv a1, iv 64, iv 0]) rfl k) ?_
  have e64 : (64 : Int32).toInt = 64 := by decide
  have e0 : (0 : Int32).toInt = 0 := by decide
  have LP : ∀ (fuel : Nat) (TJ2 : State) (hJ2 : Heap) (LJ2 : List Loc) (i : Int32), (Stand p l e ({ frames := 5, cells := 0, slots := 0, locals := 66 } : Room) s m #[(.ref a1)] below meth c TJ2 LJ2 0 0) → (TJ2.heap = hJ2) → (Old Z n0 hJ2) → (Fr n0 LJ2) → (Exa Z hJ2 a1 "java/lang/String") → (Fld Z hJ2 a1 "java/lang/String" "coder" "B" (.int (0 : Int32))) → (Fld Z hJ2 a1 "java/lang/String" "value" "[B" (.ref t1)) → (Arv Z hJ2 t1 k1 .byte (64 : Int32) es (.int (0 : Int32))) → (a1 < hJ2.size) → (t1 < hJ2.size) → (0 ≤ i.toInt) → (i.toInt + (fuel : Int) = 64) → (hJ2 = h0) → Go p e below (Done s (fun v h L => v = some (.int (1 : Int32)) ∧ Fr n0 L ∧ h = h0) ({ frames := 5, cells := 0, slots := 0, locals := 66 } : Room).cells ({ frames := 5, cells := 0, slots := 0, locals := 66 } : Room).slots) TJ2 (mkF m 19 #[rv a1, iv 64, iv i] []) := by
    intro fuel
    induction fuel with
    | zero =>
      intro TJ2 hJ2 LJ2 i XJ2 eJ2 OJ2 NJ2 cyJ2_0 cyJ2_1 cyJ2_2 cyJ2_3 cyJ2_4 cyJ2_5 hi0 hi1 hh
      have hge : ¬ i < (64 : Int32) := by rw [Int32.lt_iff_toInt_lt]; omega
      refine Go.st (f' := (mkF m 20 #[rv a1, iv 64, iv i] [(.int i)])) (fun _ k => XS.iloadN XJ2.here hx rfl (hb hby d4_19) rfl k) ?_
      refine Go.st (f' := (mkF m 21 #[rv a1, iv 64, iv i] [(.int 64), (.int i)])) (fun _ k => XS.iloadN XJ2.here hx rfl (hb hby d4_20) rfl k) ?_
      refine Go.st (f' := (mkF m 43 #[rv a1, iv 64, iv i] [])) (fun _ k => XS.icmpYes XJ2.here hx rfl (pc0 := 21) (pc' := 43) rfl (hb hby d4_21) rfl (flt hge).2.1 (by decide) (by decide) k) ?_
      refine Go.st (f' := (mkF m 44 #[rv a1, iv 64, iv i] [(.int 1)])) (fun _ k => XS.iconst XJ2.here hx rfl (hb hby d4_43) k) ?_
      refine Go.retB XJ2 hlk hx (t := .boolean) hret (by simp) (hb hby d4_44) eJ2 ?_ (by decide) (by decide)
      exact ⟨rfl, NJ2, hh⟩
    | succ fuel ih =>
      intro TJ2 hJ2 LJ2 i XJ2 eJ2 OJ2 NJ2 cyJ2_0 cyJ2_1 cyJ2_2 cyJ2_3 cyJ2_4 cyJ2_5 hi0 hi1 hh
      have hlt : i < (64 : Int32) := by rw [Int32.lt_iff_toInt_lt]; omega
      have hnn : ¬ i < (0 : Int32) := by rw [Int32.lt_iff_toInt_lt]; omega
      refine Go.st (f' := (mkF m 20 #[rv a1, iv 64, iv i] [(.int i)])) (fun _ k => XS.iloadN XJ2.here hx rfl (hb hby d4_19) rfl k) ?_
      refine Go.st (f' := (mkF m 21 #[rv a1, iv 64, iv i] [(.int 64), (.int i)])) (fun _ k => XS.iloadN XJ2.here hx rfl (hb hby d4_20) rfl k) ?_
      refine Go.st (f' := (mkF m 24 #[rv a1, iv 64, iv i] [])) (fun _ k => XS.icmpNo XJ2.here hx rfl (hb hby d4_21) rfl (tlt hlt).2.1 k) ?_
      refine Go.st (f' := (mkF m 25 #[rv a1, iv 64, iv i] [(.ref a1)])) (fun _ k => XS.aloadN XJ2.here hx rfl (hb hby d4_24) rfl rfl k) ?_
      refine Go.st (f' := (mkF m 26 #[rv a1, iv 64, iv i] [(.int i), (.ref a1)])) (fun _ k => XS.iloadN XJ2.here hx rfl (hb hby d4_25) rfl k) ?_
      obtain ⟨x3, hg3, hv3⟩ := hall i hnn hlt
      obtain ⟨cq3, kq3, q3a, q3b, q3c⟩ := isOf hZ eJ2 cyJ2_0
      obtain ⟨_, _, ⟨T3, L3, kk3, nn3⟩, -, X3, ⟨Lc3, hQ3, lq3, yq3, zz3⟩, st3⟩ := XJ2.virtualBack hx (y := (⟨"java/lang/String", "charAt", "(I)C"⟩ : MethodName)) (z := (⟨"java/lang/String", "charAt", "(I)C"⟩ : MethodName)) hown (mvT hZ (ww hw 55 rfl)) (mvT hZ (ww hw 56 rfl)) (notFace_of_selects (args := #[]) (mvT hZ (ww hw 58 rfl))) (mvT hZ (ww hw 58 rfl)) (mvT hZ (ww hw 57 rfl)) (by decide) (own_back (W := 0) (ca0 l Z a0 hw [] a1 t1 k1 (64 : Int32) es i x3 i_COMPACT_STRINGS v_SIOOBE_FORMATTER hJ2 n0 OJ2 hnn hlt hg3 cyJ2_0 cyJ2_1 cyJ2_2 cyJ2_3 WW) hZ (ww hw 59 rfl) (ww hw 3 rfl) (by decide) (by decide)) q3a q3c (g := (mkF m 26 #[rv a1, iv 64, iv i] [(.int i), (.ref a1)])) rfl (by rw [hml]; rfl) (Steps.refl _) (argsL := [(.int i)]) (rest := []) (lenOf pd__I_C rfl) rfl (by show 2 * 0 + _ ≤ _; exact Nat.le_of_eq rfl) (hb hby d4_26) (fun _ _ => ⟨rfl, eJ2, (by decide : 0 + 0 ≤ _), (by decide : 0 + 0 ≤ _)⟩)
      dsimp only [Pt.U, Pt.locs, Pt.cells, Pt.slots] at X3 lq3 yq3 zz3 st3 hQ3
      subst lq3 yq3 zz3
      obtain ⟨rfl, Nq3, kq3⟩ := hQ3
      have N3 := Fr.app NJ2 Nq3
      refine Go.tr (f' := (mkF m 29 #[rv a1, iv 64, iv i] [(.int (caL x3))])) st3 ?_
      obtain ⟨_, _, ⟨T4, L4, kk4, nn4⟩, -, X4, ⟨Lc4, hQ4, lq4, yq4, zz4⟩, st4⟩ := Jvm.LawKit.callS X3 hx (y := (⟨"com/example/rulebridge/rulebridge/server/Id", "isIdCharacter", "(C)Z"⟩ : MethodName)) hown (mvT hZ (ww hw 77 rfl)) (mvT hZ (ww hw 78 rfl)) (mvT hZ (ww hw 28 rfl)) (mvT hZ (ww hw 79 rfl)) (by decide) (own_back (W := 0) (rmId l Z a0 hw [] (caL x3) hJ2 n0 OJ2) hZ (ww hw 79 rfl) (ww hw 28 rfl) (by decide) (by decide)) (g := (mkF m 29 #[rv a1, iv 64, iv i] [(.int (caL x3))])) rfl (by rw [hml]; rfl) (argsL := [(.int (caL x3))]) (rest := []) (lenOf pd__C_Z rfl) rfl (by show 2 * 0 + _ ≤ _; exact Nat.le_of_eq rfl) (hb hby d4_29) (fun _ _ => ⟨rfl, kq3, (by decide : 0 + 0 ≤ _), (by decide : 0 + 0 ≤ _)⟩)
      dsimp only [Pt.U, Pt.locs, Pt.cells, Pt.slots] at X4 lq4 yq4 zz4 st4 hQ4
      subst lq4 yq4 zz4
      obtain ⟨rfl, Nq4, kq4⟩ := hQ4
      have N4 := Fr.app N3 Nq4
      rw [hv3] at st4
      refine Go.st (f' := (mkF m 32 #[rv a1, iv 64, iv i] [(.int 1)])) (fun _ k => st4 _ k) ?_
      refine Go.st (f' := (mkF m 37 #[rv a1, iv 64, iv i] [])) (fun _ k => XS.ifYes X4.here hx rfl (pc0 := 32) (pc' := 37) rfl (hb hby d4_32) rfl (by decide) (by decide) (by decide) k) ?_
      refine Go.st (f' := (mkF m 40 #[rv a1, iv 64, .val (.int (i + (1 : Int32)))] [])) (fun _ k => XS.iinc X4.here hx rfl (hb hby d4_37) rfl (l' := #[rv a1, iv 64, .val (.int (i + (1 : Int32)))]) rfl k) ?_
      refine Go.st (f' := (mkF m 19 #[rv a1, iv 64, .val (.int (i + (1 : Int32)))] [])) (fun _ k => XS.goto X4.here hx rfl (pc0 := 40) (pc' := 19) rfl (hb hby d4_40) (by decide) (by decide) k) ?_
      have hinc := own_inc hi0 hlt
      exact ih _ hJ2 _ (i + (1 : Int32)) X4 kq4 OJ2 N4 cyJ2_0 cyJ2_1 cyJ2_2 cyJ2_3 cyJ2_4 cyJ2_5 (by omega) (by omega) hh
  exact LP 64 _ h0 _ (0 : Int32) X1 kq1 O0 N1 E_a1 F_a1_coder F_a1_value V_t1 lt_a1 lt_t1 (by decide) (by decide) rfl
theorem own_chr (x : Int32) : 0 ≤ (nar .char x).toInt ∧ (nar .char x).toInt < 65536 := ⟨(c_i2c x).2.1, (c_i2c x).2.2⟩
theorem own_m6 (x : Int32) : (x &&& (2147483647 : Int32)) % (6 : Int32) = (0 : Int32) ∨ (x &&& (2147483647 : Int32)) % (6 : Int32) = (1 : Int32) ∨ (x &&& (2147483647 : Int32)) % (6 : Int32) = (2 : Int32) ∨ (x &&& (2147483647 : Int32)) % (6 : Int32) = (3 : Int32) ∨ (x &&& (2147483647 : Int32)) % (6 : Int32) = (4 : Int32) ∨ (x &&& (2147483647 : Int32)) % (6 : Int32) = (5 : Int32) := by
  have m1 := (c_and x 2147483647 (by decide)).1
  have m2 := (c_irem (x &&& 2147483647) 6 6 (by decide)).1 m1
  have e : (0 : Int32).toInt = 0 ∧ (1 : Int32).toInt = 1 ∧ (2 : Int32).toInt = 2 ∧ (3 : Int32).toInt = 3 ∧ (4 : Int32).toInt = 4 ∧ (5 : Int32).toInt = 5 ∧ (6 : Int32).toInt = 6 := by decide
  simp only [← Int32.toInt_inj]
  omega
def QL (n0 : Nat) : Option Value → Heap → List Loc → Prop := fun v h L => v = some (.int (1 : Int32)) ∧ Fr n0 L
theorem pd__Ljava_lang_String__Z : parseMethodDescriptor "(Ljava/lang/String;)Z" = some ⟨[(.object "java/lang/String")], some .boolean⟩ := by decide +kernel
theorem pd___C_V : parseMethodDescriptor "([C)V" = some ⟨[(.array .char)], none⟩ := by decide +kernel
set_option maxRecDepth 65536 in
set_option maxHeartbeats 40000000 in
theorem rm0 (l : Launch) (Z : State) (a0 : Array Value) (hw : ∀ d ∈ tables_1, d.before a0 Z = true) (ws : List Jvm.Cond) (p1 : Int32) (p2 : Int32) (p3 : Int32) (p4 : Int32) (i_COMPACT_STRINGS : Int32) (v_SIOOBE_FORMATTER : Value) (h0 : Heap) (n0 : Nat) (O0 : Old Z n0 h0) (WW : World1 Z i_COMPACT_STRINGS v_SIOOBE_FORMATTER) :
    ConW l Z EL x code maxLocals ret ws room_1 #[(.int p1), (.int p2), (.int p3), (.int p4)] h0 (QL n0) := by
  refine own_bodyW (plainFor_of_name pn_com_example_rulebridge_rulebridge_server_IdIsValidPinLaw) ?_
  intro p e s m below meth c s₁ hx hby hml hZ hown hnm hlk hret X0 e0 hh hS CR0
  have hEL := own_EL hw
  have wS := own_wS hw
  have N0 := Fr.nil n0
  refine Go.st (T' := s₁) (f' := (mkF m 0 #[iv p1, iv p2, iv p3, iv p4, .unset, .unset, .unset, .unset, .unset, .unset, .unset, .unset, .unset, .unset, .unset, .unset] [])) (fun _ k => castTop (by first | (simp [entryFrame, mkF, argsToLocals, Value.category, maxLocals]; done) | rfl) k) ?_
  have ⟨S_i_COMPACT_STRINGS, nz_i_COMPACT_STRINGS, S_v_SIOOBE_FORMATTER, r_v_SIOOBE_FORMATTER, S_i__assertionsDisabled, S_i_HI_BYTE_SHIFT, S_i_LO_BYTE_SHIFT⟩ := WW
  refine Go.st (f' := (mkF m 1 #[iv p1, iv p2, iv p3, iv p4, .unset, .unset, .unset, .unset, .unset, .unset, .unset, .unset, .unset, .unset, .unset, .unset] [(.int p2)])) (fun _ k => XS.iloadN X0.here hx rfl (hb hby at_0) rfl k) ?_
  refine Go.st (f' := (mkF m 3 #[iv p1, iv p2, iv p3, iv p4, .unset, .unset, .unset, .unset, .unset, .unset, .unset, .unset, .unset, .unset, .unset, .unset] [(.int 65535), (.int p2)])) (fun _ k => X0.ldcInt hx hown (mvT hZ (ww hw 0 rfl)) (g := (mkF m 1 #[iv p1, iv p2, iv p3, iv p4, .unset, .unset, .unset, .unset, .unset, .unset, .unset, .unset, .unset, .unset, .unset, .unset] [(.int p2)])) rfl (hb hby at_1) _ k) ?_
  refine Go.st (f' := (mkF m 4 #[iv p1, iv p2, iv p3, iv p4, .unset, .unset, .unset, .unset, .unset, .unset, .unset, .unset, .unset, .unset, .unset, .unset] [(.int (p2 &&& (65535 : Int32)))])) (fun _ k => XS.iand X0.here hx rfl (hb hby at_3) rfl k) ?_
  refine Go.st (f' := (mkF m 5 #[iv p1, iv p2, iv p3, iv p4, .unset, .unset, .unset, .unset, .unset, .unset, .unset, .unset, .unset, .unset, .unset, .unset] [(.int ((p2 &&& (65535 : Int32)).toUInt32.toUInt16.toUInt32.toInt32))])) (fun _ k => XS.i2c X0.here hx rfl (hb hby at_4) rfl k) ?_
  obtain ⟨yy1, hyy1⟩ : ∃ z, z = ((p2 &&& (65535 : Int32)).toUInt32.toUInt16.toUInt32.toInt32) := ⟨_, rfl⟩
  rw [← hyy1]
  refine Go.st (f' := (mkF m 7 #[iv p1, iv p2, iv p3, iv p4, iv yy1, .unset, .unset, .unset, .unset, .unset, .unset, .unset, .unset, .unset, .unset, .unset] [])) (fun _ k => XS.istore X0.here hx rfl (hb hby at_5) rfl (l' := #[iv p1, iv p2, iv p3, iv p4, iv yy1, .unset, .unset, .unset, .unset, .unset, .unset, .unset, .unset, .unset, .unset, .unset]) rfl k) ?_
  refine Go.st (f' := (mkF m 8 #[iv p1, iv p2, iv p3, iv p4, iv yy1, .unset, .unset, .unset, .unset, .unset, .unset, .unset, .unset, .unset, .unset, .unset] [(.int p3)])) (fun _ k => XS.iloadN X0.here hx rfl (hb hby at_7) rfl k) ?_
  refine Go.st (f' := (mkF m 10 #[iv p1, iv p2, iv p3, iv p4, iv yy1, .unset, .unset, .unset, .unset, .unset, .unset, .unset, .unset, .unset, .unset, .unset] [(.int 65535), (.int p3)])) (fun _ k => X0.ldcInt hx hown (mvT hZ (ww hw 0 rfl)) (g := (mkF m 8 #[iv p1, iv p2, iv p3, iv p4, iv yy1, .unset, .unset, .unset, .unset, .unset, .unset, .unset, .unset, .unset, .unset, .unset] [(.int p3)])) rfl (hb hby at_8) _ k) ?_
  refine Go.st (f' := (mkF m 11 #[iv p1, iv p2, iv p3, iv p4, iv yy1, .unset, .unset, .unset, .unset, .unset, .unset, .unset, .unset, .unset, .unset, .unset] [(.int (p3 &&& (65535 : Int32)))])) (fun _ k => XS.iand X0.here hx rfl (hb hby at_10) rfl k) ?_
  refine Go.st (f' := (mkF m 12 #[iv p1, iv p2, iv p3, iv p4, iv yy1, .unset, .unset, .unset, .unset, .unset, .unset, .unset, .unset, .unset, .unset, .unset] [(.int ((p3 &&& (65535 : Int32)).toUInt32.toUInt16.toUInt32.toInt32))])) (fun _ k => XS.i2c X0.here hx rfl (hb hby at_11) rfl k) ?_
  obtain ⟨yy2, hyy2⟩ : ∃ z, z = ((p3 &&& (65535 : Int32)).toUInt32.toUInt16.toUInt32.toInt32) := ⟨_, rfl⟩
  rw [← hyy2]
  refine Go.st (f' := (mkF m 14 #[iv p1, iv p2, iv p3, iv p4, iv yy1, iv yy2, .unset, .unset, .unset, .unset, .unset, .unset, .unset, .unset, .unset, .unset] [])) (fun _ k => XS.istore X0.here hx rfl (hb hby at_12) rfl (l' := #[iv p1, iv p2, iv p3, iv p4, iv yy1, iv yy2, .unset, .unset, .unset, .unset, .unset, .unset, .unset, .unset, .unset, .unset]) rfl k) ?_
  refine Go.st (f' := (mkF m 15 #[iv p1, iv p2, iv p3, iv p4, iv yy1, iv yy2, .unset, .unset, .unset, .unset, .unset, .unset, .unset, .unset, .unset, .unset] [(.int p4)])) (fun _ k => XS.iloadN X0.here hx rfl (hb hby at_14) rfl k) ?_
  refine Go.st (f' := (mkF m 17 #[iv p1, iv p2, iv p3, iv p4, iv yy1, iv yy2, .unset, .unset, .unset, .unset, .unset, .unset, .unset, .unset, .unset, .unset] [(.int 65535), (.int p4)])) (fun _ k => X0.ldcInt hx hown (mvT hZ (ww hw 0 rfl)) (g := (mkF m 15 #[iv p1, iv p2, iv p3, iv p4, iv yy1, iv yy2, .unset, .unset, .unset, .unset, .unset, .unset, .unset, .unset, .unset, .unset] [(.int p4)])) rfl (hb hby at_15) _ k) ?_
  refine Go.st (f' := (mkF m 18 #[iv p1, iv p2, iv p3, iv p4, iv yy1, iv yy2, .unset, .unset, .unset, .unset, .unset, .unset, .unset, .unset, .unset, .unset] [(.int (p4 &&& (65535 : Int32)))])) (fun _ k => XS.iand X0.here hx rfl (hb hby at_17) rfl k) ?_
  refine Go.st (f' := (mkF m 19 #[iv p1, iv p2, iv p3, iv p4, iv yy1, iv yy2, .unset, .unset, .unset, .unset, .unset, .unset, .unset, .unset, .unset, .unset] [(.int ((p4 &&& (65535 : Int32)).toUInt32.toUInt16.toUInt32.toInt32))])) (fun _ k => XS.i2c X0.here hx rfl (hb hby at_18) rfl k) ?_
  obtain ⟨yy3, hyy3⟩ : ∃ z, z = ((p4 &&& (65535 : Int32)).toUInt32.toUInt16.toUInt32.toInt32) := ⟨_, rfl⟩
  rw [← hyy3]
  refine Go.st (f' := (mkF m 21 #[iv p1, iv p2, iv p3, iv p4, iv yy1, iv yy2, iv yy3, .unset, .unset, .unset, .unset, .unset, .unset, .unset, .unset, .unset] [])) (fun _ k => XS.istore X0.here hx rfl (hb hby at_19) rfl (l' := #[iv p1, iv p2, iv p3, iv p4, iv yy1, iv yy2, iv yy3, .unset, .unset, .unset, .unset, .unset, .unset, .unset, .unset, .unset]) rfl k) ?_
  refine Go.st (f' := (mkF m 22 #[iv p1, iv p2, iv p3, iv p4, iv yy1, iv yy2, iv yy3, .unset, .unset, .unset, .unset, .unset, .unset, .unset, .unset, .unset] [(.int p1)])) (fun _ k => XS.iloadN X0.here hx rfl (hb hby at_21) rfl k) ?_
  refine Go.st (f' := (mkF m 24 #[iv p1, iv p2, iv p3, iv p4, iv yy1, iv yy2, iv yy3, .unset, .unset, .unset, .unset, .unset, .unset, .unset, .unset, .unset] [(.int 2147483647), (.int p1)])) (fun _ k => X0.ldcInt hx hown (mvT hZ (ww hw 1 rfl)) (g := (mkF m 22 #[iv p1, iv p2, iv p3, iv p4, iv yy1, iv yy2, iv yy3, .unset, .unset, .unset, .unset, .unset, .unset, .unset, .unset, .unset] [(.int p1)])) rfl (hb hby at_22) _ k) ?_
  refine Go.st (f' := (mkF m 25 #[iv p1, iv p2, iv p3, iv p4, iv yy1, iv yy2, iv yy3, .unset, .unset, .unset, .unset, .unset, .unset, .unset, .unset, .unset] [(.int (p1 &&& (2147483647 : Int32)))])) (fun _ k => XS.iand X0.here hx rfl (hb hby at_24) rfl k) ?_
  refine Go.st (f' := (mkF m 27 #[iv p1, iv p2, iv p3, iv p4, iv yy1, iv yy2, iv yy3, .unset, .unset, .unset, .unset, .unset, .unset, .unset, .unset, .unset] [(.int 6), (.int (p1 &&& (2147483647 : Int32)))])) (fun _ k => XS.bipush X0.here hx rfl (hb hby at_25) k) ?_
  refine Go.st (f' := (mkF m 28 #[iv p1, iv p2, iv p3, iv p4, iv yy1, iv yy2, iv yy3, .unset, .unset, .unset, .unset, .unset, .unset, .unset, .unset, .unset] [(.int ((p1 &&& (2147483647 : Int32)) % (6 : Int32)))])) (fun _ k => iremM (g := (mkF m 27 #[.val (.int p1), .val (.int p2), .val (.int p3), .val (.int p4), .val (.int yy1), .val (.int yy2), .val (.int yy3), .unset, .unset, .unset, .unset, .unset, .unset, .unset, .unset, .unset] [(.int (6 : Int32)), (.int (p1 &&& (2147483647 : Int32)))])) X0 hx rfl (hb hby at_27) rfl (by decide) k) ?_
  obtain ⟨yy4, hyy4⟩ : ∃ z, z = ((p1 &&& (2147483647 : Int32)) % (6 : Int32)) := ⟨_, rfl⟩
  rw [← hyy4]
  refine Go.st (f' := (mkF m 30 #[iv p1, iv p2, iv p3, iv p4, iv yy1, iv yy2, iv yy3, iv yy4, .unset, .unset, .unset, .unset, .unset, .unset, .unset, .unset] [])) (fun _ k => XS.istore X0.here hx rfl (hb hby at_28) rfl (l' := #[iv p1, iv p2, iv p3, iv p4, iv yy1, iv yy2, iv yy3, iv yy4, .unset, .unset, .unset, .unset, .unset, .unset, .unset, .unset]) rfl k) ?_
  obtain ⟨b5, T5, h5, k15, t5, kt5, X5, e5, E5, hS5, hk5, hZ5, hown5, A5, cq5, fq5, vq5, lt_b5, lt_t5, crw5, -, sfx5, st5⟩ := ldcCH (EL := EL) X0 hx hZ hown (ww hw 2 rfl) wS e0 hS (Nat.zero_le _) hEL (List.mem_of_getElem? (i := 0) rfl) CR0.1 (vs := [(.int (65 : Int32)), (.int (66 : Int32)), (.int (67 : Int32)), (.int (68 : Int32)), (.int (69 : Int32)), (.int (70 : Int32)), (.int (71 : Int32)), (.int (72 : Int32)), (.int (73 : Int32)), (.int (74 : Int32)), (.int (75 : Int32)), (.int (76 : Int32)), (.int (77 : Int32)), (.int (78 : Int32)), (.int (79 : Int32)), (.int (80 : Int32)), (.int (81 : Int32)), (.int (82 : Int32)), (.int (83 : Int32)), (.int (84 : Int32)), (.int (85 : Int32)), (.int (86 : Int32)), (.int (87 : Int32)), (.int (88 : Int32)), (.int (89 : Int32)), (.int (90 : Int32)), (.int (97 : Int32)), (.int (98 : Int32)), (.int (99 : Int32)), (.int (100 : Int32)), (.int (101 : Int32)), (.int (102 : Int32)), (.int (103 : Int32)), (.int (104 : Int32)), (.int (105 : Int32)), (.int (106 : Int32)), (.int (107 : Int32)), (.int (108 : Int32)), (.int (109 : Int32)), (.int (110 : Int32)), (.int (111 : Int32)), (.int (112 : Int32)), (.int (113 : Int32)), (.int (114 : Int32)), (.int (115 : Int32)), (.int (116 : Int32)), (.int (117 : Int32)), (.int (118 : Int32)), (.int (119 : Int32)), (.int (120 : Int32)), (.int (121 : Int32)), (.int (122 : Int32)), (.int (48 : Int32)), (.int (49 : Int32)), (.int (50 : Int32)), (.int (51 : Int32)), (.int (52 : Int32)), (.int (53 : Int32)), (.int (54 : Int32)), (.int (55 : Int32)), (.int (56 : Int32)), (.int (57 : Int32)), (.int (95 : Int32)), (.int (45 : Int32))]) (z := (64 : Int32)) ⟨by decide, by decide⟩ (by decide) rfl (g := (mkF m 30 #[iv p1, iv p2, iv p3, iv p4, iv yy1, iv yy2, iv yy3, iv yy4, .unset, .unset, .unset, .unset, .unset, .unset, .unset, .unset] [])) rfl (hb hby at_30) (n := 256) (by decide) (by decide) (by decide) (by decide)
  have O5 : Old Z n0 h5 := O0.ext E5
  have CR5 := CR0.trans crw5
  refine Go.st (f' := (mkF m 32 #[iv p1, iv p2, iv p3, iv p4, iv yy1, iv yy2, iv yy3, iv yy4, .unset, .unset, .unset, .unset, .unset, .unset, .unset, .unset] [(.ref b5)])) (fun _ k => st5 _ k) ?_
  refine Go.st (f' := (mkF m 34 #[iv p1, iv p2, iv p3, iv p4, iv yy1, iv yy2, iv yy3, iv yy4, rv b5, .unset, .unset, .unset, .unset, .unset, .unset, .unset] [])) (fun _ k => XS.astore X5.here hx rfl (hb hby at_32) rfl rfl (l' := #[iv p1, iv p2, iv p3, iv p4, iv yy1, iv yy2, iv yy3, iv yy4, rv b5, .unset, .unset, .unset, .unset, .unset, .unset, .unset]) rfl k) ?_
  obtain ⟨b6, T6, h6, k16, t6, kt6, X6, e6, E6, hS6, hk6, hZ6, hown6, A6, cq6, fq6, vq6, lt_b6, lt_t6, crw6, -, sfx6, st6⟩ := ldcCH (EL := EL) X5 hx hZ5 hown5 (ww hw 10 rfl) wS e5 hS5 hk5 hEL (List.mem_of_getElem? (i := 1) rfl) CR5.1 (vs := [(.int (65 : Int32)), (.int (66 : Int32)), (.int (67 : Int32)), (.int (68 : Int32)), (.int (69 : Int32)), (.int (70 : Int32)), (.int (71 : Int32)), (.int (72 : Int32)), (.int (73 : Int32)), (.int (74 : Int32)), (.int (75 : Int32)), (.int (76 : Int32)), (.int (77 : Int32)), (.int (78 : Int32)), (.int (79 : Int32)), (.int (80 : Int32)), (.int (81 : Int32)), (.int (82 : Int32)), (.int (83 : Int32)), (.int (84 : Int32)), (.int (85 : Int32)), (.int (86 : Int32)), (.int (87 : Int32)), (.int (88 : Int32)), (.int (89 : Int32)), (.int (90 : Int32)), (.int (97 : Int32)), (.int (98 : Int32)), (.int (99 : Int32)), (.int (100 : Int32)), (.int (101 : Int32)), (.int (102 : Int32)), (.int (103 : Int32)), (.int (104 : Int32)), (.int (105 : Int32)), (.int (106 : Int32)), (.int (107 : Int32)), (.int (108 : Int32)), (.int (109 : Int32)), (.int (110 : Int32)), (.int (111 : Int32)), (.int (112 : Int32)), (.int (113 : Int32)), (.int (114 : Int32)), (.int (115 : Int32)), (.int (116 : Int32)), (.int (117 : Int32)), (.int (118 : Int32)), (.int (119 : Int32)), (.int (120 : Int32)), (.int (121 : Int32)), (.int (122 : Int32)), (.int (48 : Int32)), (.int (49 : Int32)), (.int (50 : Int32)), (.int (51 : Int32)), (.int (52 : Int32)), (.int (53 : Int32)), (.int (54 : Int32)), (.int (55 : Int32)), (.int (56 : Int32)), (.int (57 : Int32)), (.int (95 : Int32)), (.int (45 : Int32)), (.int (65 : Int32))]) (z := (65 : Int32)) ⟨by decide, by decide⟩ (by decide) rfl (g := (mkF m 34 #[iv p1, iv p2, iv p3, iv p4, iv yy1, iv yy2, iv yy3, iv yy4, rv b5, .unset, .unset, .unset, .unset, .unset, .unset, .unset] [])) rfl (hb hby at_34) (n := 260) (by decide) (by decide) (by decide) (by decide)
  have O6 : Old Z n0 h6 := O5.ext E6
  have CR6 := CR5.trans crw6
  refine Go.st (f' := (mkF m 36 #[iv p1, iv p2, iv p3, iv p4, iv yy1, iv yy2, iv yy3, iv yy4, rv b5, .unset, .unset, .unset, .unset, .unset, .unset, .unset] [(.ref b6)])) (fun _ k => st6 _ k) ?_
  refine Go.st (f' := (mkF m 38 #[iv p1, iv p2, iv p3, iv p4, iv yy1, iv yy2, iv yy3, iv yy4, rv b5, rv b6, .unset, .unset, .unset, .unset, .unset, .unset] [])) (fun _ k => XS.astore X6.here hx rfl (hb hby at_36) rfl rfl (l' := #[iv p1, iv p2, iv p3, iv p4, iv yy1, iv yy2, iv yy3, iv yy4, rv b5, rv b6, .unset, .unset, .unset, .unset, .unset, .unset]) rfl k) ?_
  refine Go.st (f' := (mkF m 40 #[iv p1, iv p2, iv p3, iv p4, iv yy1, iv yy2, iv yy3, iv yy4, rv b5, rv b6, .unset, .unset, .unset, .unset, .unset, .unset] [(.int yy4)])) (fun _ k => XS.iload X6.here hx rfl (hb hby at_38) rfl k) ?_
  refine Go.st (f' := (mkF m 41 #[iv p1, iv p2, iv p3, iv p4, iv yy1, iv yy2, iv yy3, iv yy4, rv b5, rv b6, .unset, .unset, .unset, .unset, .unset, .unset] [(.int 4), (.int yy4)])) (fun _ k => XS.iconst X6.here hx rfl (hb hby at_40) k) ?_
  by_cases cd7 : yy4 = (4 : Int32)
  · refine Go.st (f' := (mkF m 44 #[iv p1, iv p2, iv p3, iv p4, iv yy1, iv yy2, iv yy3, iv yy4, rv b5, rv b6, .unset, .unset, .unset, .unset, .unset, .unset] [])) (fun _ k => XS.icmpNo X6.here hx rfl (hb hby at_41) rfl (teq cd7).2 k) ?_
    refine Go.st (f' := (mkF m 46 #[iv p1, iv p2, iv p3, iv p4, iv yy1, iv yy2, iv yy3, iv yy4, rv b5, rv b6, .unset, .unset, .unset, .unset, .unset, .unset] [(.ref b5)])) (fun _ k => XS.aload X6.here hx rfl (hb hby at_44) rfl rfl k) ?_
    have ft9 := (A5.ext E6)
    have ft10 := (cq5.ext E6)
    have ft11 := (fq5.ext E6)
    have ft12 := (vq5.ext E6)
    obtain ⟨cq8, kq8, q8a, q8b, q8c⟩ := isOf hZ6 e6 ft9
    obtain ⟨_, _, ⟨T8, L8, kk8, nn8⟩, -, X8, ⟨Lc8, hQ8, lq8, yq8, zz8⟩, st8⟩ := X6.virtualBack hx (y := (⟨"java/lang/String", "length", "()I"⟩ : MethodName)) (z := (⟨"java/lang/String", "length", "()I"⟩ : MethodName)) hown6 (mvT hZ6 (ww hw 80 rfl)) (mvT hZ6 (ww hw 31 rfl)) (notFace_of_selects (args := #[]) (mvT hZ6 (ww hw 33 rfl))) (mvT hZ6 (ww hw 33 rfl)) (mvT hZ6 (ww hw 32 rfl)) (by decide) (own_back (W := 0) (ln_64_0 l Z a0 hw [] b5 t5 kt5 [(.int (65 : Int32)), (.int (66 : Int32)), (.int (67 : Int32)), (.int (68 : Int32)), (.int (69 : Int32)), (.int (70 : Int32)), (.int (71 : Int32)), (.int (72 : Int32)), (.int (73 : Int32)), (.int (74 : Int32)), (.int (75 : Int32)), (.int (76 : Int32)), (.int (77 : Int32)), (.int (78 : Int32)), (.int (79 : Int32)), (.int (80 : Int32)), (.int (81 : Int32)), (.int (82 : Int32)), (.int (83 : Int32)), (.int (84 : Int32)), (.int (85 : Int32)), (.int (86 : Int32)), (.int (87 : Int32)), (.int (88 : Int32)), (.int (89 : Int32)), (.int (90 : Int32)), (.int (97 : Int32)), (.int (98 : Int32)), (.int (99 : Int32)), (.int (100 : Int32)), (.int (101 : Int32)), (.int (102 : Int32)), (.int (103 : Int32)), (.int (104 : Int32)), (.int (105 : Int32)), (.int (106 : Int32)), (.int (107 : Int32)), (.int (108 : Int32)), (.int (109 : Int32)), (.int (110 : Int32)), (.int (111 : Int32)), (.int (112 : Int32)), (.int (113 : Int32)), (.int (114 : Int32)), (.int (115 : Int32)), (.int (116 : Int32)), (.int (117 : Int32)), (.int (118 : Int32)), (.int (119 : Int32)), (.int (120 : Int32)), (.int (121 : Int32)), (.int (122 : Int32)), (.int (48 : Int32)), (.int (49 : Int32)), (.int (50 : Int32)), (.int (51 : Int32)), (.int (52 : Int32)), (.int (53 : Int32)), (.int (54 : Int32)), (.int (55 : Int32)), (.int (56 : Int32)), (.int (57 : Int32)), (.int (95 : Int32)), (.int (45 : Int32))] i_COMPACT_STRINGS v_SIOOBE_FORMATTER h6 n0 O6 ft9 ft10 ft11 ft12 WW) hZ6 (ww hw 34 rfl) (ww hw 3 rfl) (by decide) (by decide)) q8a q8c (g := (mkF m 46 #[iv p1, iv p2, iv p3, iv p4, iv yy1, iv yy2, iv yy3, iv yy4, rv b5, rv b6, .unset, .unset, .unset, .unset, .unset, .unset] [(.ref b5)])) rfl (by rw [hml]; rfl) (Steps.refl _) (argsL := []) (rest := []) (lenOf pd___I rfl) rfl (by show 2 * 0 + _ ≤ _; exact Nat.le_of_eq rfl) (hb hby at_46) (fun _ _ => ⟨rfl, e6, (by decide : 4 + 0 ≤ _), (by decide : 524 + 0 ≤ _)⟩)
    dsimp only [Pt.U, Pt.locs, Pt.cells, Pt.slots] at X8 lq8 yq8 zz8 st8 hQ8
    subst lq8 yq8 zz8
    obtain ⟨rfl, Nq8, kq8⟩ := hQ8
    have N8 := Fr.app N0 Nq8
    refine Go.tr (f' := (mkF m 49 #[iv p1, iv p2, iv p3, iv p4, iv yy1, iv yy2, iv yy3, iv yy4, rv b5, rv b6, .unset, .unset, .unset, .unset, .unset, .unset] [(.int 64)])) st8 ?_
    refine Go.st (f' := (mkF m 51 #[iv p1, iv p2, iv p3, iv p4, iv yy1, iv yy2, iv yy3, iv yy4, rv b5, rv b6, .unset, .unset, .unset, .unset, .unset, .unset] [(.int 64), (.int 64)])) (fun _ k => XS.bipush X8.here hx rfl (hb hby at_49) k) ?_
    refine Go.st (f' := (mkF m 54 #[iv p1, iv p2, iv p3, iv p4, iv yy1, iv yy2, iv yy3, iv yy4, rv b5, rv b6, .unset, .unset, .unset, .unset, .unset, .unset] [])) (fun _ k => XS.icmpNo X8.here hx rfl (hb hby at_51) rfl (by decide) k) ?_
    refine Go.st (f' := (mkF m 56 #[iv p1, iv p2, iv p3, iv p4, iv yy1, iv yy2, iv yy3, iv yy4, rv b5, rv b6, .unset, .unset, .unset, .unset, .unset, .unset] [(.ref b5)])) (fun _ k => XS.aload X8.here hx rfl (hb hby at_54) rfl rfl k) ?_
    obtain ⟨_, _, ⟨T13, L13, kk13, nn13⟩, -, X13, ⟨Lc13, hQ13, lq13, yq13, zz13⟩, st13⟩ := Jvm.LawKit.callS X8 hx (y := (⟨"com/example/rulebridge/rulebridge/server/Id", "isValid", "(Ljava/lang/String;)Z"⟩ : MethodName)) hown6 (mvT hZ6 (ww hw 26 rfl)) (mvT hZ6 (ww hw 27 rfl)) (mvT hZ6 (ww hw 28 rfl)) (mvT hZ6 (ww hw 29 rfl)) (by decide) (own_back (W := 0) (va_64 l Z a0 hw [] b5 t5 kt5 [(.int (65 : Int32)), (.int (66 : Int32)), (.int (67 : Int32)), (.int (68 : Int32)), (.int (69 : Int32)), (.int (70 : Int32)), (.int (71 : Int32)), (.int (72 : Int32)), (.int (73 : Int32)), (.int (74 : Int32)), (.int (75 : Int32)), (.int (76 : Int32)), (.int (77 : Int32)), (.int (78 : Int32)), (.int (79 : Int32)), (.int (80 : Int32)), (.int (81 : Int32)), (.int (82 : Int32)), (.int (83 : Int32)), (.int (84 : Int32)), (.int (85 : Int32)), (.int (86 : Int32)), (.int (87 : Int32)), (.int (88 : Int32)), (.int (89 : Int32)), (.int (90 : Int32)), (.int (97 : Int32)), (.int (98 : Int32)), (.int (99 : Int32)), (.int (100 : Int32)), (.int (101 : Int32)), (.int (102 : Int32)), (.int (103 : Int32)), (.int (104 : Int32)), (.int (105 : Int32)), (.int (106 : Int32)), (.int (107 : Int32)), (.int (108 : Int32)), (.int (109 : Int32)), (.int (110 : Int32)), (.int (111 : Int32)), (.int (112 : Int32)), (.int (113 : Int32)), (.int (114 : Int32)), (.int (115 : Int32)), (.int (116 : Int32)), (.int (117 : Int32)), (.int (118 : Int32)), (.int (119 : Int32)), (.int (120 : Int32)), (.int (121 : Int32)), (.int (122 : Int32)), (.int (48 : Int32)), (.int (49 : Int32)), (.int (50 : Int32)), (.int (51 : Int32)), (.int (52 : Int32)), (.int (53 : Int32)), (.int (54 : Int32)), (.int (55 : Int32)), (.int (56 : Int32)), (.int (57 : Int32)), (.int (95 : Int32)), (.int (45 : Int32))] i_COMPACT_STRINGS v_SIOOBE_FORMATTER h6 n0 O6 (own_all (by decide +kernel) rfl) ft9 ft10 ft11 ft12 WW) hZ6 (ww hw 29 rfl) (ww hw 28 rfl) (by decide) (by decide)) (g := (mkF m 56 #[iv p1, iv p2, iv p3, iv p4, iv yy1, iv yy2, iv yy3, iv yy4, rv b5, rv b6, .unset, .unset, .unset, .unset, .unset, .unset] [(.ref b5)])) rfl (by rw [hml]; rfl) (argsL := [(.ref b5)]) (rest := []) (lenOf pd__Ljava_lang_String__Z rfl) rfl (by show 2 * 0 + _ ≤ _; exact Nat.le_of_eq rfl) (hb hby at_56) (fun _ _ => ⟨rfl, kq8, (by decide : 4 + 0 ≤ _), (by decide : 524 + 0 ≤ _)⟩)
    dsimp only [Pt.U, Pt.locs, Pt.cells, Pt.slots] at X13 lq13 yq13 zz13 st13 hQ13
    subst lq13 yq13 zz13
    obtain ⟨rfl, Nq13, kq13⟩ := hQ13
    have N13 := Fr.app N8 Nq13
    refine Go.st (f' := (mkF m 59 #[iv p1, iv p2, iv p3, iv p4, iv yy1, iv yy2, iv yy3, iv yy4, rv b5, rv b6, .unset, .unset, .unset, .unset, .unset, .unset] [(.int 1)])) (fun _ k => st13 _ k) ?_
    refine Go.st (f' := (mkF m 62 #[iv p1, iv p2, iv p3, iv p4, iv yy1, iv yy2, iv yy3, iv yy4, rv b5, rv b6, .unset, .unset, .unset, .unset, .unset, .unset] [])) (fun _ k => XS.ifNo X13.here hx rfl (hb hby at_59) rfl (by decide) k) ?_
    refine Go.st (f' := (mkF m 63 #[iv p1, iv p2, iv p3, iv p4, iv yy1, iv yy2, iv yy3, iv yy4, rv b5, rv b6, .unset, .unset, .unset, .unset, .unset, .unset] [(.int 1)])) (fun _ k => XS.iconst X13.here hx rfl (hb hby at_62) k) ?_
    refine Go.st (f' := (mkF m 67 #[iv p1, iv p2, iv p3, iv p4, iv yy1, iv yy2, iv yy3, iv yy4, rv b5, rv b6, .unset, .unset, .unset, .unset, .unset, .unset] [(.int 1)])) (fun _ k => XS.goto X13.here hx rfl (pc0 := 63) (pc' := 67) rfl (hb hby at_63) (by decide) (by decide) k) ?_
    refine GoW.retB X13 hlk hx (t := .boolean) hret (by simp) (hb hby at_67) kq13 hS6 hk6 hZ6 hEL CR6 hh ?_ (by decide) (by decide)
    exact ⟨rfl, N13⟩
  · refine Go.st (f' := (mkF m 68 #[iv p1, iv p2, iv p3, iv p4, iv yy1, iv yy2, iv yy3, iv yy4, rv b5, rv b6, .unset, .unset, .unset, .unset, .unset, .unset] [])) (fun _ k => XS.icmpYes X6.here hx rfl (pc0 := 41) (pc' := 68) rfl (hb hby at_41) rfl (feq cd7).2 (by decide) (by decide) k) ?_
    refine Go.st (f' := (mkF m 70 #[iv p1, iv p2, iv p3, iv p4, iv yy1, iv yy2, iv yy3, iv yy4, rv b5, rv b6, .unset, .unset, .unset, .unset, .unset, .unset] [(.int yy4)])) (fun _ k => XS.iload X6.here hx rfl (hb hby at_68) rfl k) ?_
    refine Go.st (f' := (mkF m 71 #[iv p1, iv p2, iv p3, iv p4, iv yy1, iv yy2, iv yy3, iv yy4, rv b5, rv b6, .unset, .unset, .unset, .unset, .unset, .unset] [(.int 5), (.int yy4)])) (fun _ k => XS.iconst X6.here hx rfl (hb hby at_70) k) ?_
    by_cases cd14 : yy4 = (5 : Int32)
    · refine Go.st (f' := (mkF m 74 #[iv p1, iv p2, iv p3, iv p4, iv yy1, iv yy2, iv yy3, iv yy4, rv b5, rv b6, .unset, .unset, .unset, .unset, .unset, .unset] [])) (fun _ k => XS.icmpNo X6.here hx rfl (hb hby at_71) rfl (teq cd14).2 k) ?_
      refine Go.st (f' := (mkF m 76 #[iv p1, iv p2, iv p3, iv p4, iv yy1, iv yy2, iv yy3, iv yy4, rv b5, rv b6, .unset, .unset, .unset, .unset, .unset, .unset] [(.ref b6)])) (fun _ k => XS.aload X6.here hx rfl (hb hby at_74) rfl rfl k) ?_
      obtain ⟨cq15, kq15, q15a, q15b, q15c⟩ := isOf hZ6 e6 A6
      obtain ⟨_, _, ⟨T15, L15, kk15, nn15⟩, -, X15, ⟨Lc15, hQ15, lq15, yq15, zz15⟩, st15⟩ := X6.virtualBack hx (y := (⟨"java/lang/String", "length", "()I"⟩ : MethodName)) (z := (⟨"java/lang/String", "length", "()I"⟩ : MethodName)) hown6 (mvT hZ6 (ww hw 80 rfl)) (mvT hZ6 (ww hw 31 rfl)) (notFace_of_selects (args := #[]) (mvT hZ6 (ww hw 33 rfl))) (mvT hZ6 (ww hw 33 rfl)) (mvT hZ6 (ww hw 32 rfl)) (by decide) (own_back (W := 0) (ln_65_0 l Z a0 hw [] b6 t6 kt6 [(.int (65 : Int32)), (.int (66 : Int32)), (.int (67 : Int32)), (.int (68 : Int32)), (.int (69 : Int32)), (.int (70 : Int32)), (.int (71 : Int32)), (.int (72 : Int32)), (.int (73 : Int32)), (.int (74 : Int32)), (.int (75 : Int32)), (.int (76 : Int32)), (.int (77 : Int32)), (.int (78 : Int32)), (.int (79 : Int32)), (.int (80 : Int32)), (.int (81 : Int32)), (.int (82 : Int32)), (.int (83 : Int32)), (.int (84 : Int32)), (.int (85 : Int32)), (.int (86 : Int32)), (.int (87 : Int32)), (.int (88 : Int32)), (.int (89 : Int32)), (.int (90 : Int32)), (.int (97 : Int32)), (.int (98 : Int32)), (.int (99 : Int32)), (.int (100 : Int32)), (.int (101 : Int32)), (.int (102 : Int32)), (.int (103 : Int32)), (.int (104 : Int32)), (.int (105 : Int32)), (.int (106 : Int32)), (.int (107 : Int32)), (.int (108 : Int32)), (.int (109 : Int32)), (.int (110 : Int32)), (.int (111 : Int32)), (.int (112 : Int32)), (.int (113 : Int32)), (.int (114 : Int32)), (.int (115 : Int32)), (.int (116 : Int32)), (.int (117 : Int32)), (.int (118 : Int32)), (.int (119 : Int32)), (.int (120 : Int32)), (.int (121 : Int32)), (.int (122 : Int32)), (.int (48 : Int32)), (.int (49 : Int32)), (.int (50 : Int32)), (.int (51 : Int32)), (.int (52 : Int32)), (.int (53 : Int32)), (.int (54 : Int32)), (.int (55 : Int32)), (.int (56 : Int32)), (.int (57 : Int32)), (.int (95 : Int32)), (.int (45 : Int32)), (.int (65 : Int32))] i_COMPACT_STRINGS v_SIOOBE_FORMATTER h6 n0 O6 A6 cq6 fq6 vq6 WW) hZ6 (ww hw 34 rfl) (ww hw 3 rfl) (by decide) (by decide)) q15a q15c (g := (mkF m 76 #[iv p1, iv p2, iv p3, iv p4, iv yy1, iv yy2, iv yy3, iv yy4, rv b5, rv b6, .unset, .unset, .unset, .unset, .unset, .unset] [(.ref b6)])) rfl (by rw [hml]; rfl) (Steps.refl _) (argsL := []) (rest := []) (lenOf pd___I rfl) rfl (by show 2 * 0 + _ ≤ _; exact Nat.le_of_eq rfl) (hb hby at_76) (fun _ _ => ⟨rfl, e6, (by decide : 4 + 0 ≤ _), (by decide : 524 + 0 ≤ _)⟩)
      dsimp only [Pt.U, Pt.locs, Pt.cells, Pt.slots] at X15 lq15 yq15 zz15 st15 hQ15
      subst lq15 yq15 zz15
      obtain ⟨rfl, Nq15, kq15⟩ := hQ15
      have N15 := Fr.app N0 Nq15
      refine Go.tr (f' := (mkF m 79 #[iv p1, iv p2, iv p3, iv p4, iv yy1, iv yy2, iv yy3, iv yy4, rv b5, rv b6, .unset, .unset, .unset, .unset, .unset, .unset] [(.int 65)])) st15 ?_
      refine Go.st (f' := (mkF m 81 #[iv p1, iv p2, iv p3, iv p4, iv yy1, iv yy2, iv yy3, iv yy4, rv b5, rv b6, .unset, .unset, .unset, .unset, .unset, .unset] [(.int 65), (.int 65)])) (fun _ k => XS.bipush X15.here hx rfl (hb hby at_79) k) ?_
      refine Go.st (f' := (mkF m 84 #[iv p1, iv p2, iv p3, iv p4, iv yy1, iv yy2, iv yy3, iv yy4, rv b5, rv b6, .unset, .unset, .unset, .unset, .unset, .unset] [])) (fun _ k => XS.icmpNo X15.here hx rfl (hb hby at_81) rfl (by decide) k) ?_
      refine Go.st (f' := (mkF m 86 #[iv p1, iv p2, iv p3, iv p4, iv yy1, iv yy2, iv yy3, iv yy4, rv b5, rv b6, .unset, .unset, .unset, .unset, .unset, .unset] [(.ref b6)])) (fun _ k => XS.aload X15.here hx rfl (hb hby at_84) rfl rfl k) ?_
      obtain ⟨_, _, ⟨T16, L16, kk16, nn16⟩, -, X16, ⟨Lc16, hQ16, lq16, yq16, zz16⟩, st16⟩ := Jvm.LawKit.callS X15 hx (y := (⟨"com/example/rulebridge/rulebridge/server/Id", "isValid", "(Ljava/lang/String;)Z"⟩ : MethodName)) hown6 (mvT hZ6 (ww hw 26 rfl)) (mvT hZ6 (ww hw 27 rfl)) (mvT hZ6 (ww hw 28 rfl)) (mvT hZ6 (ww hw 29 rfl)) (by decide) (own_back (W := 0) (va_65 l Z a0 hw [] b6 t6 kt6 [(.int (65 : Int32)), (.int (66 : Int32)), (.int (67 : Int32)), (.int (68 : Int32)), (.int (69 : Int32)), (.int (70 : Int32)), (.int (71 : Int32)), (.int (72 : Int32)), (.int (73 : Int32)), (.int (74 : Int32)), (.int (75 : Int32)), (.int (76 : Int32)), (.int (77 : Int32)), (.int (78 : Int32)), (.int (79 : Int32)), (.int (80 : Int32)), (.int (81 : Int32)), (.int (82 : Int32)), (.int (83 : Int32)), (.int (84 : Int32)), (.int (85 : Int32)), (.int (86 : Int32)), (.int (87 : Int32)), (.int (88 : Int32)), (.int (89 : Int32)), (.int (90 : Int32)), (.int (97 : Int32)), (.int (98 : Int32)), (.int (99 : Int32)), (.int (100 : Int32)), (.int (101 : Int32)), (.int (102 : Int32)), (.int (103 : Int32)), (.int (104 : Int32)), (.int (105 : Int32)), (.int (106 : Int32)), (.int (107 : Int32)), (.int (108 : Int32)), (.int (109 : Int32)), (.int (110 : Int32)), (.int (111 : Int32)), (.int (112 : Int32)), (.int (113 : Int32)), (.int (114 : Int32)), (.int (115 : Int32)), (.int (116 : Int32)), (.int (117 : Int32)), (.int (118 : Int32)), (.int (119 : Int32)), (.int (120 : Int32)), (.int (121 : Int32)), (.int (122 : Int32)), (.int (48 : Int32)), (.int (49 : Int32)), (.int (50 : Int32)), (.int (51 : Int32)), (.int (52 : Int32)), (.int (53 : Int32)), (.int (54 : Int32)), (.int (55 : Int32)), (.int (56 : Int32)), (.int (57 : Int32)), (.int (95 : Int32)), (.int (45 : Int32)), (.int (65 : Int32))] i_COMPACT_STRINGS v_SIOOBE_FORMATTER h6 n0 O6 A6 cq6 fq6 vq6 WW) hZ6 (ww hw 29 rfl) (ww hw 28 rfl) (by decide) (by decide)) (g := (mkF m 86 #[iv p1, iv p2, iv p3, iv p4, iv yy1, iv yy2, iv yy3, iv yy4, rv b5, rv b6, .unset, .unset, .unset, .unset, .unset, .unset] [(.ref b6)])) rfl (by rw [hml]; rfl) (argsL := [(.ref b6)]) (rest := []) (lenOf pd__Ljava_lang_String__Z rfl) rfl (by show 2 * 0 + _ ≤ _; exact Nat.le_of_eq rfl) (hb hby at_86) (fun _ _ => ⟨rfl, kq15, (by decide : 4 + 0 ≤ _), (by decide : 524 + 0 ≤ _)⟩)
      dsimp only [Pt.U, Pt.locs, Pt.cells, Pt.slots] at X16 lq16 yq16 zz16 st16 hQ16
      subst lq16 yq16 zz16
      obtain ⟨rfl, Nq16, kq16⟩ := hQ16
      have N16 := Fr.app N15 Nq16
      refine Go.st (f' := (mkF m 89 #[iv p1, iv p2, iv p3, iv p4, iv yy1, iv yy2, iv yy3, iv yy4, rv b5, rv b6, .unset, .unset, .unset, .unset, .unset, .unset] [(.int 0)])) (fun _ k => st16 _ k) ?_
      refine Go.st (f' := (mkF m 92 #[iv p1, iv p2, iv p3, iv p4, iv yy1, iv yy2, iv yy3, iv yy4, rv b5, rv b6, .unset, .unset, .unset, .unset, .unset, .unset] [])) (fun _ k => XS.ifNo X16.here hx rfl (hb hby at_89) rfl (by decide) k) ?_
      refine Go.st (f' := (mkF m 93 #[iv p1, iv p2, iv p3, iv p4, iv yy1, iv yy2, iv yy3, iv yy4, rv b5, rv b6, .unset, .unset, .unset, .unset, .unset, .unset] [(.int 1)])) (fun _ k => XS.iconst X16.here hx rfl (hb hby at_92) k) ?_
      refine Go.st (f' := (mkF m 97 #[iv p1, iv p2, iv p3, iv p4, iv yy1, iv yy2, iv yy3, iv yy4, rv b5, rv b6, .unset, .unset, .unset, .unset, .unset, .unset] [(.int 1)])) (fun _ k => XS.goto X16.here hx rfl (pc0 := 93) (pc' := 97) rfl (hb hby at_93) (by decide) (by decide) k) ?_
      refine GoW.retB X16 hlk hx (t := .boolean) hret (by simp) (hb hby at_97) kq16 hS6 hk6 hZ6 hEL CR6 hh ?_ (by decide) (by decide)
      exact ⟨rfl, N16⟩
    · refine Go.st (f' := (mkF m 98 #[iv p1, iv p2, iv p3, iv p4, iv yy1, iv yy2, iv yy3, iv yy4, rv b5, rv b6, .unset, .unset, .unset, .unset, .unset, .unset] [])) (fun _ k => XS.icmpYes X6.here hx rfl (pc0 := 71) (pc' := 98) rfl (hb hby at_71) rfl (feq cd14).2 (by decide) (by decide) k) ?_
      refine Go.st (f' := (mkF m 99 #[iv p1, iv p2, iv p3, iv p4, iv yy1, iv yy2, iv yy3, iv yy4, rv b5, rv b6, .unset, .unset, .unset, .unset, .unset, .unset] [(.int 0)])) (fun _ k => XS.iconst X6.here hx rfl (hb hby at_98) k) ?_
      obtain ⟨T17, h17, kc17, X17, e17, E17, A17, st17⟩ := newP X6 hx hZ6 (ww hw 11 rfl) e6 (g := (mkF m 99 #[iv p1, iv p2, iv p3, iv p4, iv yy1, iv yy2, iv yy3, iv yy4, rv b5, rv b6, .unset, .unset, .unset, .unset, .unset, .unset] [(.int 0)])) rfl (hb hby at_99) rfl (by decide) (cap := 0) (by decide) (by decide) (by decide) (by decide)
      obtain ⟨b17, g17⟩ : ∃ z, z = h6.size := ⟨_, rfl⟩
      rw [← g17] at A17 st17
      have ft18 := (Nat.lt_of_lt_of_le lt_b5 E6.1)
      have ne_b5_b17 : b5 ≠ b17 := Nat.ne_of_lt (Nat.lt_of_lt_of_eq ft18 g17.symm)
      have ft19 := (Nat.lt_of_lt_of_le lt_t5 E6.1)
      have ne_t5_b17 : t5 ≠ b17 := Nat.ne_of_lt (Nat.lt_of_lt_of_eq ft19 g17.symm)
      have ne_b6_b17 : b6 ≠ b17 := Nat.ne_of_lt (Nat.lt_of_lt_of_eq lt_b6 g17.symm)
      have ne_t6_b17 : t6 ≠ b17 := Nat.ne_of_lt (Nat.lt_of_lt_of_eq lt_t6 g17.symm)
      have g_b17 : n0 ≤ b17 := Nat.le_trans (O6.1 ▸ O6.2.1) (Nat.le_of_eq g17.symm)
      have O17 : Old Z n0 h17 := O6.ext E17
      have CR17 : CHr Z EL s.vm h0 T6.vm h17 := CR6.trans (CHr.ext E17 CR6.1)
      have sf_b17 : Safe Z EL T6.vm h17 b17 := (Safe.new (Nat.le_of_eq g17.symm)).ext E17 CR6.1
      have V_b17 : Arv Z h17 b17 kc17 .char (0 : Int32) [] (.int (0 : Int32)) := Arv.new A17 (by decide)
      have lt_b17 := V_b17.lt
      refine Go.st (f' := (mkF m 101 #[iv p1, iv p2, iv p3, iv p4, iv yy1, iv yy2, iv yy3, iv yy4, rv b5, rv b6, .unset, .unset, .unset, .unset, .unset, .unset] [(.ref b17)])) (fun _ k => st17 _ k) ?_
      refine Go.st (f' := (mkF m 103 #[iv p1, iv p2, iv p3, iv p4, iv yy1, iv yy2, iv yy3, iv yy4, rv b5, rv b6, rv b17, .unset, .unset, .unset, .unset, .unset] [])) (fun _ k => XS.astore X17.here hx rfl (hb hby at_101) rfl rfl (l' := #[iv p1, iv p2, iv p3, iv p4, iv yy1, iv yy2, iv yy3, iv yy4, rv b5, rv b6, rv b17, .unset, .unset, .unset, .unset, .unset]) rfl k) ?_
      refine Go.st (f' := (mkF m 104 #[iv p1, iv p2, iv p3, iv p4, iv yy1, iv yy2, iv yy3, iv yy4, rv b5, rv b6, rv b17, .unset, .unset, .unset, .unset, .unset] [(.int 1)])) (fun _ k => XS.iconst X17.here hx rfl (hb hby at_103) k) ?_
      obtain ⟨T20, h20, kc20, X20, e20, E20, A20, st20⟩ := newP X17 hx hZ6 (ww hw 11 rfl) e17 (g := (mkF m 104 #[iv p1, iv p2, iv p3, iv p4, iv yy1, iv yy2, iv yy3, iv yy4, rv b5, rv b6, rv b17, .unset, .unset, .unset, .unset, .unset] [(.int 1)])) rfl (hb hby at_104) rfl (by decide) (cap := 1) (by decide) (by decide) (by decide) (by decide)
      obtain ⟨b20, g20⟩ : ∃ z, z = h17.size := ⟨_, rfl⟩
      rw [← g20] at A20 st20
      have ft21 := (Nat.lt_of_lt_of_le ft18 E17.1)
      have ne_b5_b20 : b5 ≠ b20 := Nat.ne_of_lt (Nat.lt_of_lt_of_eq ft21 g20.symm)
      have ft22 := (Nat.lt_of_lt_of_le ft19 E17.1)
      have ne_t5_b20 : t5 ≠ b20 := Nat.ne_of_lt (Nat.lt_of_lt_of_eq ft22 g20.symm)
      have ft23 := (Nat.lt_of_lt_of_le lt_b6 E17.1)
      have ne_b6_b20 : b6 ≠ b20 := Nat.ne_of_lt (Nat.lt_of_lt_of_eq ft23 g20.symm)
      have ft24 := (Nat.lt_of_lt_of_le lt_t6 E17.1)
      have ne_t6_b20 : t6 ≠ b20 := Nat.ne_of_lt (Nat.lt_of_lt_of_eq ft24 g20.symm)
      have ne_b17_b20 : b17 ≠ b20 := Nat.ne_of_lt (Nat.lt_of_lt_of_eq lt_b17 g20.symm)
      have g_b20 : n0 ≤ b20 := Nat.le_trans (O17.1 ▸ O17.2.1) (Nat.le_of_eq g20.symm)
      have O20 : Old Z n0 h20 := O17.ext E20
      have CR20 : CHr Z EL s.vm h0 T6.vm h20 := CR17.trans (CHr.ext E20 CR17.1)
      have sf_b20 : Safe Z EL T6.vm h20 b20 := (Safe.new (Nat.le_of_eq g20.symm)).ext E20 CR17.1
      have V_b20 : Arv Z h20 b20 kc20 .char (1 : Int32) [(.int (0 : Int32))] (.int (0 : Int32)) := (Arv.new A20 (by decide)).pad (pad_rep [] (.int (0 : Int32)) 1)
      have lt_b20 := V_b20.lt
      refine Go.st (f' := (mkF m 106 #[iv p1, iv p2, iv p3, iv p4, iv yy1, iv yy2, iv yy3, iv yy4, rv b5, rv b6, rv b17, .unset, .unset, .unset, .unset, .unset] [(.ref b20)])) (fun _ k => st20 _ k) ?_
      refine Go.st (f' := (mkF m 107 #[iv p1, iv p2, iv p3, iv p4, iv yy1, iv yy2, iv yy3, iv yy4, rv b5, rv b6, rv b17, .unset, .unset, .unset, .unset, .unset] [(.ref b20), (.ref b20)])) (fun _ k => XS.dup X20.here hx rfl (hb hby at_106) rfl rfl k) ?_
      refine Go.st (f' := (mkF m 108 #[iv p1, iv p2, iv p3, iv p4, iv yy1, iv yy2, iv yy3, iv yy4, rv b5, rv b6, rv b17, .unset, .unset, .unset, .unset, .unset] [(.int 0), (.ref b20), (.ref b20)])) (fun _ k => XS.iconst X20.here hx rfl (hb hby at_107) k) ?_
      refine Go.st (f' := (mkF m 110 #[iv p1, iv p2, iv p3, iv p4, iv yy1, iv yy2, iv yy3, iv yy4, rv b5, rv b6, rv b17, .unset, .unset, .unset, .unset, .unset] [(.int yy1), (.int 0), (.ref b20), (.ref b20)])) (fun _ k => XS.iload X20.here hx rfl (hb hby at_108) rfl k) ?_
      obtain ⟨cl25, Ar25, q25, S25, Nx25, H25, G25⟩ := id V_b20
      have hin25 : ¬ ((0 : Int32) < 0 ∨ cl25.slots.size ≤ ((0 : Int32)).toNatClampNeg) := inb_of S25 ⟨by decide, by decide⟩
      obtain ⟨T26, h26, X26, e26, W26, st26⟩ := stC X20 hx hZ6 e20 Ar25 (j := (0 : Int32)) hin25 (g := (mkF m 110 #[iv p1, iv p2, iv p3, iv p4, iv yy1, iv yy2, iv yy3, iv yy4, rv b5, rv b6, rv b17, .unset, .unset, .unset, .unset, .unset] [(.int yy1), (.int 0), (.ref b20), (.ref b20)])) rfl rfl (hb hby at_110)
      have V_b20_26 : Arv Z h26 b20 kc20 .char (1 : Int32) [(.int (nar .char yy1))] (.int (0 : Int32)) := Arv.set Ar25 q25 S25 Nx25 H25 G25 (fits_nar_char _) W26 0 rfl (Nat.le_of_ble_eq_true rfl)
      have N26 := Fr.snoc X26 N0 g_b20
      have O26 : Old Z n0 h26 := O20.wr W26 g_b20
      have CR26 : CHr Z EL s.vm h0 T6.vm h26 := CR20.trans (CHr.wr W26 sf_b20 CR20.1)
      refine Go.st (f' := (mkF m 111 #[iv p1, iv p2, iv p3, iv p4, iv yy1, iv yy2, iv yy3, iv yy4, rv b5, rv b6, rv b17, .unset, .unset, .unset, .unset, .unset] [(.ref b20)])) (fun _ k => st26 _ k) ?_
      refine Go.st (f' := (mkF m 113 #[iv p1, iv p2, iv p3, iv p4, iv yy1, iv yy2, iv yy3, iv yy4, rv b5, rv b6, rv b17, rv b20, .unset, .unset, .unset, .unset] [])) (fun _ k => XS.astore X26.here hx rfl (hb hby at_111) rfl rfl (l' := #[iv p1, iv p2, iv p3, iv p4, iv yy1, iv yy2, iv yy3, iv yy4, rv b5, rv b6, rv b17, rv b20, .unset, .unset, .unset, .unset]) rfl k) ?_
      refine Go.st (f' := (mkF m 114 #[iv p1, iv p2, iv p3, iv p4, iv yy1, iv yy2, iv yy3, iv yy4, rv b5, rv b6, rv b17, rv b20, .unset, .unset, .unset, .unset] [(.int 2)])) (fun _ k => XS.iconst X26.here hx rfl (hb hby at_113) k) ?_
      obtain ⟨T27, h27, kc27, X27, e27, E27, A27, st27⟩ := newP X26 hx hZ6 (ww hw 11 rfl) e26 (g := (mkF m 114 #[iv p1, iv p2, iv p3, iv p4, iv yy1, iv yy2, iv yy3, iv yy4, rv b5, rv b6, rv b17, rv b20, .unset, .unset, .unset, .unset] [(.int 2)])) rfl (hb hby at_114) rfl (by decide) (cap := 2) (by decide) (by decide) (by decide) (by decide)
      obtain ⟨b27, g27⟩ : ∃ z, z = h26.size := ⟨_, rfl⟩
      rw [← g27] at A27 st27
      have ft28 := (Nat.lt_of_lt_of_eq (Nat.lt_of_lt_of_le ft21 E20.1) W26.size.symm)
      have ne_b5_b27 : b5 ≠ b27 := Nat.ne_of_lt (Nat.lt_of_lt_of_eq ft28 g27.symm)
      have ft29 := (Nat.lt_of_lt_of_eq (Nat.lt_of_lt_of_le ft22 E20.1) W26.size.symm)
      have ne_t5_b27 : t5 ≠ b27 := Nat.ne_of_lt (Nat.lt_of_lt_of_eq ft29 g27.symm)
      have ft30 := (Nat.lt_of_lt_of_eq (Nat.lt_of_lt_of_le ft23 E20.1) W26.size.symm)
      have ne_b6_b27 : b6 ≠ b27 := Nat.ne_of_lt (Nat.lt_of_lt_of_eq ft30 g27.symm)
      have ft31 := (Nat.lt_of_lt_of_eq (Nat.lt_of_lt_of_le ft24 E20.1) W26.size.symm)
      have ne_t6_b27 : t6 ≠ b27 := Nat.ne_of_lt (Nat.lt_of_lt_of_eq ft31 g27.symm)
      have ft32 := (Nat.lt_of_lt_of_eq (Nat.lt_of_lt_of_le lt_b17 E20.1) W26.size.symm)
      have ne_b17_b27 : b17 ≠ b27 := Nat.ne_of_lt (Nat.lt_of_lt_of_eq ft32 g27.symm)
      have ft33 := (Nat.lt_of_lt_of_eq lt_b20 W26.size.symm)
      have ne_b20_b27 : b20 ≠ b27 := Nat.ne_of_lt (Nat.lt_of_lt_of_eq ft33 g27.symm)
      have g_b27 : n0 ≤ b27 := Nat.le_trans (O26.1 ▸ O26.2.1) (Nat.le_of_eq g27.symm)
      have O27 : Old Z n0 h27 := O26.ext E27
      have CR27 : CHr Z EL s.vm h0 T6.vm h27 := CR26.trans (CHr.ext E27 CR26.1)
      have sf_b27 : Safe Z EL T6.vm h27 b27 := (Safe.new (Nat.le_of_eq g27.symm)).ext E27 CR26.1
      have V_b27 : Arv Z h27 b27 kc27 .char (2 : Int32) [(.int (0 : Int32)), (.int (0 : Int32))] (.int (0 : Int32)) := (Arv.new A27 (by decide)).pad (pad_rep [] (.int (0 : Int32)) 2)
      have lt_b27 := V_b27.lt
      refine Go.st (f' := (mkF m 116 #[iv p1, iv p2, iv p3, iv p4, iv yy1, iv yy2, iv yy3, iv yy4, rv b5, rv b6, rv b17, rv b20, .unset, .unset, .unset, .unset] [(.ref b27)])) (fun _ k => st27 _ k) ?_
      refine Go.st (f' := (mkF m 117 #[iv p1, iv p2, iv p3, iv p4, iv yy1, iv yy2, iv yy3, iv yy4, rv b5, rv b6, rv b17, rv b20, .unset, .unset, .unset, .unset] [(.ref b27), (.ref b27)])) (fun _ k => XS.dup X27.here hx rfl (hb hby at_116) rfl rfl k) ?_
      refine Go.st (f' := (mkF m 118 #[iv p1, iv p2, iv p3, iv p4, iv yy1, iv yy2, iv yy3, iv yy4, rv b5, rv b6, rv b17, rv b20, .unset, .unset, .unset, .unset] [(.int 0), (.ref b27), (.ref b27)])) (fun _ k => XS.iconst X27.here hx rfl (hb hby at_117) k) ?_
      refine Go.st (f' := (mkF m 120 #[iv p1, iv p2, iv p3, iv p4, iv yy1, iv yy2, iv yy3, iv yy4, rv b5, rv b6, rv b17, rv b20, .unset, .unset, .unset, .unset] [(.int yy1), (.int 0), (.ref b27), (.ref b27)])) (fun _ k => XS.iload X27.here hx rfl (hb hby at_118) rfl k) ?_
      obtain ⟨cl34, Ar34, q34, S34, Nx34, H34, G34⟩ := id V_b27
      have hin34 : ¬ ((0 : Int32) < 0 ∨ cl34.slots.size ≤ ((0 : Int32)).toNatClampNeg) := inb_of S34 ⟨by decide, by decide⟩
      obtain ⟨T35, h35, X35, e35, W35, st35⟩ := stC X27 hx hZ6 e27 Ar34 (j := (0 : Int32)) hin34 (g := (mkF m 120 #[iv p1, iv p2, iv p3, iv p4, iv yy1, iv yy2, iv yy3, iv yy4, rv b5, rv b6, rv b17, rv b20, .unset, .unset, .unset, .unset] [(.int yy1), (.int 0), (.ref b27), (.ref b27)])) rfl rfl (hb hby at_120)
      have V_b27_35 : Arv Z h35 b27 kc27 .char (2 : Int32) [(.int (nar .char yy1)), (.int (0 : Int32))] (.int (0 : Int32)) := Arv.set Ar34 q34 S34 Nx34 H34 G34 (fits_nar_char _) W35 0 rfl (Nat.le_of_ble_eq_true rfl)
      have N35 := Fr.snoc X35 N26 g_b27
      have O35 : Old Z n0 h35 := O27.wr W35 g_b27
      have CR35 : CHr Z EL s.vm h0 T6.vm h35 := CR27.trans (CHr.wr W35 sf_b27 CR27.1)
      refine Go.st (f' := (mkF m 121 #[iv p1, iv p2, iv p3, iv p4, iv yy1, iv yy2, iv yy3, iv yy4, rv b5, rv b6, rv b17, rv b20, .unset, .unset, .unset, .unset] [(.ref b27)])) (fun _ k => st35 _ k) ?_
      refine Go.st (f' := (mkF m 122 #[iv p1, iv p2, iv p3, iv p4, iv yy1, iv yy2, iv yy3, iv yy4, rv b5, rv b6, rv b17, rv b20, .unset, .unset, .unset, .unset] [(.ref b27), (.ref b27)])) (fun _ k => XS.dup X35.here hx rfl (hb hby at_121) rfl rfl k) ?_
      refine Go.st (f' := (mkF m 123 #[iv p1, iv p2, iv p3, iv p4, iv yy1, iv yy2, iv yy3, iv yy4, rv b5, rv b6, rv b17, rv b20, .unset, .unset, .unset, .unset] [(.int 1), (.ref b27), (.ref b27)])) (fun _ k => XS.iconst X35.here hx rfl (hb hby at_122) k) ?_
      refine Go.st (f' := (mkF m 125 #[iv p1, iv p2, iv p3, iv p4, iv yy1, iv yy2, iv yy3, iv yy4, rv b5, rv b6, rv b17, rv b20, .unset, .unset, .unset, .unset] [(.int yy2), (.int 1), (.ref b27), (.ref b27)])) (fun _ k => XS.iload X35.here hx rfl (hb hby at_123) rfl k) ?_
      have ft37 := (Safe.wr W35 sf_b27 CR27.1 sf_b27)
      obtain ⟨cl36, Ar36, q36, S36, Nx36, H36, G36⟩ := id V_b27_35
      have hin36 : ¬ ((1 : Int32) < 0 ∨ cl36.slots.size ≤ ((1 : Int32)).toNatClampNeg) := inb_of S36 ⟨by decide, by decide⟩
      obtain ⟨T38, h38, X38, e38, W38, st38⟩ := stC X35 hx hZ6 e35 Ar36 (j := (1 : Int32)) hin36 (g := (mkF m 125 #[iv p1, iv p2, iv p3, iv p4, iv yy1, iv yy2, iv yy3, iv yy4, rv b5, rv b6, rv b17, rv b20, .unset, .unset, .unset, .unset] [(.int yy2), (.int 1), (.ref b27), (.ref b27)])) rfl rfl (hb hby at_125)
      have V_b27_38 : Arv Z h38 b27 kc27 .char (2 : Int32) [(.int (nar .char yy1)), (.int (nar .char yy2))] (.int (0 : Int32)) := Arv.set Ar36 q36 S36 Nx36 H36 G36 (fits_nar_char _) W38 1 rfl (Nat.le_of_ble_eq_true rfl)
      have N38 := Fr.snoc X38 N35 g_b27
      have O38 : Old Z n0 h38 := O35.wr W38 g_b27
      have CR38 : CHr Z EL s.vm h0 T6.vm h38 := CR35.trans (CHr.wr W38 ft37 CR35.1)
      refine Go.st (f' := (mkF m 126 #[iv p1, iv p2, iv p3, iv p4, iv yy1, iv yy2, iv yy3, iv yy4, rv b5, rv b6, rv b17, rv b20, .unset, .unset, .unset, .unset] [(.ref b27)])) (fun _ k => st38 _ k) ?_
      refine Go.st (f' := (mkF m 128 #[iv p1, iv p2, iv p3, iv p4, iv yy1, iv yy2, iv yy3, iv yy4, rv b5, rv b6, rv b17, rv b20, rv b27, .unset, .unset, .unset] [])) (fun _ k => XS.astore X38.here hx rfl (hb hby at_126) rfl rfl (l' := #[iv p1, iv p2, iv p3, iv p4, iv yy1, iv yy2, iv yy3, iv yy4, rv b5, rv b6, rv b17, rv b20, rv b27, .unset, .unset, .unset]) rfl k) ?_
      refine Go.st (f' := (mkF m 129 #[iv p1, iv p2, iv p3, iv p4, iv yy1, iv yy2, iv yy3, iv yy4, rv b5, rv b6, rv b17, rv b20, rv b27, .unset, .unset, .unset] [(.int 3)])) (fun _ k => XS.iconst X38.here hx rfl (hb hby at_128) k) ?_
      obtain ⟨T39, h39, kc39, X39, e39, E39, A39, st39⟩ := newP X38 hx hZ6 (ww hw 11 rfl) e38 (g := (mkF m 129 #[iv p1, iv p2, iv p3, iv p4, iv yy1, iv yy2, iv yy3, iv yy4, rv b5, rv b6, rv b17, rv b20, rv b27, .unset, .unset, .unset] [(.int 3)])) rfl (hb hby at_129) rfl (by decide) (cap := 3) (by decide) (by decide) (by decide) (by decide)
      obtain ⟨b39, g39⟩ : ∃ z, z = h38.size := ⟨_, rfl⟩
      rw [← g39] at A39 st39
      have ft40 := (Nat.lt_of_lt_of_eq (Nat.lt_of_lt_of_eq (Nat.lt_of_lt_of_le ft28 E27.1) W35.size.symm) W38.size.symm)
      have ne_b5_b39 : b5 ≠ b39 := Nat.ne_of_lt (Nat.lt_of_lt_of_eq ft40 g39.symm)
      have ft41 := (Nat.lt_of_lt_of_eq (Nat.lt_of_lt_of_eq (Nat.lt_of_lt_of_le ft29 E27.1) W35.size.symm) W38.size.symm)
      have ne_t5_b39 : t5 ≠ b39 := Nat.ne_of_lt (Nat.lt_of_lt_of_eq ft41 g39.symm)
      have ft42 := (Nat.lt_of_lt_of_eq (Nat.lt_of_lt_of_eq (Nat.lt_of_lt_of_le ft30 E27.1) W35.size.symm) W38.size.symm)
      have ne_b6_b39 : b6 ≠ b39 := Nat.ne_of_lt (Nat.lt_of_lt_of_eq ft42 g39.symm)
      have ft43 := (Nat.lt_of_lt_of_eq (Nat.lt_of_lt_of_eq (Nat.lt_of_lt_of_le ft31 E27.1) W35.size.symm) W38.size.symm)
      have ne_t6_b39 : t6 ≠ b39 := Nat.ne_of_lt (Nat.lt_of_lt_of_eq ft43 g39.symm)
      have ft44 := (Nat.lt_of_lt_of_eq (Nat.lt_of_lt_of_eq (Nat.lt_of_lt_of_le ft32 E27.1) W35.size.symm) W38.size.symm)
      have ne_b17_b39 : b17 ≠ b39 := Nat.ne_of_lt (Nat.lt_of_lt_of_eq ft44 g39.symm)
      have ft45 := (Nat.lt_of_lt_of_eq (Nat.lt_of_lt_of_eq (Nat.lt_of_lt_of_le ft33 E27.1) W35.size.symm) W38.size.symm)
      have ne_b20_b39 : b20 ≠ b39 := Nat.ne_of_lt (Nat.lt_of_lt_of_eq ft45 g39.symm)
      have ft46 := (Nat.lt_of_lt_of_eq (Nat.lt_of_lt_of_eq lt_b27 W35.size.symm) W38.size.symm)
      have ne_b27_b39 : b27 ≠ b39 := Nat.ne_of_lt (Nat.lt_of_lt_of_eq ft46 g39.symm)
      have g_b39 : n0 ≤ b39 := Nat.le_trans (O38.1 ▸ O38.2.1) (Nat.le_of_eq g39.symm)
      have O39 : Old Z n0 h39 := O38.ext E39
      have CR39 : CHr Z EL s.vm h0 T6.vm h39 := CR38.trans (CHr.ext E39 CR38.1)
      have sf_b39 : Safe Z EL T6.vm h39 b39 := (Safe.new (Nat.le_of_eq g39.symm)).ext E39 CR38.1
      have V_b39 : Arv Z h39 b39 kc39 .char (3 : Int32) [(.int (0 : Int32)), (.int (0 : Int32)), (.int (0 : Int32))] (.int (0 : Int32)) := (Arv.new A39 (by decide)).pad (pad_rep [] (.int (0 : Int32)) 3)
      have lt_b39 := V_b39.lt
      refine Go.st (f' := (mkF m 131 #[iv p1, iv p2, iv p3, iv p4, iv yy1, iv yy2, iv yy3, iv yy4, rv b5, rv b6, rv b17, rv b20, rv b27, .unset, .unset, .unset] [(.ref b39)])) (fun _ k => st39 _ k) ?_
      refine Go.st (f' := (mkF m 132 #[iv p1, iv p2, iv p3, iv p4, iv yy1, iv yy2, iv yy3, iv yy4, rv b5, rv b6, rv b17, rv b20, rv b27, .unset, .unset, .unset] [(.ref b39), (.ref b39)])) (fun _ k => XS.dup X39.here hx rfl (hb hby at_131) rfl rfl k) ?_
      refine Go.st (f' := (mkF m 133 #[iv p1, iv p2, iv p3, iv p4, iv yy1, iv yy2, iv yy3, iv yy4, rv b5, rv b6, rv b17, rv b20, rv b27, .unset, .unset, .unset] [(.int 0), (.ref b39), (.ref b39)])) (fun _ k => XS.iconst X39.here hx rfl (hb hby at_132) k) ?_
      refine Go.st (f' := (mkF m 135 #[iv p1, iv p2, iv p3, iv p4, iv yy1, iv yy2, iv yy3, iv yy4, rv b5, rv b6, rv b17, rv b20, rv b27, .unset, .unset, .unset] [(.int yy1), (.int 0), (.ref b39), (.ref b39)])) (fun _ k => XS.iload X39.here hx rfl (hb hby at_133) rfl k) ?_
      obtain ⟨cl47, Ar47, q47, S47, Nx47, H47, G47⟩ := id V_b39
      have hin47 : ¬ ((0 : Int32) < 0 ∨ cl47.slots.size ≤ ((0 : Int32)).toNatClampNeg) := inb_of S47 ⟨by decide, by decide⟩
      obtain ⟨T48, h48, X48, e48, W48, st48⟩ := stC X39 hx hZ6 e39 Ar47 (j := (0 : Int32)) hin47 (g := (mkF m 135 #[iv p1, iv p2, iv p3, iv p4, iv yy1, iv yy2, iv yy3, iv yy4, rv b5, rv b6, rv b17, rv b20, rv b27, .unset, .unset, .unset] [(.int yy1), (.int 0), (.ref b39), (.ref b39)])) rfl rfl (hb hby at_135)
      have V_b39_48 : Arv Z h48 b39 kc39 .char (3 : Int32) [(.int (nar .char yy1)), (.int (0 : Int32)), (.int (0 : Int32))] (.int (0 : Int32)) := Arv.set Ar47 q47 S47 Nx47 H47 G47 (fits_nar_char _) W48 0 rfl (Nat.le_of_ble_eq_true rfl)
      have N48 := Fr.snoc X48 N38 g_b39
      have O48 : Old Z n0 h48 := O39.wr W48 g_b39
      have CR48 : CHr Z EL s.vm h0 T6.vm h48 := CR39.trans (CHr.wr W48 sf_b39 CR39.1)
      refine Go.st (f' := (mkF m 136 #[iv p1, iv p2, iv p3, iv p4, iv yy1, iv yy2, iv yy3, iv yy4, rv b5, rv b6, rv b17, rv b20, rv b27, .unset, .unset, .unset] [(.ref b39)])) (fun _ k => st48 _ k) ?_
      refine Go.st (f' := (mkF m 137 #[iv p1, iv p2, iv p3, iv p4, iv yy1, iv yy2, iv yy3, iv yy4, rv b5, rv b6, rv b17, rv b20, rv b27, .unset, .unset, .unset] [(.ref b39), (.ref b39)])) (fun _ k => XS.dup X48.here hx rfl (hb hby at_136) rfl rfl k) ?_
      refine Go.st (f' := (mkF m 138 #[iv p1, iv p2, iv p3, iv p4, iv yy1, iv yy2, iv yy3, iv yy4, rv b5, rv b6, rv b17, rv b20, rv b27, .unset, .unset, .unset] [(.int 1), (.ref b39), (.ref b39)])) (fun _ k => XS.iconst X48.here hx rfl (hb hby at_137) k) ?_
      refine Go.st (f' := (mkF m 140 #[iv p1, iv p2, iv p3, iv p4, iv yy1, iv yy2, iv yy3, iv yy4, rv b5, rv b6, rv b17, rv b20, rv b27, .unset, .unset, .unset] [(.int yy2), (.int 1), (.ref b39), (.ref b39)])) (fun _ k => XS.iload X48.here hx rfl (hb hby at_138) rfl k) ?_
      have ft50 := (Safe.wr W48 sf_b39 CR39.1 sf_b39)
      obtain ⟨cl49, Ar49, q49, S49, Nx49, H49, G49⟩ := id V_b39_48
      have hin49 : ¬ ((1 : Int32) < 0 ∨ cl49.slots.size ≤ ((1 : Int32)).toNatClampNeg) := inb_of S49 ⟨by decide, by decide⟩
      obtain ⟨T51, h51, X51, e51, W51, st51⟩ := stC X48 hx hZ6 e48 Ar49 (j := (1 : Int32)) hin49 (g := (mkF m 140 #[iv p1, iv p2, iv p3, iv p4, iv yy1, iv yy2, iv yy3, iv yy4, rv b5, rv b6, rv b17, rv b20, rv b27, .unset, .unset, .unset] [(.int yy2), (.int 1), (.ref b39), (.ref b39)])) rfl rfl (hb hby at_140)
      have V_b39_51 : Arv Z h51 b39 kc39 .char (3 : Int32) [(.int (nar .char yy1)), (.int (nar .char yy2)), (.int (0 : Int32))] (.int (0 : Int32)) := Arv.set Ar49 q49 S49 Nx49 H49 G49 (fits_nar_char _) W51 1 rfl (Nat.le_of_ble_eq_true rfl)
      have N51 := Fr.snoc X51 N48 g_b39
      have O51 : Old Z n0 h51 := O48.wr W51 g_b39
      have CR51 : CHr Z EL s.vm h0 T6.vm h51 := CR48.trans (CHr.wr W51 ft50 CR48.1)
      refine Go.st (f' := (mkF m 141 #[iv p1, iv p2, iv p3, iv p4, iv yy1, iv yy2, iv yy3, iv yy4, rv b5, rv b6, rv b17, rv b20, rv b27, .unset, .unset, .unset] [(.ref b39)])) (fun _ k => st51 _ k) ?_
      refine Go.st (f' := (mkF m 142 #[iv p1, iv p2, iv p3, iv p4, iv yy1, iv yy2, iv yy3, iv yy4, rv b5, rv b6, rv b17, rv b20, rv b27, .unset, .unset, .unset] [(.ref b39), (.ref b39)])) (fun _ k => XS.dup X51.here hx rfl (hb hby at_141) rfl rfl k) ?_
      refine Go.st (f' := (mkF m 143 #[iv p1, iv p2, iv p3, iv p4, iv yy1, iv yy2, iv yy3, iv yy4, rv b5, rv b6, rv b17, rv b20, rv b27, .unset, .unset, .unset] [(.int 2), (.ref b39), (.ref b39)])) (fun _ k => XS.iconst X51.here hx rfl (hb hby at_142) k) ?_
      refine Go.st (f' := (mkF m 145 #[iv p1, iv p2, iv p3, iv p4, iv yy1, iv yy2, iv yy3, iv yy4, rv b5, rv b6, rv b17, rv b20, rv b27, .unset, .unset, .unset] [(.int yy3), (.int 2), (.ref b39), (.ref b39)])) (fun _ k => XS.iload X51.here hx rfl (hb hby at_143) rfl k) ?_
      have ft53 := (Safe.wr W51 ft50 CR48.1 ft50)
      obtain ⟨cl52, Ar52, q52, S52, Nx52, H52, G52⟩ := id V_b39_51
      have hin52 : ¬ ((2 : Int32) < 0 ∨ cl52.slots.size ≤ ((2 : Int32)).toNatClampNeg) := inb_of S52 ⟨by decide, by decide⟩
      obtain ⟨T54, h54, X54, e54, W54, st54⟩ := stC X51 hx hZ6 e51 Ar52 (j := (2 : Int32)) hin52 (g := (mkF m 145 #[iv p1, iv p2, iv p3, iv p4, iv yy1, iv yy2, iv yy3, iv yy4, rv b5, rv b6, rv b17, rv b20, rv b27, .unset, .unset, .unset] [(.int yy3), (.int 2), (.ref b39), (.ref b39)])) rfl rfl (hb hby at_145)
      have V_b39_54 : Arv Z h54 b39 kc39 .char (3 : Int32) [(.int (nar .char yy1)), (.int (nar .char yy2)), (.int (nar .char yy3))] (.int (0 : Int32)) := Arv.set Ar52 q52 S52 Nx52 H52 G52 (fits_nar_char _) W54 2 rfl (Nat.le_of_ble_eq_true rfl)
      have N54 := Fr.snoc X54 N51 g_b39
      have O54 : Old Z n0 h54 := O51.wr W54 g_b39
      have CR54 : CHr Z EL s.vm h0 T6.vm h54 := CR51.trans (CHr.wr W54 ft53 CR51.1)
      refine Go.st (f' := (mkF m 146 #[iv p1, iv p2, iv p3, iv p4, iv yy1, iv yy2, iv yy3, iv yy4, rv b5, rv b6, rv b17, rv b20, rv b27, .unset, .unset, .unset] [(.ref b39)])) (fun _ k => st54 _ k) ?_
      refine Go.st (f' := (mkF m 148 #[iv p1, iv p2, iv p3, iv p4, iv yy1, iv yy2, iv yy3, iv yy4, rv b5, rv b6, rv b17, rv b20, rv b27, rv b39, .unset, .unset] [])) (fun _ k => XS.astore X54.here hx rfl (hb hby at_146) rfl rfl (l' := #[iv p1, iv p2, iv p3, iv p4, iv yy1, iv yy2, iv yy3, iv yy4, rv b5, rv b6, rv b17, rv b20, rv b27, rv b39, .unset, .unset]) rfl k) ?_
      rcases (hyy4 ▸ own_m6 _ : yy4 = (0 : Int32) ∨ yy4 = (1 : Int32) ∨ yy4 = (2 : Int32) ∨ yy4 = (3 : Int32) ∨ yy4 = (4 : Int32) ∨ yy4 = (5 : Int32)) with h6 | h6 | h6 | h6 | h6 | h6
      · rw [h6]
        refine Go.st (f' := (mkF m 150 #[iv p1, iv p2, iv p3, iv p4, iv yy1, iv yy2, iv yy3, iv 0, rv b5, rv b6, rv b17, rv b20, rv b27, rv b39, .unset, .unset] [(.int 0)])) (fun _ k => XS.iload X54.here hx rfl (hb hby at_148) rfl k) ?_
        refine Go.st (f' := (mkF m 153 #[iv p1, iv p2, iv p3, iv p4, iv yy1, iv yy2, iv yy3, iv 0, rv b5, rv b6, rv b17, rv b20, rv b27, rv b39, .unset, .unset] [])) (fun _ k => XS.ifNo X54.here hx rfl (hb hby at_150) rfl (by decide) k) ?_
        obtain ⟨T55, h55, X55, e55, E55, A55, D55, -, st55⟩ := newO X54 hx hZ6 hown6 (ww hw 12 rfl) (ww hw 4 rfl) (ww hw 3 rfl) e54 (g := (mkF m 153 #[iv p1, iv p2, iv p3, iv p4, iv yy1, iv yy2, iv yy3, iv 0, rv b5, rv b6, rv b17, rv b20, rv b27, rv b39, .unset, .unset] [])) rfl (hb hby at_153) (by decide) (by decide)
        obtain ⟨b55, g55⟩ : ∃ z, z = h54.size := ⟨_, rfl⟩
        rw [← g55] at A55 D55 st55
        have ft56 := (Nat.lt_of_lt_of_eq (Nat.lt_of_lt_of_eq (Nat.lt_of_lt_of_eq (Nat.lt_of_lt_of_le ft40 E39.1) W48.size.symm) W51.size.symm) W54.size.symm)
        have ne_b5_b55 : b5 ≠ b55 := Nat.ne_of_lt (Nat.lt_of_lt_of_eq ft56 g55.symm)
        have ft57 := (Nat.lt_of_lt_of_eq (Nat.lt_of_lt_of_eq (Nat.lt_of_lt_of_eq (Nat.lt_of_lt_of_le ft41 E39.1) W48.size.symm) W51.size.symm) W54.size.symm)
        have ne_t5_b55 : t5 ≠ b55 := Nat.ne_of_lt (Nat.lt_of_lt_of_eq ft57 g55.symm)
        have ft58 := (Nat.lt_of_lt_of_eq (Nat.lt_of_lt_of_eq (Nat.lt_of_lt_of_eq (Nat.lt_of_lt_of_le ft42 E39.1) W48.size.symm) W51.size.symm) W54.size.symm)
        have ne_b6_b55 : b6 ≠ b55 := Nat.ne_of_lt (Nat.lt_of_lt_of_eq ft58 g55.symm)
        have ft59 := (Nat.lt_of_lt_of_eq (Nat.lt_of_lt_of_eq (Nat.lt_of_lt_of_eq (Nat.lt_of_lt_of_le ft43 E39.1) W48.size.symm) W51.size.symm) W54.size.symm)
        have ne_t6_b55 : t6 ≠ b55 := Nat.ne_of_lt (Nat.lt_of_lt_of_eq ft59 g55.symm)
        have ft60 := (Nat.lt_of_lt_of_eq (Nat.lt_of_lt_of_eq (Nat.lt_of_lt_of_eq (Nat.lt_of_lt_of_le ft44 E39.1) W48.size.symm) W51.size.symm) W54.size.symm)
        have ne_b17_b55 : b17 ≠ b55 := Nat.ne_of_lt (Nat.lt_of_lt_of_eq ft60 g55.symm)
        have ft61 := (Nat.lt_of_lt_of_eq (Nat.lt_of_lt_of_eq (Nat.lt_of_lt_of_eq (Nat.lt_of_lt_of_le ft45 E39.1) W48.size.symm) W51.size.symm) W54.size.symm)
        have ne_b20_b55 : b20 ≠ b55 := Nat.ne_of_lt (Nat.lt_of_lt_of_eq ft61 g55.symm)
        have ft62 := (Nat.lt_of_lt_of_eq (Nat.lt_of_lt_of_eq (Nat.lt_of_lt_of_eq (Nat.lt_of_lt_of_le ft46 E39.1) W48.size.symm) W51.size.symm) W54.size.symm)
        have ne_b27_b55 : b27 ≠ b55 := Nat.ne_of_lt (Nat.lt_of_lt_of_eq ft62 g55.symm)
        have ft63 := (Nat.lt_of_lt_of_eq (Nat.lt_of_lt_of_eq (Nat.lt_of_lt_of_eq lt_b39 W48.size.symm) W51.size.symm) W54.size.symm)
        have ne_b39_b55 : b39 ≠ b55 := Nat.ne_of_lt (Nat.lt_of_lt_of_eq ft63 g55.symm)
        have g_b55 : n0 ≤ b55 := Nat.le_trans (O54.1 ▸ O54.2.1) (Nat.le_of_eq g55.symm)
        have O55 : Old Z n0 h55 := O54.ext E55
        have CR55 : CHr Z EL s.vm h0 T6.vm h55 := CR54.trans (CHr.ext E55 CR54.1)
        have sf_b55 : Safe Z EL T6.vm h55 b55 := (Safe.new (Nat.le_of_eq g55.symm)).ext E55 CR54.1
        have lt_b55 := A55.lt
        have F_value_b55 : Fld Z h55 b55 "java/lang/String" "value" "[B" .null := D55 (Or.inr (ww hw 6 rfl)) (ty := (.array .byte)) (by decide)
        have F_coder_b55 : Fld Z h55 b55 "java/lang/String" "coder" "B" (.int (0 : Int32)) := D55 (Or.inr (ww hw 7 rfl)) (ty := .byte) (by decide)
        refine Go.st (f' := (mkF m 156 #[iv p1, iv p2, iv p3, iv p4, iv yy1, iv yy2, iv yy3, iv 0, rv b5, rv b6, rv b17, rv b20, rv b27, rv b39, .unset, .unset] [(.ref b55)])) (fun _ k => st55 _ k) ?_
        refine Go.st (f' := (mkF m 157 #[iv p1, iv p2, iv p3, iv p4, iv yy1, iv yy2, iv yy3, iv 0, rv b5, rv b6, rv b17, rv b20, rv b27, rv b39, .unset, .unset] [(.ref b55), (.ref b55)])) (fun _ k => XS.dup X55.here hx rfl (hb hby at_156) rfl rfl k) ?_
        refine Go.st (f' := (mkF m 159 #[iv p1, iv p2, iv p3, iv p4, iv yy1, iv yy2, iv yy3, iv 0, rv b5, rv b6, rv b17, rv b20, rv b27, rv b39, .unset, .unset] [(.ref b17), (.ref b55), (.ref b55)])) (fun _ k => XS.aload X55.here hx rfl (hb hby at_157) rfl rfl k) ?_
        have ft65 := ((((((((((V_b17.ext E20).other W26 ne_b17_b20).ext E27).other W35 ne_b17_b27).other W38 ne_b17_b27).ext E39).other W48 ne_b17_b39).other W51 ne_b17_b39).other W54 ne_b17_b39).ext E55)
        obtain ⟨_, _, ⟨T64, L64, kk64, nn64⟩, -, Xw64, hSw64, hgw64, ⟨Lc64, hQ64, lq64, yq64, zz64, crw64⟩, st64⟩ := X55.specialBackS hx (y := (⟨"java/lang/String", "<init>", "([C)V"⟩ : MethodName)) rfl hown6 (mvT hZ6 (ww hw 13 rfl)) (mvT hZ6 (ww hw 14 rfl)) (mvT hZ6 (ww hw 15 rfl)) (by decide) (own_backW (W := 1) (s1_0 l Z a0 hw [] b55 b17 kc17 i_COMPACT_STRINGS v_SIOOBE_FORMATTER h55 n0 O55 g_b55 A55 F_coder_b55 F_value_b55 ft65 WW) hZ6 (ww hw 15 rfl) (ww hw 3 rfl) (by decide) (by decide) hEL CR55.1) (g := (mkF m 159 #[iv p1, iv p2, iv p3, iv p4, iv yy1, iv yy2, iv yy3, iv 0, rv b5, rv b6, rv b17, rv b20, rv b27, rv b39, .unset, .unset] [(.ref b17), (.ref b55), (.ref b55)])) rfl (by rw [hml]; rfl) (Steps.refl _) (a := b55) (argsL := [(.ref b17)]) (rest := [(.ref b55)]) (lenOf pd___C_V rfl) rfl (by show 2 * 0 + _ ≤ _; exact Nat.le_of_eq rfl) (hb hby at_159) (fun _ _ => ⟨rfl, e55, (by decide : 9 + 4 ≤ _), (by decide : 534 + 8 ≤ _)⟩)
        dsimp only [Pt.U, Pt.locs, Pt.cells, Pt.slots] at Xw64 lq64 yq64 zz64 st64 hQ64 hSw64 hgw64 crw64
        subst lq64 yq64 zz64
        have ft66 := (Nat.le_trans (Nat.le_trans (Nat.le_trans (Nat.le_trans (Nat.le_trans (Nat.le_trans (Nat.le_trans (Nat.le_trans (Nat.le_trans (Nat.le_trans (Nat.le_trans hk6 E17.1) E20.1) (Nat.le_of_eq W26.size.symm)) E27.1) (Nat.le_of_eq W35.size.symm)) (Nat.le_of_eq W38.size.symm)) E39.1) (Nat.le_of_eq W48.size.symm)) (Nat.le_of_eq W51.size.symm)) (Nat.le_of_eq W54.size.symm)) E55.1)
        obtain ⟨X64, hS64, hZ64, hown64⟩ := rebS hS6 (by rw [e55]; exact ft66) Xw64 hSw64 hgw64 hZ6 hown6
        obtain ⟨rfl, Nq64, kq64, eq64, cq64, tt64, kt64, fq64, vq64⟩ := hQ64
        have N64 := Fr.app N54 Nq64
        have ft67 := (Safe.ext E55 CR54.1 (Safe.wr W54 ft53 CR51.1 (Safe.wr W51 ft50 CR48.1 (Safe.wr W48 sf_b39 CR39.1 (Safe.ext E39 CR38.1 (Safe.wr W38 ft37 CR35.1 (Safe.wr W35 sf_b27 CR27.1 (Safe.ext E27 CR26.1 (Safe.wr W26 sf_b20 CR20.1 (Safe.ext E20 CR17.1 sf_b17))))))))))
        have ft68 := (Nat.lt_of_lt_of_le ft60 E55.1)
        have ft69 := (Safe.ext E55 CR54.1 (Safe.wr W54 ft53 CR51.1 (Safe.wr W51 ft50 CR48.1 (Safe.wr W48 sf_b39 CR39.1 (Safe.ext E39 CR38.1 (Safe.wr W38 ft37 CR35.1 (Safe.wr W35 sf_b27 CR27.1 (Safe.ext E27 CR26.1 (Safe.wr W26 sf_b20 CR20.1 sf_b20)))))))))
        have ft70 := (Nat.lt_of_lt_of_le ft61 E55.1)
        have ft71 := (Safe.ext E55 CR54.1 (Safe.wr W54 ft53 CR51.1 (Safe.wr W51 ft50 CR48.1 (Safe.wr W48 sf_b39 CR39.1 (Safe.ext E39 CR38.1 (Safe.wr W38 ft37 CR35.1 ft37))))))
        have ft72 := (Nat.lt_of_lt_of_le ft62 E55.1)
        have ft73 := (Safe.ext E55 CR54.1 (Safe.wr W54 ft53 CR51.1 ft53))
        have ft74 := (Nat.lt_of_lt_of_le ft63 E55.1)
        have O64 : Old Z n0 T64.heap := O55.keep kq64 (allS g_b55 all0)
        have lt_tt64 := vq64.lt
        have ft75 := (((((((((((((A5.ext E6).ext E17).ext E20).wr W26).ext E27).wr W35).wr W38).ext E39).wr W48).wr W51).wr W54).ext E55).keep kq64)
        have nt_b5_tt64 : b5 ≠ tt64 := Exa.neArv ft75 vq64 (ww hw 4 rfl)
        have ft76 := ((((((((((((A6.ext E17).ext E20).wr W26).ext E27).wr W35).wr W38).ext E39).wr W48).wr W51).wr W54).ext E55).keep kq64)
        have nt_b6_tt64 : b6 ≠ tt64 := Exa.neArv ft76 vq64 (ww hw 4 rfl)
        have ft77 := (ft65.keep kq64 (ninS ne_b17_b55 nin0))
        have nt_b17_tt64 : b17 ≠ tt64 := own_neArv ft77 vq64 (by decide)
        have ft78 := (((((((((V_b20_26.ext E27).other W35 ne_b20_b27).other W38 ne_b20_b27).ext E39).other W48 ne_b20_b39).other W51 ne_b20_b39).other W54 ne_b20_b39).ext E55).keep kq64 (ninS ne_b20_b55 nin0))
        have nt_b20_tt64 : b20 ≠ tt64 := own_neArv ft78 vq64 (by decide)
        have ft79 := ((((((V_b27_38.ext E39).other W48 ne_b27_b39).other W51 ne_b27_b39).other W54 ne_b27_b39).ext E55).keep kq64 (ninS ne_b27_b55 nin0))
        have nt_b27_tt64 : b27 ≠ tt64 := own_neArv ft79 vq64 (by decide)
        have ft80 := ((V_b39_54.ext E55).keep kq64 (ninS ne_b39_b55 nin0))
        have nt_b39_tt64 : b39 ≠ tt64 := own_neArv ft80 vq64 (by decide)
        have nt_b55_tt64 : b55 ≠ tt64 := Exa.neArv eq64 vq64 (ww hw 4 rfl)
        have hk64 : T64.heap.size ≤ T64.heap.size := Nat.le_refl _
        have sf81 := crw64.safe ft68 ft67
        have sf82 := crw64.safe ft70 ft69
        have sf83 := crw64.safe ft72 ft71
        have sf84 := crw64.safe ft74 ft73
        have sf85 := crw64.safe lt_b55 sf_b55
        have CR64 := CR55.trans crw64
        refine Go.tr (f' := (mkF m 162 #[iv p1, iv p2, iv p3, iv p4, iv yy1, iv yy2, iv yy3, iv 0, rv b5, rv b6, rv b17, rv b20, rv b27, rv b39, .unset, .unset] [(.ref b55)])) st64 ?_
        refine Go.st (f' := (mkF m 164 #[iv p1, iv p2, iv p3, iv p4, iv yy1, iv yy2, iv yy3, iv 0, rv b5, rv b6, rv b17, rv b20, rv b27, rv b39, rv b55, .unset] [])) (fun _ k => XS.astore X64.here hx rfl (hb hby at_162) rfl rfl (l' := #[iv p1, iv p2, iv p3, iv p4, iv yy1, iv yy2, iv yy3, iv 0, rv b5, rv b6, rv b17, rv b20, rv b27, rv b39, rv b55, .unset]) rfl k) ?_
        refine Go.st (f' := (mkF m 218 #[iv p1, iv p2, iv p3, iv p4, iv yy1, iv yy2, iv yy3, iv 0, rv b5, rv b6, rv b17, rv b20, rv b27, rv b39, rv b55, .unset] [])) (fun _ k => XS.goto X64.here hx rfl (pc0 := 164) (pc' := 218) rfl (hb hby at_164) (by decide) (by decide) k) ?_
        refine Go.st (f' := (mkF m 220 #[iv p1, iv p2, iv p3, iv p4, iv yy1, iv yy2, iv yy3, iv 0, rv b5, rv b6, rv b17, rv b20, rv b27, rv b39, rv b55, .unset] [(.int 0)])) (fun _ k => XS.iload X64.here hx rfl (hb hby at_218) rfl k) ?_
        refine Go.st (f' := (mkF m 221 #[iv p1, iv p2, iv p3, iv p4, iv yy1, iv yy2, iv yy3, iv 0, rv b5, rv b6, rv b17, rv b20, rv b27, rv b39, rv b55, .unset] [(.int 1), (.int 0)])) (fun _ k => XS.iconst X64.here hx rfl (hb hby at_220) k) ?_
        refine Go.st (f' := (mkF m 264 #[iv p1, iv p2, iv p3, iv p4, iv yy1, iv yy2, iv yy3, iv 0, rv b5, rv b6, rv b17, rv b20, rv b27, rv b39, rv b55, .unset] [])) (fun _ k => XS.icmpYes X64.here hx rfl (pc0 := 221) (pc' := 264) rfl (hb hby at_221) rfl (by decide) (by decide) (by decide) k) ?_
        refine Go.st (f' := (mkF m 265 #[iv p1, iv p2, iv p3, iv p4, iv yy1, iv yy2, iv yy3, iv 0, rv b5, rv b6, rv b17, rv b20, rv b27, rv b39, rv b55, .unset] [(.int 0)])) (fun _ k => XS.iconst X64.here hx rfl (hb hby at_264) k) ?_
        refine Go.st (f' := (mkF m 267 #[iv p1, iv p2, iv p3, iv p4, iv yy1, iv yy2, iv yy3, iv 0, rv b5, rv b6, rv b17, rv b20, rv b27, rv b39, rv b55, iv 0] [])) (fun _ k => XS.istore X64.here hx rfl (hb hby at_265) rfl (l' := #[iv p1, iv p2, iv p3, iv p4, iv yy1, iv yy2, iv yy3, iv 0, rv b5, rv b6, rv b17, rv b20, rv b27, rv b39, rv b55, iv 0]) rfl k) ?_
        refine Go.st (f' := (mkF m 269 #[iv p1, iv p2, iv p3, iv p4, iv yy1, iv yy2, iv yy3, iv 0, rv b5, rv b6, rv b17, rv b20, rv b27, rv b39, rv b55, iv 0] [(.ref b55)])) (fun _ k => XS.aload X64.here hx rfl (hb hby at_267) rfl rfl k) ?_
        obtain ⟨_, _, ⟨T86, L86, kk86, nn86⟩, -, X86, ⟨Lc86, hQ86, lq86, yq86, zz86⟩, st86⟩ := Jvm.LawKit.callS X64 hx (y := (⟨"com/example/rulebridge/rulebridge/server/Id", "isValid", "(Ljava/lang/String;)Z"⟩ : MethodName)) hown64 (mvT hZ64 (ww hw 26 rfl)) (mvT hZ64 (ww hw 27 rfl)) (mvT hZ64 (ww hw 28 rfl)) (mvT hZ64 (ww hw 29 rfl)) (by decide) (own_back (W := 0) (va_0 l Z a0 hw [] b55 tt64 kt64 [] i_COMPACT_STRINGS v_SIOOBE_FORMATTER T64.heap n0 O64 eq64 cq64 fq64 vq64 WW) hZ64 (ww hw 29 rfl) (ww hw 28 rfl) (by decide) (by decide)) (g := (mkF m 269 #[iv p1, iv p2, iv p3, iv p4, iv yy1, iv yy2, iv yy3, iv 0, rv b5, rv b6, rv b17, rv b20, rv b27, rv b39, rv b55, iv 0] [(.ref b55)])) rfl (by rw [hml]; rfl) (argsL := [(.ref b55)]) (rest := []) (lenOf pd__Ljava_lang_String__Z rfl) rfl (by show 2 * 0 + _ ≤ _; exact Nat.le_of_eq rfl) (hb hby at_269) (fun _ _ => ⟨rfl, rfl, (by decide : 13 + 0 ≤ _), (by decide : 542 + 0 ≤ _)⟩)
        dsimp only [Pt.U, Pt.locs, Pt.cells, Pt.slots] at X86 lq86 yq86 zz86 st86 hQ86
        subst lq86 yq86 zz86
        obtain ⟨rfl, Nq86, kq86⟩ := hQ86
        have N86 := Fr.app N64 Nq86
        refine Go.st (f' := (mkF m 272 #[iv p1, iv p2, iv p3, iv p4, iv yy1, iv yy2, iv yy3, iv 0, rv b5, rv b6, rv b17, rv b20, rv b27, rv b39, rv b55, iv 0] [(.int 0)])) (fun _ k => st86 _ k) ?_
        refine Go.st (f' := (mkF m 274 #[iv p1, iv p2, iv p3, iv p4, iv yy1, iv yy2, iv yy3, iv 0, rv b5, rv b6, rv b17, rv b20, rv b27, rv b39, rv b55, iv 0] [(.int 0), (.int 0)])) (fun _ k => XS.iload X86.here hx rfl (hb hby at_272) rfl k) ?_
        refine Go.st (f' := (mkF m 277 #[iv p1, iv p2, iv p3, iv p4, iv yy1, iv yy2, iv yy3, iv 0, rv b5, rv b6, rv b17, rv b20, rv b27, rv b39, rv b55, iv 0] [])) (fun _ k => XS.icmpNo X86.here hx rfl (hb hby at_274) rfl (by decide) k) ?_
        refine Go.st (f' := (mkF m 278 #[iv p1, iv p2, iv p3, iv p4, iv yy1, iv yy2, iv yy3, iv 0, rv b5, rv b6, rv b17, rv b20, rv b27, rv b39, rv b55, iv 0] [(.int 1)])) (fun _ k => XS.iconst X86.here hx rfl (hb hby at_277) k) ?_
        refine Go.st (f' := (mkF m 282 #[iv p1, iv p2, iv p3, iv p4, iv yy1, iv yy2, iv yy3, iv 0, rv b5, rv b6, rv b17, rv b20, rv b27, rv b39, rv b55, iv 0] [(.int 1)])) (fun _ k => XS.goto X86.here hx rfl (pc0 := 278) (pc' := 282) rfl (hb hby at_278) (by decide) (by decide) k) ?_
        refine GoW.retB X86 hlk hx (t := .boolean) hret (by simp) (hb hby at_282) kq86 hS64 hk64 hZ64 hEL CR64 hh ?_ (by decide) (by decide)
        exact ⟨rfl, N86⟩
      · rw [h6]
        refine Go.st (f' := (mkF m 150 #[iv p1, iv p2, iv p3, iv p4, iv yy1, iv yy2, iv yy3, iv 1, rv b5, rv b6, rv b17, rv b20, rv b27, rv b39, .unset, .unset] [(.int 1)])) (fun _ k => XS.iload X54.here hx rfl (hb hby at_148) rfl k) ?_
        refine Go.st (f' := (mkF m 167 #[iv p1, iv p2, iv p3, iv p4, iv yy1, iv yy2, iv yy3, iv 1, rv b5, rv b6, rv b17, rv b20, rv b27, rv b39, .unset, .unset] [])) (fun _ k => XS.ifYes X54.here hx rfl (pc0 := 150) (pc' := 167) rfl (hb hby at_150) rfl (by decide) (by decide) (by decide) k) ?_
        refine Go.st (f' := (mkF m 169 #[iv p1, iv p2, iv p3, iv p4, iv yy1, iv yy2, iv yy3, iv 1, rv b5, rv b6, rv b17, rv b20, rv b27, rv b39, .unset, .unset] [(.int 1)])) (fun _ k => XS.iload X54.here hx rfl (hb hby at_167) rfl k) ?_
        refine Go.st (f' := (mkF m 170 #[iv p1, iv p2, iv p3, iv p4, iv yy1, iv yy2, iv yy3, iv 1, rv b5, rv b6, rv b17, rv b20, rv b27, rv b39, .unset, .unset] [(.int 1), (.int 1)])) (fun _ k => XS.iconst X54.here hx rfl (hb hby at_169) k) ?_
        refine Go.st (f' := (mkF m 173 #[iv p1, iv p2, iv p3, iv p4, iv yy1, iv yy2, iv yy3, iv 1, rv b5, rv b6, rv b17, rv b20, rv b27, rv b39, .unset, .unset] [])) (fun _ k => XS.icmpNo X54.here hx rfl (hb hby at_170) rfl (by decide) k) ?_
        obtain ⟨T87, h87, X87, e87, E87, A87, D87, -, st87⟩ := newO X54 hx hZ6 hown6 (ww hw 12 rfl) (ww hw 4 rfl) (ww hw 3 rfl) e54 (g := (mkF m 173 #[iv p1, iv p2, iv p3, iv p4, iv yy1, iv yy2, iv yy3, iv 1, rv b5, rv b6, rv b17, rv b20, rv b27, rv b39, .unset, .unset] [])) rfl (hb hby at_173) (by decide) (by decide)
        obtain ⟨b87, g87⟩ : ∃ z, z = h54.size := ⟨_, rfl⟩
        rw [← g87] at A87 D87 st87
        have ft88 := (Nat.lt_of_lt_of_eq (Nat.lt_of_lt_of_eq (Nat.lt_of_lt_of_eq (Nat.lt_of_lt_of_le ft40 E39.1) W48.size.symm) W51.size.symm) W54.size.symm)
        have ne_b5_b87 : b5 ≠ b87 := Nat.ne_of_lt (Nat.lt_of_lt_of_eq ft88 g87.symm)
        have ft89 := (Nat.lt_of_lt_of_eq (Nat.lt_of_lt_of_eq (Nat.lt_of_lt_of_eq (Nat.lt_of_lt_of_le ft41 E39.1) W48.size.symm) W51.size.symm) W54.size.symm)
        have ne_t5_b87 : t5 ≠ b87 := Nat.ne_of_lt (Nat.lt_of_lt_of_eq ft89 g87.symm)
        have ft90 := (Nat.lt_of_lt_of_eq (Nat.lt_of_lt_of_eq (Nat.lt_of_lt_of_eq (Nat.lt_of_lt_of_le ft42 E39.1) W48.size.symm) W51.size.symm) W54.size.symm)
        have ne_b6_b87 : b6 ≠ b87 := Nat.ne_of_lt (Nat.lt_of_lt_of_eq ft90 g87.symm)
        have ft91 := (Nat.lt_of_lt_of_eq (Nat.lt_of_lt_of_eq (Nat.lt_of_lt_of_eq (Nat.lt_of_lt_of_le ft43 E39.1) W48.size.symm) W51.size.symm) W54.size.symm)
        have ne_t6_b87 : t6 ≠ b87 := Nat.ne_of_lt (Nat.lt_of_lt_of_eq ft91 g87.symm)
        have ft92 := (Nat.lt_of_lt_of_eq (Nat.lt_of_lt_of_eq (Nat.lt_of_lt_of_eq (Nat.lt_of_lt_of_le ft44 E39.1) W48.size.symm) W51.size.symm) W54.size.symm)
        have ne_b17_b87 : b17 ≠ b87 := Nat.ne_of_lt (Nat.lt_of_lt_of_eq ft92 g87.symm)
        have ft93 := (Nat.lt_of_lt_of_eq (Nat.lt_of_lt_of_eq (Nat.lt_of_lt_of_eq (Nat.lt_of_lt_of_le ft45 E39.1) W48.size.symm) W51.size.symm) W54.size.symm)
        have ne_b20_b87 : b20 ≠ b87 := Nat.ne_of_lt (Nat.lt_of_lt_of_eq ft93 g87.symm)
        have ft94 := (Nat.lt_of_lt_of_eq (Nat.lt_of_lt_of_eq (Nat.lt_of_lt_of_eq (Nat.lt_of_lt_of_le ft46 E39.1) W48.size.symm) W51.size.symm) W54.size.symm)
        have ne_b27_b87 : b27 ≠ b87 := Nat.ne_of_lt (Nat.lt_of_lt_of_eq ft94 g87.symm)
        have ft95 := (Nat.lt_of_lt_of_eq (Nat.lt_of_lt_of_eq (Nat.lt_of_lt_of_eq lt_b39 W48.size.symm) W51.size.symm) W54.size.symm)
        have ne_b39_b87 : b39 ≠ b87 := Nat.ne_of_lt (Nat.lt_of_lt_of_eq ft95 g87.symm)
        have g_b87 : n0 ≤ b87 := Nat.le_trans (O54.1 ▸ O54.2.1) (Nat.le_of_eq g87.symm)
        have O87 : Old Z n0 h87 := O54.ext E87
        have CR87 : CHr Z EL s.vm h0 T6.vm h87 := CR54.trans (CHr.ext E87 CR54.1)
        have sf_b87 : Safe Z EL T6.vm h87 b87 := (Safe.new (Nat.le_of_eq g87.symm)).ext E87 CR54.1
        have lt_b87 := A87.lt
        have F_value_b87 : Fld Z h87 b87 "java/lang/String" "value" "[B" .null := D87 (Or.inr (ww hw 6 rfl)) (ty := (.array .byte)) (by decide)
        have F_coder_b87 : Fld Z h87 b87 "java/lang/String" "coder" "B" (.int (0 : Int32)) := D87 (Or.inr (ww hw 7 rfl)) (ty := .byte) (by decide)
        refine Go.st (f' := (mkF m 176 #[iv p1, iv p2, iv p3, iv p4, iv yy1, iv yy2, iv yy3, iv 1, rv b5, rv b6, rv b17, rv b20, rv b27, rv b39, .unset, .unset] [(.ref b87)])) (fun _ k => st87 _ k) ?_
        refine Go.st (f' := (mkF m 177 #[iv p1, iv p2, iv p3, iv p4, iv yy1, iv yy2, iv yy3, iv 1, rv b5, rv b6, rv b17, rv b20, rv b27, rv b39, .unset, .unset] [(.ref b87), (.ref b87)])) (fun _ k => XS.dup X87.here hx rfl (hb hby at_176) rfl rfl k) ?_
        refine Go.st (f' := (mkF m 179 #[iv p1, iv p2, iv p3, iv p4, iv yy1, iv yy2, iv yy3, iv 1, rv b5, rv b6, rv b17, rv b20, rv b27, rv b39, .unset, .unset] [(.ref b20), (.ref b87), (.ref b87)])) (fun _ k => XS.aload X87.here hx rfl (hb hby at_177) rfl rfl k) ?_
        have ft97 := ((((((((V_b20_26.ext E27).other W35 ne_b20_b27).other W38 ne_b20_b27).ext E39).other W48 ne_b20_b39).other W51 ne_b20_b39).other W54 ne_b20_b39).ext E87)
        obtain ⟨_, _, ⟨T96, L96, kk96, nn96⟩, -, X96, ⟨Lc96, hQ96, lq96, yq96, zz96⟩, st96⟩ := X87.specialBack hx (y := (⟨"java/lang/String", "<init>", "([C)V"⟩ : MethodName)) rfl hown6 (mvT hZ6 (ww hw 13 rfl)) (mvT hZ6 (ww hw 14 rfl)) (mvT hZ6 (ww hw 15 rfl)) (by decide) (own_back (W := 1) (uA_1 l Z a0 hw [] b87 b20 kc20 (nar .char yy1) i_COMPACT_STRINGS v_SIOOBE_FORMATTER h87 n0 O87 (own_chr _) g_b87 (Ne.symm ne_b20_b87) A87 F_coder_b87 F_value_b87 ft97 WW) hZ6 (ww hw 15 rfl) (ww hw 3 rfl) (by decide) (by decide)) (g := (mkF m 179 #[iv p1, iv p2, iv p3, iv p4, iv yy1, iv yy2, iv yy3, iv 1, rv b5, rv b6, rv b17, rv b20, rv b27, rv b39, .unset, .unset] [(.ref b20), (.ref b87), (.ref b87)])) rfl (by rw [hml]; rfl) (Steps.refl _) (a := b87) (argsL := [(.ref b20)]) (rest := [(.ref b87)]) (lenOf pd___C_V rfl) rfl (by show 2 * 0 + _ ≤ _; exact Nat.le_of_eq rfl) (hb hby at_179) (fun _ _ => ⟨rfl, e87, (by decide : 9 + 2 ≤ _), (by decide : 534 + 3 ≤ _)⟩)
        dsimp only [Pt.U, Pt.locs, Pt.cells, Pt.slots] at X96 lq96 yq96 zz96 st96 hQ96
        subst lq96 yq96 zz96
        obtain ⟨rfl, Nq96, kq96, eq96, tt96, kt96, zq96, fq96, dq96⟩ := hQ96
        have N96 := Fr.app N54 Nq96
        have ft98 := (Nat.lt_of_lt_of_le ft88 E87.1)
        have ne_b5_tt96 : b5 ≠ tt96 := Nat.ne_of_lt (Nat.lt_of_lt_of_le ft98 zq96)
        have ft99 := (Nat.lt_of_lt_of_le ft89 E87.1)
        have ne_t5_tt96 : t5 ≠ tt96 := Nat.ne_of_lt (Nat.lt_of_lt_of_le ft99 zq96)
        have ft100 := (Nat.lt_of_lt_of_le ft90 E87.1)
        have ne_b6_tt96 : b6 ≠ tt96 := Nat.ne_of_lt (Nat.lt_of_lt_of_le ft100 zq96)
        have ft101 := (Nat.lt_of_lt_of_le ft91 E87.1)
        have ne_t6_tt96 : t6 ≠ tt96 := Nat.ne_of_lt (Nat.lt_of_lt_of_le ft101 zq96)
        have ft102 := (Nat.lt_of_lt_of_le ft92 E87.1)
        have ne_b17_tt96 : b17 ≠ tt96 := Nat.ne_of_lt (Nat.lt_of_lt_of_le ft102 zq96)
        have ft103 := (Nat.lt_of_lt_of_le ft93 E87.1)
        have ne_b20_tt96 : b20 ≠ tt96 := Nat.ne_of_lt (Nat.lt_of_lt_of_le ft103 zq96)
        have ft104 := (Nat.lt_of_lt_of_le ft94 E87.1)
        have ne_b27_tt96 : b27 ≠ tt96 := Nat.ne_of_lt (Nat.lt_of_lt_of_le ft104 zq96)
        have ft105 := (Nat.lt_of_lt_of_le ft95 E87.1)
        have ne_b39_tt96 : b39 ≠ tt96 := Nat.ne_of_lt (Nat.lt_of_lt_of_le ft105 zq96)
        have ne_b87_tt96 : b87 ≠ tt96 := Nat.ne_of_lt (Nat.lt_of_lt_of_le lt_b87 zq96)
        have g_tt96 : n0 ≤ tt96 := Nat.le_trans (O87.1 ▸ O87.2.1) zq96
        have sn_tt96 : Safe Z EL T6.vm h87 tt96 := Safe.new zq96
        have O96 : Old Z n0 T96.heap := O87.keep kq96 (allS g_b87 all0)
        have CR96 : CHr Z EL s.vm h0 T6.vm T96.heap := CR87.trans (CHr.keep kq96 (sfS sf_b87 sf0) CR87.1)
        refine Go.tr (f' := (mkF m 182 #[iv p1, iv p2, iv p3, iv p4, iv yy1, iv yy2, iv yy3, iv 1, rv b5, rv b6, rv b17, rv b20, rv b27, rv b39, .unset, .unset] [(.ref b87)])) st96 ?_
        refine Go.st (f' := (mkF m 184 #[iv p1, iv p2, iv p3, iv p4, iv yy1, iv yy2, iv yy3, iv 1, rv b5, rv b6, rv b17, rv b20, rv b27, rv b39, rv b87, .unset] [])) (fun _ k => XS.astore X96.here hx rfl (hb hby at_182) rfl rfl (l' := #[iv p1, iv p2, iv p3, iv p4, iv yy1, iv yy2, iv yy3, iv 1, rv b5, rv b6, rv b17, rv b20, rv b27, rv b39, rv b87, .unset]) rfl k) ?_
        refine Go.st (f' := (mkF m 218 #[iv p1, iv p2, iv p3, iv p4, iv yy1, iv yy2, iv yy3, iv 1, rv b5, rv b6, rv b17, rv b20, rv b27, rv b39, rv b87, .unset] [])) (fun _ k => XS.goto X96.here hx rfl (pc0 := 184) (pc' := 218) rfl (hb hby at_184) (by decide) (by decide) k) ?_
        have J2 : ∀ (TJ106 : State) (hJ106 : Heap) (vmJ106 : Vm) (kJ106 : Nat) (LJ106 : List Loc) (z15 : Int32), (Stand p l e room_1 (s.setVm vmJ106) m #[(.int p1), (.int p2), (.int p3), (.int p4)] below meth c TJ106 LJ106 11 537) → (TJ106.heap = hJ106) → (Old Z n0 hJ106) → (Fr n0 LJ106) → (s.Since vmJ106 kJ106) → (kJ106 ≤ hJ106.size) → (Z.Warmed39 (s.setVm vmJ106).vm) → ((s.setVm vmJ106).vm.findClass "com/example/rulebridge/rulebridge/server/IdIsValidPinLaw" = some m.cls) → (CHr Z EL s.vm h0 vmJ106 hJ106) → (Exa Z hJ106 b87 "java/lang/String") → (Fld Z hJ106 b87 "java/lang/String" "value" "[B" (.ref tt96)) → (Sx1 Z hJ106 b87 tt96 kt96 (nar .char yy1)) → (z15 = (vI_1 (nar .char yy1))) → Go p e below (DoneW s Z EL (QL n0) room_1.cells room_1.slots) TJ106 (mkF m 267 #[iv p1, iv p2, iv p3, iv p4, iv yy1, iv yy2, iv yy3, iv 1, rv b5, rv b6, rv b17, rv b20, rv b27, rv b39, rv b87, iv z15] []) := by
          intro TJ106 hJ106 vmJ106 kJ106 LJ106 z15 XJ106 eJ106 OJ106 NJ106 hSJ106 hkJ106 hZJ106 hownJ106 CRJ106 cyJ106_0 cyJ106_1 cyJ106_2 hz15
          refine Go.st (f' := (mkF m 269 #[iv p1, iv p2, iv p3, iv p4, iv yy1, iv yy2, iv yy3, iv 1, rv b5, rv b6, rv b17, rv b20, rv b27, rv b39, rv b87, iv z15] [(.ref b87)])) (fun _ k => XS.aload XJ106.here hx rfl (hb hby at_267) rfl rfl k) ?_
          obtain ⟨_, _, ⟨T107, L107, kk107, nn107⟩, -, X107, ⟨Lc107, hQ107, lq107, yq107, zz107⟩, st107⟩ := Jvm.LawKit.callS XJ106 hx (y := (⟨"com/example/rulebridge/rulebridge/server/Id", "isValid", "(Ljava/lang/String;)Z"⟩ : MethodName)) hownJ106 (mvT hZJ106 (ww hw 26 rfl)) (mvT hZJ106 (ww hw 27 rfl)) (mvT hZJ106 (ww hw 28 rfl)) (mvT hZJ106 (ww hw 29 rfl)) (by decide) (own_back (W := 0) (vaS_1 l Z a0 hw [] b87 tt96 kt96 (nar .char yy1) i_COMPACT_STRINGS v_SIOOBE_FORMATTER hJ106 n0 OJ106 cyJ106_0 cyJ106_1 cyJ106_2 (own_chr _) WW) hZJ106 (ww hw 29 rfl) (ww hw 28 rfl) (by decide) (by decide)) (g := (mkF m 269 #[iv p1, iv p2, iv p3, iv p4, iv yy1, iv yy2, iv yy3, iv 1, rv b5, rv b6, rv b17, rv b20, rv b27, rv b39, rv b87, iv z15] [(.ref b87)])) rfl (by rw [hml]; rfl) (argsL := [(.ref b87)]) (rest := []) (lenOf pd__Ljava_lang_String__Z rfl) rfl (by show 2 * 0 + _ ≤ _; exact Nat.le_of_eq rfl) (hb hby at_269) (fun _ _ => ⟨rfl, eJ106, (by decide : 11 + 0 ≤ _), (by decide : 537 + 0 ≤ _)⟩)
          dsimp only [Pt.U, Pt.locs, Pt.cells, Pt.slots] at X107 lq107 yq107 zz107 st107 hQ107
          subst lq107 yq107 zz107
          obtain ⟨rfl, Nq107, kq107⟩ := hQ107
          have N107 := Fr.app NJ106 Nq107
          refine Go.st (f' := (mkF m 272 #[iv p1, iv p2, iv p3, iv p4, iv yy1, iv yy2, iv yy3, iv 1, rv b5, rv b6, rv b17, rv b20, rv b27, rv b39, rv b87, iv z15] [(.int (vI_1 (nar .char yy1)))])) (fun _ k => st107 _ k) ?_
          refine Go.st (f' := (mkF m 274 #[iv p1, iv p2, iv p3, iv p4, iv yy1, iv yy2, iv yy3, iv 1, rv b5, rv b6, rv b17, rv b20, rv b27, rv b39, rv b87, iv z15] [(.int z15), (.int (vI_1 (nar .char yy1)))])) (fun _ k => XS.iload X107.here hx rfl (hb hby at_272) rfl k) ?_
          refine Go.st (f' := (mkF m 277 #[iv p1, iv p2, iv p3, iv p4, iv yy1, iv yy2, iv yy3, iv 1, rv b5, rv b6, rv b17, rv b20, rv b27, rv b39, rv b87, iv z15] [])) (fun _ k => XS.icmpNo X107.here hx rfl (hb hby at_274) rfl (teq hz15.symm).2 k) ?_
          refine Go.st (f' := (mkF m 278 #[iv p1, iv p2, iv p3, iv p4, iv yy1, iv yy2, iv yy3, iv 1, rv b5, rv b6, rv b17, rv b20, rv b27, rv b39, rv b87, iv z15] [(.int 1)])) (fun _ k => XS.iconst X107.here hx rfl (hb hby at_277) k) ?_
          refine Go.st (f' := (mkF m 282 #[iv p1, iv p2, iv p3, iv p4, iv yy1, iv yy2, iv yy3, iv 1, rv b5, rv b6, rv b17, rv b20, rv b27, rv b39, rv b87, iv z15] [(.int 1)])) (fun _ k => XS.goto X107.here hx rfl (pc0 := 278) (pc' := 282) rfl (hb hby at_278) (by decide) (by decide) k) ?_
          refine GoW.retB X107 hlk hx (t := .boolean) hret (by simp) (hb hby at_282) kq107 hSJ106 hkJ106 hZJ106 hEL CRJ106 hh ?_ (by decide) (by decide)
          exact ⟨rfl, N107⟩
        refine Go.st (f' := (mkF m 220 #[iv p1, iv p2, iv p3, iv p4, iv yy1, iv yy2, iv yy3, iv 1, rv b5, rv b6, rv b17, rv b20, rv b27, rv b39, rv b87, .unset] [(.int 1)])) (fun _ k => XS.iload X96.here hx rfl (hb hby at_218) rfl k) ?_
        refine Go.st (f' := (mkF m 221 #[iv p1, iv p2, iv p3, iv p4, iv yy1, iv yy2, iv yy3, iv 1, rv b5, rv b6, rv b17, rv b20, rv b27, rv b39, rv b87, .unset] [(.int 1), (.int 1)])) (fun _ k => XS.iconst X96.here hx rfl (hb hby at_220) k) ?_
        refine Go.st (f' := (mkF m 224 #[iv p1, iv p2, iv p3, iv p4, iv yy1, iv yy2, iv yy3, iv 1, rv b5, rv b6, rv b17, rv b20, rv b27, rv b39, rv b87, .unset] [])) (fun _ k => XS.icmpNo X96.here hx rfl (hb hby at_221) rfl (by decide) k) ?_
        refine Go.st (f' := (mkF m 226 #[iv p1, iv p2, iv p3, iv p4, iv yy1, iv yy2, iv yy3, iv 1, rv b5, rv b6, rv b17, rv b20, rv b27, rv b39, rv b87, .unset] [(.int yy1)])) (fun _ k => XS.iload X96.here hx rfl (hb hby at_224) rfl k) ?_
        obtain ⟨_, _, ⟨T108, L108, kk108, nn108⟩, -, X108, ⟨Lc108, hQ108, lq108, yq108, zz108⟩, st108⟩ := Jvm.LawKit.callS X96 hx (y := (⟨"com/example/rulebridge/rulebridge/server/IdIsValidPinLaw", "idChar", "(C)Z"⟩ : MethodName)) hown6 (mvT hZ6 (ww hw 51 rfl)) (mvT hZ6 (ww hw 52 rfl)) (mvT hZ6 (ww hw 53 rfl)) (mvT hZ6 (ww hw 54 rfl)) (by decide) (own_back (W := 0) (rmIc l Z a0 hw [] yy1 T96.heap n0 O96) hZ6 (ww hw 54 rfl) (ww hw 53 rfl) (by decide) (by decide)) (g := (mkF m 226 #[iv p1, iv p2, iv p3, iv p4, iv yy1, iv yy2, iv yy3, iv 1, rv b5, rv b6, rv b17, rv b20, rv b27, rv b39, rv b87, .unset] [(.int yy1)])) rfl (by rw [hml]; rfl) (argsL := [(.int yy1)]) (rest := []) (lenOf pd__C_Z rfl) rfl (by show 2 * 0 + _ ≤ _; exact Nat.le_of_eq rfl) (hb hby at_226) (fun _ _ => ⟨rfl, rfl, (by decide : 11 + 0 ≤ _), (by decide : 537 + 0 ≤ _)⟩)
        dsimp only [Pt.U, Pt.locs, Pt.cells, Pt.slots] at X108 lq108 yq108 zz108 st108 hQ108
        subst lq108 yq108 zz108
        obtain ⟨rfl, Nq108, kq108⟩ := hQ108
        have N108 := Fr.app N96 Nq108
        refine Go.st (f' := (mkF m 229 #[iv p1, iv p2, iv p3, iv p4, iv yy1, iv yy2, iv yy3, iv 1, rv b5, rv b6, rv b17, rv b20, rv b27, rv b39, rv b87, .unset] [(.int (icI yy1))])) (fun _ k => st108 _ k) ?_
        by_cases cd109 : (icI yy1) = (0 : Int32)
        · refine Go.st (f' := (mkF m 264 #[iv p1, iv p2, iv p3, iv p4, iv yy1, iv yy2, iv yy3, iv 1, rv b5, rv b6, rv b17, rv b20, rv b27, rv b39, rv b87, .unset] [])) (fun _ k => XS.ifYes X108.here hx rfl (pc0 := 229) (pc' := 264) rfl (hb hby at_229) rfl ((if0 _ _).trans (teq cd109).1) (by decide) (by decide) k) ?_
          refine Go.st (f' := (mkF m 265 #[iv p1, iv p2, iv p3, iv p4, iv yy1, iv yy2, iv yy3, iv 1, rv b5, rv b6, rv b17, rv b20, rv b27, rv b39, rv b87, .unset] [(.int 0)])) (fun _ k => XS.iconst X108.here hx rfl (hb hby at_264) k) ?_
          refine Go.st (f' := (mkF m 267 #[iv p1, iv p2, iv p3, iv p4, iv yy1, iv yy2, iv yy3, iv 1, rv b5, rv b6, rv b17, rv b20, rv b27, rv b39, rv b87, iv 0] [])) (fun _ k => XS.istore X108.here hx rfl (hb hby at_265) rfl (l' := #[iv p1, iv p2, iv p3, iv p4, iv yy1, iv yy2, iv yy3, iv 1, rv b5, rv b6, rv b17, rv b20, rv b27, rv b39, rv b87, iv 0]) rfl k) ?_
          have ft110 := (Nat.le_trans (Nat.le_trans (Nat.le_trans (Nat.le_trans (Nat.le_trans (Nat.le_trans (Nat.le_trans (Nat.le_trans (Nat.le_trans (Nat.le_trans (Nat.le_trans (Nat.le_trans hk6 E17.1) E20.1) (Nat.le_of_eq W26.size.symm)) E27.1) (Nat.le_of_eq W35.size.symm)) (Nat.le_of_eq W38.size.symm)) E39.1) (Nat.le_of_eq W48.size.symm)) (Nat.le_of_eq W51.size.symm)) (Nat.le_of_eq W54.size.symm)) E87.1) kq96.1)
          exact J2 _ T96.heap T6.vm _ _ (0 : Int32) X108 kq108 O96 N108 hS6 ft110 hZ6 hown6 CR96 eq96 fq96 dq96 (by rw [own_nch (hyy1 ▸ own_chr _), vI_1, if_pos ((ic_id _).symm.trans cd109)])
        · refine Go.st (f' := (mkF m 232 #[iv p1, iv p2, iv p3, iv p4, iv yy1, iv yy2, iv yy3, iv 1, rv b5, rv b6, rv b17, rv b20, rv b27, rv b39, rv b87, .unset] [])) (fun _ k => XS.ifNo X108.here hx rfl (hb hby at_229) rfl ((if0 _ _).trans (feq cd109).1) k) ?_
          refine Go.st (f' := (mkF m 234 #[iv p1, iv p2, iv p3, iv p4, iv yy1, iv yy2, iv yy3, iv 1, rv b5, rv b6, rv b17, rv b20, rv b27, rv b39, rv b87, .unset] [(.int 1)])) (fun _ k => XS.iload X108.here hx rfl (hb hby at_232) rfl k) ?_
          refine Go.st (f' := (mkF m 235 #[iv p1, iv p2, iv p3, iv p4, iv yy1, iv yy2, iv yy3, iv 1, rv b5, rv b6, rv b17, rv b20, rv b27, rv b39, rv b87, .unset] [(.int 2), (.int 1)])) (fun _ k => XS.iconst X108.here hx rfl (hb hby at_234) k) ?_
          refine Go.st (f' := (mkF m 246 #[iv p1, iv p2, iv p3, iv p4, iv yy1, iv yy2, iv yy3, iv 1, rv b5, rv b6, rv b17, rv b20, rv b27, rv b39, rv b87, .unset] [])) (fun _ k => XS.icmpYes X108.here hx rfl (pc0 := 235) (pc' := 246) rfl (hb hby at_235) rfl (by decide) (by decide) (by decide) k) ?_
          refine Go.st (f' := (mkF m 248 #[iv p1, iv p2, iv p3, iv p4, iv yy1, iv yy2, iv yy3, iv 1, rv b5, rv b6, rv b17, rv b20, rv b27, rv b39, rv b87, .unset] [(.int 1)])) (fun _ k => XS.iload X108.here hx rfl (hb hby at_246) rfl k) ?_
          refine Go.st (f' := (mkF m 249 #[iv p1, iv p2, iv p3, iv p4, iv yy1, iv yy2, iv yy3, iv 1, rv b5, rv b6, rv b17, rv b20, rv b27, rv b39, rv b87, .unset] [(.int 3), (.int 1)])) (fun _ k => XS.iconst X108.here hx rfl (hb hby at_248) k) ?_
          refine Go.st (f' := (mkF m 260 #[iv p1, iv p2, iv p3, iv p4, iv yy1, iv yy2, iv yy3, iv 1, rv b5, rv b6, rv b17, rv b20, rv b27, rv b39, rv b87, .unset] [])) (fun _ k => XS.icmpYes X108.here hx rfl (pc0 := 249) (pc' := 260) rfl (hb hby at_249) rfl (by decide) (by decide) (by decide) k) ?_
          refine Go.st (f' := (mkF m 261 #[iv p1, iv p2, iv p3, iv p4, iv yy1, iv yy2, iv yy3, iv 1, rv b5, rv b6, rv b17, rv b20, rv b27, rv b39, rv b87, .unset] [(.int 1)])) (fun _ k => XS.iconst X108.here hx rfl (hb hby at_260) k) ?_
          refine Go.st (f' := (mkF m 265 #[iv p1, iv p2, iv p3, iv p4, iv yy1, iv yy2, iv yy3, iv 1, rv b5, rv b6, rv b17, rv b20, rv b27, rv b39, rv b87, .unset] [(.int 1)])) (fun _ k => XS.goto X108.here hx rfl (pc0 := 261) (pc' := 265) rfl (hb hby at_261) (by decide) (by decide) k) ?_
          refine Go.st (f' := (mkF m 267 #[iv p1, iv p2, iv p3, iv p4, iv yy1, iv yy2, iv yy3, iv 1, rv b5, rv b6, rv b17, rv b20, rv b27, rv b39, rv b87, iv 1] [])) (fun _ k => XS.istore X108.here hx rfl (hb hby at_265) rfl (l' := #[iv p1, iv p2, iv p3, iv p4, iv yy1, iv yy2, iv yy3, iv 1, rv b5, rv b6, rv b17, rv b20, rv b27, rv b39, rv b87, iv 1]) rfl k) ?_
          have ft111 := (Nat.le_trans (Nat.le_trans (Nat.le_trans (Nat.le_trans (Nat.le_trans (Nat.le_trans (Nat.le_trans (Nat.le_trans (Nat.le_trans (Nat.le_trans (Nat.le_trans (Nat.le_trans hk6 E17.1) E20.1) (Nat.le_of_eq W26.size.symm)) E27.1) (Nat.le_of_eq W35.size.symm)) (Nat.le_of_eq W38.size.symm)) E39.1) (Nat.le_of_eq W48.size.symm)) (Nat.le_of_eq W51.size.symm)) (Nat.le_of_eq W54.size.symm)) E87.1) kq96.1)
          exact J2 _ T96.heap T6.vm _ _ (1 : Int32) X108 kq108 O96 N108 hS6 ft111 hZ6 hown6 CR96 eq96 fq96 dq96 (by rw [own_nch (hyy1 ▸ own_chr _), vI_1, if_neg (fun z => cd109 ((ic_id _).trans z))])
      · rw [h6]
        refine Go.st (f' := (mkF m 150 #[iv p1, iv p2, iv p3, iv p4, iv yy1, iv yy2, iv yy3, iv 2, rv b5, rv b6, rv b17, rv b20, rv b27, rv b39, .unset, .unset] [(.int 2)])) (fun _ k => XS.iload X54.here hx rfl (hb hby at_148) rfl k) ?_
        refine Go.st (f' := (mkF m 167 #[iv p1, iv p2, iv p3, iv p4, iv yy1, iv yy2, iv yy3, iv 2, rv b5, rv b6, rv b17, rv b20, rv b27, rv b39, .unset, .unset] [])) (fun _ k => XS.ifYes X54.here hx rfl (pc0 := 150) (pc' := 167) rfl (hb hby at_150) rfl (by decide) (by decide) (by decide) k) ?_
        refine Go.st (f' := (mkF m 169 #[iv p1, iv p2, iv p3, iv p4, iv yy1, iv yy2, iv yy3, iv 2, rv b5, rv b6, rv b17, rv b20, rv b27, rv b39, .unset, .unset] [(.int 2)])) (fun _ k => XS.iload X54.here hx rfl (hb hby at_167) rfl k) ?_
        refine Go.st (f' := (mkF m 170 #[iv p1, iv p2, iv p3, iv p4, iv yy1, iv yy2, iv yy3, iv 2, rv b5, rv b6, rv b17, rv b20, rv b27, rv b39, .unset, .unset] [(.int 1), (.int 2)])) (fun _ k => XS.iconst X54.here hx rfl (hb hby at_169) k) ?_
        refine Go.st (f' := (mkF m 187 #[iv p1, iv p2, iv p3, iv p4, iv yy1, iv yy2, iv yy3, iv 2, rv b5, rv b6, rv b17, rv b20, rv b27, rv b39, .unset, .unset] [])) (fun _ k => XS.icmpYes X54.here hx rfl (pc0 := 170) (pc' := 187) rfl (hb hby at_170) rfl (by decide) (by decide) (by decide) k) ?_
        refine Go.st (f' := (mkF m 189 #[iv p1, iv p2, iv p3, iv p4, iv yy1, iv yy2, iv yy3, iv 2, rv b5, rv b6, rv b17, rv b20, rv b27, rv b39, .unset, .unset] [(.int 2)])) (fun _ k => XS.iload X54.here hx rfl (hb hby at_187) rfl k) ?_
        refine Go.st (f' := (mkF m 190 #[iv p1, iv p2, iv p3, iv p4, iv yy1, iv yy2, iv yy3, iv 2, rv b5, rv b6, rv b17, rv b20, rv b27, rv b39, .unset, .unset] [(.int 2), (.int 2)])) (fun _ k => XS.iconst X54.here hx rfl (hb hby at_189) k) ?_
        refine Go.st (f' := (mkF m 193 #[iv p1, iv p2, iv p3, iv p4, iv yy1, iv yy2, iv yy3, iv 2, rv b5, rv b6, rv b17, rv b20, rv b27, rv b39, .unset, .unset] [])) (fun _ k => XS.icmpNo X54.here hx rfl (hb hby at_190) rfl (by decide) k) ?_
        obtain ⟨T112, h112, X112, e112, E112, A112, D112, -, st112⟩ := newO X54 hx hZ6 hown6 (ww hw 12 rfl) (ww hw 4 rfl) (ww hw 3 rfl) e54 (g := (mkF m 193 #[iv p1, iv p2, iv p3, iv p4, iv yy1, iv yy2, iv yy3, iv 2, rv b5, rv b6, rv b17, rv b20, rv b27, rv b39, .unset, .unset] [])) rfl (hb hby at_193) (by decide) (by decide)
        obtain ⟨b112, g112⟩ : ∃ z, z = h54.size := ⟨_, rfl⟩
        rw [← g112] at A112 D112 st112
        have ft113 := (Nat.lt_of_lt_of_eq (Nat.lt_of_lt_of_eq (Nat.lt_of_lt_of_eq (Nat.lt_of_lt_of_le ft40 E39.1) W48.size.symm) W51.size.symm) W54.size.symm)
        have ne_b5_b112 : b5 ≠ b112 := Nat.ne_of_lt (Nat.lt_of_lt_of_eq ft113 g112.symm)
        have ft114 := (Nat.lt_of_lt_of_eq (Nat.lt_of_lt_of_eq (Nat.lt_of_lt_of_eq (Nat.lt_of_lt_of_le ft41 E39.1) W48.size.symm) W51.size.symm) W54.size.symm)
        have ne_t5_b112 : t5 ≠ b112 := Nat.ne_of_lt (Nat.lt_of_lt_of_eq ft114 g112.symm)
        have ft115 := (Nat.lt_of_lt_of_eq (Nat.lt_of_lt_of_eq (Nat.lt_of_lt_of_eq (Nat.lt_of_lt_of_le ft42 E39.1) W48.size.symm) W51.size.symm) W54.size.symm)
        have ne_b6_b112 : b6 ≠ b112 := Nat.ne_of_lt (Nat.lt_of_lt_of_eq ft115 g112.symm)
        have ft116 := (Nat.lt_of_lt_of_eq (Nat.lt_of_lt_of_eq (Nat.lt_of_lt_of_eq (Nat.lt_of_lt_of_le ft43 E39.1) W48.size.symm) W51.size.symm) W54.size.symm)
        have ne_t6_b112 : t6 ≠ b112 := Nat.ne_of_lt (Nat.lt_of_lt_of_eq ft116 g112.symm)
        have ft117 := (Nat.lt_of_lt_of_eq (Nat.lt_of_lt_of_eq (Nat.lt_of_lt_of_eq (Nat.lt_of_lt_of_le ft44 E39.1) W48.size.symm) W51.size.symm) W54.size.symm)
        have ne_b17_b112 : b17 ≠ b112 := Nat.ne_of_lt (Nat.lt_of_lt_of_eq ft117 g112.symm)
        have ft118 := (Nat.lt_of_lt_of_eq (Nat.lt_of_lt_of_eq (Nat.lt_of_lt_of_eq (Nat.lt_of_lt_of_le ft45 E39.1) W48.size.symm) W51.size.symm) W54.size.symm)
        have ne_b20_b112 : b20 ≠ b112 := Nat.ne_of_lt (Nat.lt_of_lt_of_eq ft118 g112.symm)
        have ft119 := (Nat.lt_of_lt_of_eq (Nat.lt_of_lt_of_eq (Nat.lt_of_lt_of_eq (Nat.lt_of_lt_of_le ft46 E39.1) W48.size.symm) W51.size.symm) W54.size.symm)
        have ne_b27_b112 : b27 ≠ b112 := Nat.ne_of_lt (Nat.lt_of_lt_of_eq ft119 g112.symm)
        have ft120 := (Nat.lt_of_lt_of_eq (Nat.lt_of_lt_of_eq (Nat.lt_of_lt_of_eq lt_b39 W48.size.symm) W51.size.symm) W54.size.symm)
        have ne_b39_b112 : b39 ≠ b112 := Nat.ne_of_lt (Nat.lt_of_lt_of_eq ft120 g112.symm)
        have g_b112 : n0 ≤ b112 := Nat.le_trans (O54.1 ▸ O54.2.1) (Nat.le_of_eq g112.symm)
        have O112 : Old Z n0 h112 := O54.ext E112
        have CR112 : CHr Z EL s.vm h0 T6.vm h112 := CR54.trans (CHr.ext E112 CR54.1)
        have sf_b112 : Safe Z EL T6.vm h112 b112 := (Safe.new (Nat.le_of_eq g112.symm)).ext E112 CR54.1
        have lt_b112 := A112.lt
        have F_value_b112 : Fld Z h112 b112 "java/lang/String" "value" "[B" .null := D112 (Or.inr (ww hw 6 rfl)) (ty := (.array .byte)) (by decide)
        have F_coder_b112 : Fld Z h112 b112 "java/lang/String" "coder" "B" (.int (0 : Int32)) := D112 (Or.inr (ww hw 7 rfl)) (ty := .byte) (by decide)
        refine Go.st (f' := (mkF m 196 #[iv p1, iv p2, iv p3, iv p4, iv yy1, iv yy2, iv yy3, iv 2, rv b5, rv b6, rv b17, rv b20, rv b27, rv b39, .unset, .unset] [(.ref b112)])) (fun _ k => st112 _ k) ?_
        refine Go.st (f' := (mkF m 197 #[iv p1, iv p2, iv p3, iv p4, iv yy1, iv yy2, iv yy3, iv 2, rv b5, rv b6, rv b17, rv b20, rv b27, rv b39, .unset, .unset] [(.ref b112), (.ref b112)])) (fun _ k => XS.dup X112.here hx rfl (hb hby at_196) rfl rfl k) ?_
        refine Go.st (f' := (mkF m 199 #[iv p1, iv p2, iv p3, iv p4, iv yy1, iv yy2, iv yy3, iv 2, rv b5, rv b6, rv b17, rv b20, rv b27, rv b39, .unset, .unset] [(.ref b27), (.ref b112), (.ref b112)])) (fun _ k => XS.aload X112.here hx rfl (hb hby at_197) rfl rfl k) ?_
        have ft122 := (((((V_b27_38.ext E39).other W48 ne_b27_b39).other W51 ne_b27_b39).other W54 ne_b27_b39).ext E112)
        obtain ⟨_, _, ⟨T121, L121, kk121, nn121⟩, -, X121, ⟨Lc121, hQ121, lq121, yq121, zz121⟩, st121⟩ := X112.specialBack hx (y := (⟨"java/lang/String", "<init>", "([C)V"⟩ : MethodName)) rfl hown6 (mvT hZ6 (ww hw 13 rfl)) (mvT hZ6 (ww hw 14 rfl)) (mvT hZ6 (ww hw 15 rfl)) (by decide) (own_back (W := 1) (uA_2 l Z a0 hw [] b112 b27 kc27 (nar .char yy1) (nar .char yy2) i_COMPACT_STRINGS v_SIOOBE_FORMATTER h112 n0 O112 (own_chr _) (own_chr _) g_b112 (Ne.symm ne_b27_b112) A112 F_coder_b112 F_value_b112 ft122 WW) hZ6 (ww hw 15 rfl) (ww hw 3 rfl) (by decide) (by decide)) (g := (mkF m 199 #[iv p1, iv p2, iv p3, iv p4, iv yy1, iv yy2, iv yy3, iv 2, rv b5, rv b6, rv b17, rv b20, rv b27, rv b39, .unset, .unset] [(.ref b27), (.ref b112), (.ref b112)])) rfl (by rw [hml]; rfl) (Steps.refl _) (a := b112) (argsL := [(.ref b27)]) (rest := [(.ref b112)]) (lenOf pd___C_V rfl) rfl (by show 2 * 0 + _ ≤ _; exact Nat.le_of_eq rfl) (hb hby at_199) (fun _ _ => ⟨rfl, e112, (by decide : 9 + 2 ≤ _), (by decide : 534 + 6 ≤ _)⟩)
        dsimp only [Pt.U, Pt.locs, Pt.cells, Pt.slots] at X121 lq121 yq121 zz121 st121 hQ121
        subst lq121 yq121 zz121
        obtain ⟨rfl, Nq121, kq121, eq121, tt121, kt121, zq121, fq121, dq121⟩ := hQ121
        have N121 := Fr.app N54 Nq121
        have ft123 := (Nat.lt_of_lt_of_le ft113 E112.1)
        have ne_b5_tt121 : b5 ≠ tt121 := Nat.ne_of_lt (Nat.lt_of_lt_of_le ft123 zq121)
        have ft124 := (Nat.lt_of_lt_of_le ft114 E112.1)
        have ne_t5_tt121 : t5 ≠ tt121 := Nat.ne_of_lt (Nat.lt_of_lt_of_le ft124 zq121)
        have ft125 := (Nat.lt_of_lt_of_le ft115 E112.1)
        have ne_b6_tt121 : b6 ≠ tt121 := Nat.ne_of_lt (Nat.lt_of_lt_of_le ft125 zq121)
        have ft126 := (Nat.lt_of_lt_of_le ft116 E112.1)
        have ne_t6_tt121 : t6 ≠ tt121 := Nat.ne_of_lt (Nat.lt_of_lt_of_le ft126 zq121)
        have ft127 := (Nat.lt_of_lt_of_le ft117 E112.1)
        have ne_b17_tt121 : b17 ≠ tt121 := Nat.ne_of_lt (Nat.lt_of_lt_of_le ft127 zq121)
        have ft128 := (Nat.lt_of_lt_of_le ft118 E112.1)
        have ne_b20_tt121 : b20 ≠ tt121 := Nat.ne_of_lt (Nat.lt_of_lt_of_le ft128 zq121)
        have ft129 := (Nat.lt_of_lt_of_le ft119 E112.1)
        have ne_b27_tt121 : b27 ≠ tt121 := Nat.ne_of_lt (Nat.lt_of_lt_of_le ft129 zq121)
        have ft130 := (Nat.lt_of_lt_of_le ft120 E112.1)
        have ne_b39_tt121 : b39 ≠ tt121 := Nat.ne_of_lt (Nat.lt_of_lt_of_le ft130 zq121)
        have ne_b112_tt121 : b112 ≠ tt121 := Nat.ne_of_lt (Nat.lt_of_lt_of_le lt_b112 zq121)
        have g_tt121 : n0 ≤ tt121 := Nat.le_trans (O112.1 ▸ O112.2.1) zq121
        have sn_tt121 : Safe Z EL T6.vm h112 tt121 := Safe.new zq121
        have O121 : Old Z n0 T121.heap := O112.keep kq121 (allS g_b112 all0)
        have CR121 : CHr Z EL s.vm h0 T6.vm T121.heap := CR112.trans (CHr.keep kq121 (sfS sf_b112 sf0) CR112.1)
        refine Go.tr (f' := (mkF m 202 #[iv p1, iv p2, iv p3, iv p4, iv yy1, iv yy2, iv yy3, iv 2, rv b5, rv b6, rv b17, rv b20, rv b27, rv b39, .unset, .unset] [(.ref b112)])) st121 ?_
        refine Go.st (f' := (mkF m 204 #[iv p1, iv p2, iv p3, iv p4, iv yy1, iv yy2, iv yy3, iv 2, rv b5, rv b6, rv b17, rv b20, rv b27, rv b39, rv b112, .unset] [])) (fun _ k => XS.astore X121.here hx rfl (hb hby at_202) rfl rfl (l' := #[iv p1, iv p2, iv p3, iv p4, iv yy1, iv yy2, iv yy3, iv 2, rv b5, rv b6, rv b17, rv b20, rv b27, rv b39, rv b112, .unset]) rfl k) ?_
        refine Go.st (f' := (mkF m 218 #[iv p1, iv p2, iv p3, iv p4, iv yy1, iv yy2, iv yy3, iv 2, rv b5, rv b6, rv b17, rv b20, rv b27, rv b39, rv b112, .unset] [])) (fun _ k => XS.goto X121.here hx rfl (pc0 := 204) (pc' := 218) rfl (hb hby at_204) (by decide) (by decide) k) ?_
        have J2 : ∀ (TJ131 : State) (hJ131 : Heap) (vmJ131 : Vm) (kJ131 : Nat) (LJ131 : List Loc) (z15 : Int32), (Stand p l e room_1 (s.setVm vmJ131) m #[(.int p1), (.int p2), (.int p3), (.int p4)] below meth c TJ131 LJ131 11 540) → (TJ131.heap = hJ131) → (Old Z n0 hJ131) → (Fr n0 LJ131) → (s.Since vmJ131 kJ131) → (kJ131 ≤ hJ131.size) → (Z.Warmed39 (s.setVm vmJ131).vm) → ((s.setVm vmJ131).vm.findClass "com/example/rulebridge/rulebridge/server/IdIsValidPinLaw" = some m.cls) → (CHr Z EL s.vm h0 vmJ131 hJ131) → (Exa Z hJ131 b112 "java/lang/String") → (Fld Z hJ131 b112 "java/lang/String" "value" "[B" (.ref tt121)) → (Sx2 Z hJ131 b112 tt121 kt121 (nar .char yy1) (nar .char yy2)) → (z15 = (vI_2 (nar .char yy1) (nar .char yy2))) → Go p e below (DoneW s Z EL (QL n0) room_1.cells room_1.slots) TJ131 (mkF m 267 #[iv p1, iv p2, iv p3, iv p4, iv yy1, iv yy2, iv yy3, iv 2, rv b5, rv b6, rv b17, rv b20, rv b27, rv b39, rv b112, iv z15] []) := by
          intro TJ131 hJ131 vmJ131 kJ131 LJ131 z15 XJ131 eJ131 OJ131 NJ131 hSJ131 hkJ131 hZJ131 hownJ131 CRJ131 cyJ131_0 cyJ131_1 cyJ131_2 hz15
          refine Go.st (f' := (mkF m 269 #[iv p1, iv p2, iv p3, iv p4, iv yy1, iv yy2, iv yy3, iv 2, rv b5, rv b6, rv b17, rv b20, rv b27, rv b39, rv b112, iv z15] [(.ref b112)])) (fun _ k => XS.aload XJ131.here hx rfl (hb hby at_267) rfl rfl k) ?_
          obtain ⟨_, _, ⟨T132, L132, kk132, nn132⟩, -, X132, ⟨Lc132, hQ132, lq132, yq132, zz132⟩, st132⟩ := Jvm.LawKit.callS XJ131 hx (y := (⟨"com/example/rulebridge/rulebridge/server/Id", "isValid", "(Ljava/lang/String;)Z"⟩ : MethodName)) hownJ131 (mvT hZJ131 (ww hw 26 rfl)) (mvT hZJ131 (ww hw 27 rfl)) (mvT hZJ131 (ww hw 28 rfl)) (mvT hZJ131 (ww hw 29 rfl)) (by decide) (own_back (W := 0) (vaS_2 l Z a0 hw [] b112 tt121 kt121 (nar .char yy1) (nar .char yy2) i_COMPACT_STRINGS v_SIOOBE_FORMATTER hJ131 n0 OJ131 cyJ131_0 cyJ131_1 cyJ131_2 (own_chr _) (own_chr _) WW) hZJ131 (ww hw 29 rfl) (ww hw 28 rfl) (by decide) (by decide)) (g := (mkF m 269 #[iv p1, iv p2, iv p3, iv p4, iv yy1, iv yy2, iv yy3, iv 2, rv b5, rv b6, rv b17, rv b20, rv b27, rv b39, rv b112, iv z15] [(.ref b112)])) rfl (by rw [hml]; rfl) (argsL := [(.ref b112)]) (rest := []) (lenOf pd__Ljava_lang_String__Z rfl) rfl (by show 2 * 0 + _ ≤ _; exact Nat.le_of_eq rfl) (hb hby at_269) (fun _ _ => ⟨rfl, eJ131, (by decide : 11 + 0 ≤ _), (by decide : 540 + 0 ≤ _)⟩)
          dsimp only [Pt.U, Pt.locs, Pt.cells, Pt.slots] at X132 lq132 yq132 zz132 st132 hQ132
          subst lq132 yq132 zz132
          obtain ⟨rfl, Nq132, kq132⟩ := hQ132
          have N132 := Fr.app NJ131 Nq132
          refine Go.st (f' := (mkF m 272 #[iv p1, iv p2, iv p3, iv p4, iv yy1, iv yy2, iv yy3, iv 2, rv b5, rv b6, rv b17, rv b20, rv b27, rv b39, rv b112, iv z15] [(.int (vI_2 (nar .char yy1) (nar .char yy2)))])) (fun _ k => st132 _ k) ?_
          refine Go.st (f' := (mkF m 274 #[iv p1, iv p2, iv p3, iv p4, iv yy1, iv yy2, iv yy3, iv 2, rv b5, rv b6, rv b17, rv b20, rv b27, rv b39, rv b112, iv z15] [(.int z15), (.int (vI_2 (nar .char yy1) (nar .char yy2)))])) (fun _ k => XS.iload X132.here hx rfl (hb hby at_272) rfl k) ?_
          refine Go.st (f' := (mkF m 277 #[iv p1, iv p2, iv p3, iv p4, iv yy1, iv yy2, iv yy3, iv 2, rv b5, rv b6, rv b17, rv b20, rv b27, rv b39, rv b112, iv z15] [])) (fun _ k => XS.icmpNo X132.here hx rfl (hb hby at_274) rfl (teq hz15.symm).2 k) ?_
          refine Go.st (f' := (mkF m 278 #[iv p1, iv p2, iv p3, iv p4, iv yy1, iv yy2, iv yy3, iv 2, rv b5, rv b6, rv b17, rv b20, rv b27, rv b39, rv b112, iv z15] [(.int 1)])) (fun _ k => XS.iconst X132.here hx rfl (hb hby at_277) k) ?_
          refine Go.st (f' := (mkF m 282 #[iv p1, iv p2, iv p3, iv p4, iv yy1, iv yy2, iv yy3, iv 2, rv b5, rv b6, rv b17, rv b20, rv b27, rv b39, rv b112, iv z15] [(.int 1)])) (fun _ k => XS.goto X132.here hx rfl (pc0 := 278) (pc' := 282) rfl (hb hby at_278) (by decide) (by decide) k) ?_
          refine GoW.retB X132 hlk hx (t := .boolean) hret (by simp) (hb hby at_282) kq132 hSJ131 hkJ131 hZJ131 hEL CRJ131 hh ?_ (by decide) (by decide)
          exact ⟨rfl, N132⟩
        refine Go.st (f' := (mkF m 220 #[iv p1, iv p2, iv p3, iv p4, iv yy1, iv yy2, iv yy3, iv 2, rv b5, rv b6, rv b17, rv b20, rv b27, rv b39, rv b112, .unset] [(.int 2)])) (fun _ k => XS.iload X121.here hx rfl (hb hby at_218) rfl k) ?_
        refine Go.st (f' := (mkF m 221 #[iv p1, iv p2, iv p3, iv p4, iv yy1, iv yy2, iv yy3, iv 2, rv b5, rv b6, rv b17, rv b20, rv b27, rv b39, rv b112, .unset] [(.int 1), (.int 2)])) (fun _ k => XS.iconst X121.here hx rfl (hb hby at_220) k) ?_
        refine Go.st (f' := (mkF m 224 #[iv p1, iv p2, iv p3, iv p4, iv yy1, iv yy2, iv yy3, iv 2, rv b5, rv b6, rv b17, rv b20, rv b27, rv b39, rv b112, .unset] [])) (fun _ k => XS.icmpNo X121.here hx rfl (hb hby at_221) rfl (by decide) k) ?_
        refine Go.st (f' := (mkF m 226 #[iv p1, iv p2, iv p3, iv p4, iv yy1, iv yy2, iv yy3, iv 2, rv b5, rv b6, rv b17, rv b20, rv b27, rv b39, rv b112, .unset] [(.int yy1)])) (fun _ k => XS.iload X121.here hx rfl (hb hby at_224) rfl k) ?_
        obtain ⟨_, _, ⟨T133, L133, kk133, nn133⟩, -, X133, ⟨Lc133, hQ133, lq133, yq133, zz133⟩, st133⟩ := Jvm.LawKit.callS X121 hx (y := (⟨"com/example/rulebridge/rulebridge/server/IdIsValidPinLaw", "idChar", "(C)Z"⟩ : MethodName)) hown6 (mvT hZ6 (ww hw 51 rfl)) (mvT hZ6 (ww hw 52 rfl)) (mvT hZ6 (ww hw 53 rfl)) (mvT hZ6 (ww hw 54 rfl)) (by decide) (own_back (W := 0) (rmIc l Z a0 hw [] yy1 T121.heap n0 O121) hZ6 (ww hw 54 rfl) (ww hw 53 rfl) (by decide) (by decide)) (g := (mkF m 226 #[iv p1, iv p2, iv p3, iv p4, iv yy1, iv yy2, iv yy3, iv 2, rv b5, rv b6, rv b17, rv b20, rv b27, rv b39, rv b112, .unset] [(.int yy1)])) rfl (by rw [hml]; rfl) (argsL := [(.int yy1)]) (rest := []) (lenOf pd__C_Z rfl) rfl (by show 2 * 0 + _ ≤ _; exact Nat.le_of_eq rfl) (hb hby at_226) (fun _ _ => ⟨rfl, rfl, (by decide : 11 + 0 ≤ _), (by decide : 540 + 0 ≤ _)⟩)
        dsimp only [Pt.U, Pt.locs, Pt.cells, Pt.slots] at X133 lq133 yq133 zz133 st133 hQ133
        subst lq133 yq133 zz133
        obtain ⟨rfl, Nq133, kq133⟩ := hQ133
        have N133 := Fr.app N121 Nq133
        refine Go.st (f' := (mkF m 229 #[iv p1, iv p2, iv p3, iv p4, iv yy1, iv yy2, iv yy3, iv 2, rv b5, rv b6, rv b17, rv b20, rv b27, rv b39, rv b112, .unset] [(.int (icI yy1))])) (fun _ k => st133 _ k) ?_
        by_cases cd134 : (icI yy1) = (0 : Int32)
        · refine Go.st (f' := (mkF m 264 #[iv p1, iv p2, iv p3, iv p4, iv yy1, iv yy2, iv yy3, iv 2, rv b5, rv b6, rv b17, rv b20, rv b27, rv b39, rv b112, .unset] [])) (fun _ k => XS.ifYes X133.here hx rfl (pc0 := 229) (pc' := 264) rfl (hb hby at_229) rfl ((if0 _ _).trans (teq cd134).1) (by decide) (by decide) k) ?_
          refine Go.st (f' := (mkF m 265 #[iv p1, iv p2, iv p3, iv p4, iv yy1, iv yy2, iv yy3, iv 2, rv b5, rv b6, rv b17, rv b20, rv b27, rv b39, rv b112, .unset] [(.int 0)])) (fun _ k => XS.iconst X133.here hx rfl (hb hby at_264) k) ?_
          refine Go.st (f' := (mkF m 267 #[iv p1, iv p2, iv p3, iv p4, iv yy1, iv yy2, iv yy3, iv 2, rv b5, rv b6, rv b17, rv b20, rv b27, rv b39, rv b112, iv 0] [])) (fun _ k => XS.istore X133.here hx rfl (hb hby at_265) rfl (l' := #[iv p1, iv p2, iv p3, iv p4, iv yy1, iv yy2, iv yy3, iv 2, rv b5, rv b6, rv b17, rv b20, rv b27, rv b39, rv b112, iv 0]) rfl k) ?_
          have ft135 := (Nat.le_trans (Nat.le_trans (Nat.le_trans (Nat.le_trans (Nat.le_trans (Nat.le_trans (Nat.le_trans (Nat.le_trans (Nat.le_trans (Nat.le_trans (Nat.le_trans (Nat.le_trans hk6 E17.1) E20.1) (Nat.le_of_eq W26.size.symm)) E27.1) (Nat.le_of_eq W35.size.symm)) (Nat.le_of_eq W38.size.symm)) E39.1) (Nat.le_of_eq W48.size.symm)) (Nat.le_of_eq W51.size.symm)) (Nat.le_of_eq W54.size.symm)) E112.1) kq121.1)
          exact J2 _ T121.heap T6.vm _ _ (0 : Int32) X133 kq133 O121 N133 hS6 ft135 hZ6 hown6 CR121 eq121 fq121 dq121 (by rw [own_nch (hyy1 ▸ own_chr _), own_nch (hyy2 ▸ own_chr _), vI_2, if_pos ((ic_id _).symm.trans cd134)])
        · refine Go.st (f' := (mkF m 232 #[iv p1, iv p2, iv p3, iv p4, iv yy1, iv yy2, iv yy3, iv 2, rv b5, rv b6, rv b17, rv b20, rv b27, rv b39, rv b112, .unset] [])) (fun _ k => XS.ifNo X133.here hx rfl (hb hby at_229) rfl ((if0 _ _).trans (feq cd134).1) k) ?_
          refine Go.st (f' := (mkF m 234 #[iv p1, iv p2, iv p3, iv p4, iv yy1, iv yy2, iv yy3, iv 2, rv b5, rv b6, rv b17, rv b20, rv b27, rv b39, rv b112, .unset] [(.int 2)])) (fun _ k => XS.iload X133.here hx rfl (hb hby at_232) rfl k) ?_
          refine Go.st (f' := (mkF m 235 #[iv p1, iv p2, iv p3, iv p4, iv yy1, iv yy2, iv yy3, iv 2, rv b5, rv b6, rv b17, rv b20, rv b27, rv b39, rv b112, .unset] [(.int 2), (.int 2)])) (fun _ k => XS.iconst X133.here hx rfl (hb hby at_234) k) ?_
          refine Go.st (f' := (mkF m 238 #[iv p1, iv p2, iv p3, iv p4, iv yy1, iv yy2, iv yy3, iv 2, rv b5, rv b6, rv b17, rv b20, rv b27, rv b39, rv b112, .unset] [])) (fun _ k => XS.icmpNo X133.here hx rfl (hb hby at_235) rfl (by decide) k) ?_
          refine Go.st (f' := (mkF m 240 #[iv p1, iv p2, iv p3, iv p4, iv yy1, iv yy2, iv yy3, iv 2, rv b5, rv b6, rv b17, rv b20, rv b27, rv b39, rv b112, .unset] [(.int yy2)])) (fun _ k => XS.iload X133.here hx rfl (hb hby at_238) rfl k) ?_
          obtain ⟨_, _, ⟨T136, L136, kk136, nn136⟩, -, X136, ⟨Lc136, hQ136, lq136, yq136, zz136⟩, st136⟩ := Jvm.LawKit.callS X133 hx (y := (⟨"com/example/rulebridge/rulebridge/server/IdIsValidPinLaw", "idChar", "(C)Z"⟩ : MethodName)) hown6 (mvT hZ6 (ww hw 51 rfl)) (mvT hZ6 (ww hw 52 rfl)) (mvT hZ6 (ww hw 53 rfl)) (mvT hZ6 (ww hw 54 rfl)) (by decide) (own_back (W := 0) (rmIc l Z a0 hw [] yy2 T121.heap n0 O121) hZ6 (ww hw 54 rfl) (ww hw 53 rfl) (by decide) (by decide)) (g := (mkF m 240 #[iv p1, iv p2, iv p3, iv p4, iv yy1, iv yy2, iv yy3, iv 2, rv b5, rv b6, rv b17, rv b20, rv b27, rv b39, rv b112, .unset] [(.int yy2)])) rfl (by rw [hml]; rfl) (argsL := [(.int yy2)]) (rest := []) (lenOf pd__C_Z rfl) rfl (by show 2 * 0 + _ ≤ _; exact Nat.le_of_eq rfl) (hb hby at_240) (fun _ _ => ⟨rfl, kq133, (by decide : 11 + 0 ≤ _), (by decide : 540 + 0 ≤ _)⟩)
          dsimp only [Pt.U, Pt.locs, Pt.cells, Pt.slots] at X136 lq136 yq136 zz136 st136 hQ136
          subst lq136 yq136 zz136
          obtain ⟨rfl, Nq136, kq136⟩ := hQ136
          have N136 := Fr.app N133 Nq136
          refine Go.st (f' := (mkF m 243 #[iv p1, iv p2, iv p3, iv p4, iv yy1, iv yy2, iv yy3, iv 2, rv b5, rv b6, rv b17, rv b20, rv b27, rv b39, rv b112, .unset] [(.int (icI yy2))])) (fun _ k => st136 _ k) ?_
          by_cases cd137 : (icI yy2) = (0 : Int32)
          · refine Go.st (f' := (mkF m 264 #[iv p1, iv p2, iv p3, iv p4, iv yy1, iv yy2, iv yy3, iv 2, rv b5, rv b6, rv b17, rv b20, rv b27, rv b39, rv b112, .unset] [])) (fun _ k => XS.ifYes X136.here hx rfl (pc0 := 243) (pc' := 264) rfl (hb hby at_243) rfl ((if0 _ _).trans (teq cd137).1) (by decide) (by decide) k) ?_
            refine Go.st (f' := (mkF m 265 #[iv p1, iv p2, iv p3, iv p4, iv yy1, iv yy2, iv yy3, iv 2, rv b5, rv b6, rv b17, rv b20, rv b27, rv b39, rv b112, .unset] [(.int 0)])) (fun _ k => XS.iconst X136.here hx rfl (hb hby at_264) k) ?_
            refine Go.st (f' := (mkF m 267 #[iv p1, iv p2, iv p3, iv p4, iv yy1, iv yy2, iv yy3, iv 2, rv b5, rv b6, rv b17, rv b20, rv b27, rv b39, rv b112, iv 0] [])) (fun _ k => XS.istore X136.here hx rfl (hb hby at_265) rfl (l' := #[iv p1, iv p2, iv p3, iv p4, iv yy1, iv yy2, iv yy3, iv 2, rv b5, rv b6, rv b17, rv b20, rv b27, rv b39, rv b112, iv 0]) rfl k) ?_
            have ft138 := (Nat.le_trans (Nat.le_trans (Nat.le_trans (Nat.le_trans (Nat.le_trans (Nat.le_trans (Nat.le_trans (Nat.le_trans (Nat.le_trans (Nat.le_trans (Nat.le_trans (Nat.le_trans hk6 E17.1) E20.1) (Nat.le_of_eq W26.size.symm)) E27.1) (Nat.le_of_eq W35.size.symm)) (Nat.le_of_eq W38.size.symm)) E39.1) (Nat.le_of_eq W48.size.symm)) (Nat.le_of_eq W51.size.symm)) (Nat.le_of_eq W54.size.symm)) E112.1) kq121.1)
            exact J2 _ T121.heap T6.vm _ _ (0 : Int32) X136 kq136 O121 N136 hS6 ft138 hZ6 hown6 CR121 eq121 fq121 dq121 (by rw [own_nch (hyy1 ▸ own_chr _), own_nch (hyy2 ▸ own_chr _), vI_2, if_neg (fun z => cd134 ((ic_id _).trans z)), if_pos ((ic_id _).symm.trans cd137)])
          · refine Go.st (f' := (mkF m 246 #[iv p1, iv p2, iv p3, iv p4, iv yy1, iv yy2, iv yy3, iv 2, rv b5, rv b6, rv b17, rv b20, rv b27, rv b39, rv b112, .unset] [])) (fun _ k => XS.ifNo X136.here hx rfl (hb hby at_243) rfl ((if0 _ _).trans (feq cd137).1) k) ?_
            refine Go.st (f' := (mkF m 248 #[iv p1, iv p2, iv p3, iv p4, iv yy1, iv yy2, iv yy3, iv 2, rv b5, rv b6, rv b17, rv b20, rv b27, rv b39, rv b112, .unset] [(.int 2)])) (fun _ k => XS.iload X136.here hx rfl (hb hby at_246) rfl k) ?_
            refine Go.st (f' := (mkF m 249 #[iv p1, iv p2, iv p3, iv p4, iv yy1, iv yy2, iv yy3, iv 2, rv b5, rv b6, rv b17, rv b20, rv b27, rv b39, rv b112, .unset] [(.int 3), (.int 2)])) (fun _ k => XS.iconst X136.here hx rfl (hb hby at_248) k) ?_
            refine Go.st (f' := (mkF m 260 #[iv p1, iv p2, iv p3, iv p4, iv yy1, iv yy2, iv yy3, iv 2, rv b5, rv b6, rv b17, rv b20, rv b27, rv b39, rv b112, .unset] [])) (fun _ k => XS.icmpYes X136.here hx rfl (pc0 := 249) (pc' := 260) rfl (hb hby at_249) rfl (by decide) (by decide) (by decide) k) ?_
            refine Go.st (f' := (mkF m 261 #[iv p1, iv p2, iv p3, iv p4, iv yy1, iv yy2, iv yy3, iv 2, rv b5, rv b6, rv b17, rv b20, rv b27, rv b39, rv b112, .unset] [(.int 1)])) (fun _ k => XS.iconst X136.here hx rfl (hb hby at_260) k) ?_
            refine Go.st (f' := (mkF m 265 #[iv p1, iv p2, iv p3, iv p4, iv yy1, iv yy2, iv yy3, iv 2, rv b5, rv b6, rv b17, rv b20, rv b27, rv b39, rv b112, .unset] [(.int 1)])) (fun _ k => XS.goto X136.here hx rfl (pc0 := 261) (pc' := 265) rfl (hb hby at_261) (by decide) (by decide) k) ?_
            refine Go.st (f' := (mkF m 267 #[iv p1, iv p2, iv p3, iv p4, iv yy1, iv yy2, iv yy3, iv 2, rv b5, rv b6, rv b17, rv b20, rv b27, rv b39, rv b112, iv 1] [])) (fun _ k => XS.istore X136.here hx rfl (hb hby at_265) rfl (l' := #[iv p1, iv p2, iv p3, iv p4, iv yy1, iv yy2, iv yy3, iv 2, rv b5, rv b6, rv b17, rv b20, rv b27, rv b39, rv b112, iv 1]) rfl k) ?_
            have ft139 := (Nat.le_trans (Nat.le_trans (Nat.le_trans (Nat.le_trans (Nat.le_trans (Nat.le_trans (Nat.le_trans (Nat.le_trans (Nat.le_trans (Nat.le_trans (Nat.le_trans (Nat.le_trans hk6 E17.1) E20.1) (Nat.le_of_eq W26.size.symm)) E27.1) (Nat.le_of_eq W35.size.symm)) (Nat.le_of_eq W38.size.symm)) E39.1) (Nat.le_of_eq W48.size.symm)) (Nat.le_of_eq W51.size.symm)) (Nat.le_of_eq W54.size.symm)) E112.1) kq121.1)
            exact J2 _ T121.heap T6.vm _ _ (1 : Int32) X136 kq136 O121 N136 hS6 ft139 hZ6 hown6 CR121 eq121 fq121 dq121 (by rw [own_nch (hyy1 ▸ own_chr _), own_nch (hyy2 ▸ own_chr _), vI_2, if_neg (fun z => cd134 ((ic_id _).trans z)), if_neg (fun z => cd137 ((ic_id _).trans z))])
      · rw [h6]
        refine Go.st (f' := (mkF m 150 #[iv p1, iv p2, iv p3, iv p4, iv yy1, iv yy2, iv yy3, iv 3, rv b5, rv b6, rv b17, rv b20, rv b27, rv b39, .unset, .unset] [(.int 3)])) (fun _ k => XS.iload X54.here hx rfl (hb hby at_148) rfl k) ?_
        refine Go.st (f' := (mkF m 167 #[iv p1, iv p2, iv p3, iv p4, iv yy1, iv yy2, iv yy3, iv 3, rv b5, rv b6, rv b17, rv b20, rv b27, rv b39, .unset, .unset] [])) (fun _ k => XS.ifYes X54.here hx rfl (pc0 := 150) (pc' := 167) rfl (hb hby at_150) rfl (by decide) (by decide) (by decide) k) ?_
        refine Go.st (f' := (mkF m 169 #[iv p1, iv p2, iv p3, iv p4, iv yy1, iv yy2, iv yy3, iv 3, rv b5, rv b6, rv b17, rv b20, rv b27, rv b39, .unset, .unset] [(.int 3)])) (fun _ k => XS.iload X54.here hx rfl (hb hby at_167) rfl k) ?_
        refine Go.st (f' := (mkF m 170 #[iv p1, iv p2, iv p3, iv p4, iv yy1, iv yy2, iv yy3, iv 3, rv b5, rv b6, rv b17, rv b20, rv b27, rv b39, .unset, .unset] [(.int 1), (.int 3)])) (fun _ k => XS.iconst X54.here hx rfl (hb hby at_169) k) ?_
        refine Go.st (f' := (mkF m 187 #[iv p1, iv p2, iv p3, iv p4, iv yy1, iv yy2, iv yy3, iv 3, rv b5, rv b6, rv b17, rv b20, rv b27, rv b39, .unset, .unset] [])) (fun _ k => XS.icmpYes X54.here hx rfl (pc0 := 170) (pc' := 187) rfl (hb hby at_170) rfl (by decide) (by decide) (by decide) k) ?_
        refine Go.st (f' := (mkF m 189 #[iv p1, iv p2, iv p3, iv p4, iv yy1, iv yy2, iv yy3, iv 3, rv b5, rv b6, rv b17, rv b20, rv b27, rv b39, .unset, .unset] [(.int 3)])) (fun _ k => XS.iload X54.here hx rfl (hb hby at_187) rfl k) ?_
        refine Go.st (f' := (mkF m 190 #[iv p1, iv p2, iv p3, iv p4, iv yy1, iv yy2, iv yy3, iv 3, rv b5, rv b6, rv b17, rv b20, rv b27, rv b39, .unset, .unset] [(.int 2), (.int 3)])) (fun _ k => XS.iconst X54.here hx rfl (hb hby at_189) k) ?_
        refine Go.st (f' := (mkF m 207 #[iv p1, iv p2, iv p3, iv p4, iv yy1, iv yy2, iv yy3, iv 3, rv b5, rv b6, rv b17, rv b20, rv b27, rv b39, .unset, .unset] [])) (fun _ k => XS.icmpYes X54.here hx rfl (pc0 := 190) (pc' := 207) rfl (hb hby at_190) rfl (by decide) (by decide) (by decide) k) ?_
        obtain ⟨T140, h140, X140, e140, E140, A140, D140, -, st140⟩ := newO X54 hx hZ6 hown6 (ww hw 12 rfl) (ww hw 4 rfl) (ww hw 3 rfl) e54 (g := (mkF m 207 #[iv p1, iv p2, iv p3, iv p4, iv yy1, iv yy2, iv yy3, iv 3, rv b5, rv b6, rv b17, rv b20, rv b27, rv b39, .unset, .unset] [])) rfl (hb hby at_207) (by decide) (by decide)
        obtain ⟨b140, g140⟩ : ∃ z, z = h54.size := ⟨_, rfl⟩
        rw [← g140] at A140 D140 st140
        have ft141 := (Nat.lt_of_lt_of_eq (Nat.lt_of_lt_of_eq (Nat.lt_of_lt_of_eq (Nat.lt_of_lt_of_le ft40 E39.1) W48.size.symm) W51.size.symm) W54.size.symm)
        have ne_b5_b140 : b5 ≠ b140 := Nat.ne_of_lt (Nat.lt_of_lt_of_eq ft141 g140.symm)
        have ft142 := (Nat.lt_of_lt_of_eq (Nat.lt_of_lt_of_eq (Nat.lt_of_lt_of_eq (Nat.lt_of_lt_of_le ft41 E39.1) W48.size.symm) W51.size.symm) W54.size.symm)
        have ne_t5_b140 : t5 ≠ b140 := Nat.ne_of_lt (Nat.lt_of_lt_of_eq ft142 g140.symm)
        have ft143 := (Nat.lt_of_lt_of_eq (Nat.lt_of_lt_of_eq (Nat.lt_of_lt_of_eq (Nat.lt_of_lt_of_le ft42 E39.1) W48.size.symm) W51.size.symm) W54.size.symm)
        have ne_b6_b140 : b6 ≠ b140 := Nat.ne_of_lt (Nat.lt_of_lt_of_eq ft143 g140.symm)
        have ft144 := (Nat.lt_of_lt_of_eq (Nat.lt_of_lt_of_eq (Nat.lt_of_lt_of_eq (Nat.lt_of_lt_of_le ft43 E39.1) W48.size.symm) W51.size.symm) W54.size.symm)
        have ne_t6_b140 : t6 ≠ b140 := Nat.ne_of_lt (Nat.lt_of_lt_of_eq ft144 g140.symm)
        have ft145 := (Nat.lt_of_lt_of_eq (Nat.lt_of_lt_of_eq (Nat.lt_of_lt_of_eq (Nat.lt_of_lt_of_le ft44 E39.1) W48.size.symm) W51.size.symm) W54.size.symm)
        have ne_b17_b140 : b17 ≠ b140 := Nat.ne_of_lt (Nat.lt_of_lt_of_eq ft145 g140.symm)
        have ft146 := (Nat.lt_of_lt_of_eq (Nat.lt_of_lt_of_eq (Nat.lt_of_lt_of_eq (Nat.lt_of_lt_of_le ft45 E39.1) W48.size.symm) W51.size.symm) W54.size.symm)
        have ne_b20_b140 : b20 ≠ b140 := Nat.ne_of_lt (Nat.lt_of_lt_of_eq ft146 g140.symm)
        have ft147 := (Nat.lt_of_lt_of_eq (Nat.lt_of_lt_of_eq (Nat.lt_of_lt_of_eq (Nat.lt_of_lt_of_le ft46 E39.1) W48.size.symm) W51.size.symm) W54.size.symm)
        have ne_b27_b140 : b27 ≠ b140 := Nat.ne_of_lt (Nat.lt_of_lt_of_eq ft147 g140.symm)
        have ft148 := (Nat.lt_of_lt_of_eq (Nat.lt_of_lt_of_eq (Nat.lt_of_lt_of_eq lt_b39 W48.size.symm) W51.size.symm) W54.size.symm)
        have ne_b39_b140 : b39 ≠ b140 := Nat.ne_of_lt (Nat.lt_of_lt_of_eq ft148 g140.symm)
        have g_b140 : n0 ≤ b140 := Nat.le_trans (O54.1 ▸ O54.2.1) (Nat.le_of_eq g140.symm)
        have O140 : Old Z n0 h140 := O54.ext E140
        have CR140 : CHr Z EL s.vm h0 T6.vm h140 := CR54.trans (CHr.ext E140 CR54.1)
        have sf_b140 : Safe Z EL T6.vm h140 b140 := (Safe.new (Nat.le_of_eq g140.symm)).ext E140 CR54.1
        have lt_b140 := A140.lt
        have F_value_b140 : Fld Z h140 b140 "java/lang/String" "value" "[B" .null := D140 (Or.inr (ww hw 6 rfl)) (ty := (.array .byte)) (by decide)
        have F_coder_b140 : Fld Z h140 b140 "java/lang/String" "coder" "B" (.int (0 : Int32)) := D140 (Or.inr (ww hw 7 rfl)) (ty := .byte) (by decide)
        refine Go.st (f' := (mkF m 210 #[iv p1, iv p2, iv p3, iv p4, iv yy1, iv yy2, iv yy3, iv 3, rv b5, rv b6, rv b17, rv b20, rv b27, rv b39, .unset, .unset] [(.ref b140)])) (fun _ k => st140 _ k) ?_
        refine Go.st (f' := (mkF m 211 #[iv p1, iv p2, iv p3, iv p4, iv yy1, iv yy2, iv yy3, iv 3, rv b5, rv b6, rv b17, rv b20, rv b27, rv b39, .unset, .unset] [(.ref b140), (.ref b140)])) (fun _ k => XS.dup X140.here hx rfl (hb hby at_210) rfl rfl k) ?_
        refine Go.st (f' := (mkF m 213 #[iv p1, iv p2, iv p3, iv p4, iv yy1, iv yy2, iv yy3, iv 3, rv b5, rv b6, rv b17, rv b20, rv b27, rv b39, .unset, .unset] [(.ref b39), (.ref b140), (.ref b140)])) (fun _ k => XS.aload X140.here hx rfl (hb hby at_211) rfl rfl k) ?_
        have ft150 := (V_b39_54.ext E140)
        obtain ⟨_, _, ⟨T149, L149, kk149, nn149⟩, -, X149, ⟨Lc149, hQ149, lq149, yq149, zz149⟩, st149⟩ := X140.specialBack hx (y := (⟨"java/lang/String", "<init>", "([C)V"⟩ : MethodName)) rfl hown6 (mvT hZ6 (ww hw 13 rfl)) (mvT hZ6 (ww hw 14 rfl)) (mvT hZ6 (ww hw 15 rfl)) (by decide) (own_back (W := 1) (uA_3 l Z a0 hw [] b140 b39 kc39 (nar .char yy1) (nar .char yy2) (nar .char yy3) i_COMPACT_STRINGS v_SIOOBE_FORMATTER h140 n0 O140 (own_chr _) (own_chr _) (own_chr _) g_b140 (Ne.symm ne_b39_b140) A140 F_coder_b140 F_value_b140 ft150 WW) hZ6 (ww hw 15 rfl) (ww hw 3 rfl) (by decide) (by decide)) (g := (mkF m 213 #[iv p1, iv p2, iv p3, iv p4, iv yy1, iv yy2, iv yy3, iv 3, rv b5, rv b6, rv b17, rv b20, rv b27, rv b39, .unset, .unset] [(.ref b39), (.ref b140), (.ref b140)])) rfl (by rw [hml]; rfl) (Steps.refl _) (a := b140) (argsL := [(.ref b39)]) (rest := [(.ref b140)]) (lenOf pd___C_V rfl) rfl (by show 2 * 0 + _ ≤ _; exact Nat.le_of_eq rfl) (hb hby at_213) (fun _ _ => ⟨rfl, e140, (by decide : 9 + 2 ≤ _), (by decide : 534 + 9 ≤ _)⟩)
        dsimp only [Pt.U, Pt.locs, Pt.cells, Pt.slots] at X149 lq149 yq149 zz149 st149 hQ149
        subst lq149 yq149 zz149
        obtain ⟨rfl, Nq149, kq149, eq149, tt149, kt149, zq149, fq149, dq149⟩ := hQ149
        have N149 := Fr.app N54 Nq149
        have ft151 := (Nat.lt_of_lt_of_le ft141 E140.1)
        have ne_b5_tt149 : b5 ≠ tt149 := Nat.ne_of_lt (Nat.lt_of_lt_of_le ft151 zq149)
        have ft152 := (Nat.lt_of_lt_of_le ft142 E140.1)
        have ne_t5_tt149 : t5 ≠ tt149 := Nat.ne_of_lt (Nat.lt_of_lt_of_le ft152 zq149)
        have ft153 := (Nat.lt_of_lt_of_le ft143 E140.1)
        have ne_b6_tt149 : b6 ≠ tt149 := Nat.ne_of_lt (Nat.lt_of_lt_of_le ft153 zq149)
        have ft154 := (Nat.lt_of_lt_of_le ft144 E140.1)
        have ne_t6_tt149 : t6 ≠ tt149 := Nat.ne_of_lt (Nat.lt_of_lt_of_le ft154 zq149)
        have ft155 := (Nat.lt_of_lt_of_le ft145 E140.1)
        have ne_b17_tt149 : b17 ≠ tt149 := Nat.ne_of_lt (Nat.lt_of_lt_of_le ft155 zq149)
        have ft156 := (Nat.lt_of_lt_of_le ft146 E140.1)
        have ne_b20_tt149 : b20 ≠ tt149 := Nat.ne_of_lt (Nat.lt_of_lt_of_le ft156 zq149)
        have ft157 := (Nat.lt_of_lt_of_le ft147 E140.1)
        have ne_b27_tt149 : b27 ≠ tt149 := Nat.ne_of_lt (Nat.lt_of_lt_of_le ft157 zq149)
        have ft158 := (Nat.lt_of_lt_of_le ft148 E140.1)
        have ne_b39_tt149 : b39 ≠ tt149 := Nat.ne_of_lt (Nat.lt_of_lt_of_le ft158 zq149)
        have ne_b140_tt149 : b140 ≠ tt149 := Nat.ne_of_lt (Nat.lt_of_lt_of_le lt_b140 zq149)
        have g_tt149 : n0 ≤ tt149 := Nat.le_trans (O140.1 ▸ O140.2.1) zq149
        have sn_tt149 : Safe Z EL T6.vm h140 tt149 := Safe.new zq149
        have O149 : Old Z n0 T149.heap := O140.keep kq149 (allS g_b140 all0)
        have CR149 : CHr Z EL s.vm h0 T6.vm T149.heap := CR140.trans (CHr.keep kq149 (sfS sf_b140 sf0) CR140.1)
        refine Go.tr (f' := (mkF m 216 #[iv p1, iv p2, iv p3, iv p4, iv yy1, iv yy2, iv yy3, iv 3, rv b5, rv b6, rv b17, rv b20, rv b27, rv b39, .unset, .unset] [(.ref b140)])) st149 ?_
        refine Go.st (f' := (mkF m 218 #[iv p1, iv p2, iv p3, iv p4, iv yy1, iv yy2, iv yy3, iv 3, rv b5, rv b6, rv b17, rv b20, rv b27, rv b39, rv b140, .unset] [])) (fun _ k => XS.astore X149.here hx rfl (hb hby at_216) rfl rfl (l' := #[iv p1, iv p2, iv p3, iv p4, iv yy1, iv yy2, iv yy3, iv 3, rv b5, rv b6, rv b17, rv b20, rv b27, rv b39, rv b140, .unset]) rfl k) ?_
        have J2 : ∀ (TJ159 : State) (hJ159 : Heap) (vmJ159 : Vm) (kJ159 : Nat) (LJ159 : List Loc) (z15 : Int32), (Stand p l e room_1 (s.setVm vmJ159) m #[(.int p1), (.int p2), (.int p3), (.int p4)] below meth c TJ159 LJ159 11 543) → (TJ159.heap = hJ159) → (Old Z n0 hJ159) → (Fr n0 LJ159) → (s.Since vmJ159 kJ159) → (kJ159 ≤ hJ159.size) → (Z.Warmed39 (s.setVm vmJ159).vm) → ((s.setVm vmJ159).vm.findClass "com/example/rulebridge/rulebridge/server/IdIsValidPinLaw" = some m.cls) → (CHr Z EL s.vm h0 vmJ159 hJ159) → (Exa Z hJ159 b140 "java/lang/String") → (Fld Z hJ159 b140 "java/lang/String" "value" "[B" (.ref tt149)) → (Sx3 Z hJ159 b140 tt149 kt149 (nar .char yy1) (nar .char yy2) (nar .char yy3)) → (z15 = (vI_3 (nar .char yy1) (nar .char yy2) (nar .char yy3))) → Go p e below (DoneW s Z EL (QL n0) room_1.cells room_1.slots) TJ159 (mkF m 267 #[iv p1, iv p2, iv p3, iv p4, iv yy1, iv yy2, iv yy3, iv 3, rv b5, rv b6, rv b17, rv b20, rv b27, rv b39, rv b140, iv z15] []) := by
          intro TJ159 hJ159 vmJ159 kJ159 LJ159 z15 XJ159 eJ159 OJ159 NJ159 hSJ159 hkJ159 hZJ159 hownJ159 CRJ159 cyJ159_0 cyJ159_1 cyJ159_2 hz15
          refine Go.st (f' := (mkF m 269 #[iv p1, iv p2, iv p3, iv p4, iv yy1, iv yy2, iv yy3, iv 3, rv b5, rv b6, rv b17, rv b20, rv b27, rv b39, rv b140, iv z15] [(.ref b140)])) (fun _ k => XS.aload XJ159.here hx rfl (hb hby at_267) rfl rfl k) ?_
          obtain ⟨_, _, ⟨T160, L160, kk160, nn160⟩, -, X160, ⟨Lc160, hQ160, lq160, yq160, zz160⟩, st160⟩ := Jvm.LawKit.callS XJ159 hx (y := (⟨"com/example/rulebridge/rulebridge/server/Id", "isValid", "(Ljava/lang/String;)Z"⟩ : MethodName)) hownJ159 (mvT hZJ159 (ww hw 26 rfl)) (mvT hZJ159 (ww hw 27 rfl)) (mvT hZJ159 (ww hw 28 rfl)) (mvT hZJ159 (ww hw 29 rfl)) (by decide) (own_back (W := 0) (vaS_3 l Z a0 hw [] b140 tt149 kt149 (nar .char yy1) (nar .char yy2) (nar .char yy3) i_COMPACT_STRINGS v_SIOOBE_FORMATTER hJ159 n0 OJ159 cyJ159_0 cyJ159_1 cyJ159_2 (own_chr _) (own_chr _) (own_chr _) WW) hZJ159 (ww hw 29 rfl) (ww hw 28 rfl) (by decide) (by decide)) (g := (mkF m 269 #[iv p1, iv p2, iv p3, iv p4, iv yy1, iv yy2, iv yy3, iv 3, rv b5, rv b6, rv b17, rv b20, rv b27, rv b39, rv b140, iv z15] [(.ref b140)])) rfl (by rw [hml]; rfl) (argsL := [(.ref b140)]) (rest := []) (lenOf pd__Ljava_lang_String__Z rfl) rfl (by show 2 * 0 + _ ≤ _; exact Nat.le_of_eq rfl) (hb hby at_269) (fun _ _ => ⟨rfl, eJ159, (by decide : 11 + 0 ≤ _), (by decide : 543 + 0 ≤ _)⟩)
          dsimp only [Pt.U, Pt.locs, Pt.cells, Pt.slots] at X160 lq160 yq160 zz160 st160 hQ160
          subst lq160 yq160 zz160
          obtain ⟨rfl, Nq160, kq160⟩ := hQ160
          have N160 := Fr.app NJ159 Nq160
          refine Go.st (f' := (mkF m 272 #[iv p1, iv p2, iv p3, iv p4, iv yy1, iv yy2, iv yy3, iv 3, rv b5, rv b6, rv b17, rv b20, rv b27, rv b39, rv b140, iv z15] [(.int (vI_3 (nar .char yy1) (nar .char yy2) (nar .char yy3)))])) (fun _ k => st160 _ k) ?_
          refine Go.st (f' := (mkF m 274 #[iv p1, iv p2, iv p3, iv p4, iv yy1, iv yy2, iv yy3, iv 3, rv b5, rv b6, rv b17, rv b20, rv b27, rv b39, rv b140, iv z15] [(.int z15), (.int (vI_3 (nar .char yy1) (nar .char yy2) (nar .char yy3)))])) (fun _ k => XS.iload X160.here hx rfl (hb hby at_272) rfl k) ?_
          refine Go.st (f' := (mkF m 277 #[iv p1, iv p2, iv p3, iv p4, iv yy1, iv yy2, iv yy3, iv 3, rv b5, rv b6, rv b17, rv b20, rv b27, rv b39, rv b140, iv z15] [])) (fun _ k => XS.icmpNo X160.here hx rfl (hb hby at_274) rfl (teq hz15.symm).2 k) ?_
          refine Go.st (f' := (mkF m 278 #[iv p1, iv p2, iv p3, iv p4, iv yy1, iv yy2, iv yy3, iv 3, rv b5, rv b6, rv b17, rv b20, rv b27, rv b39, rv b140, iv z15] [(.int 1)])) (fun _ k => XS.iconst X160.here hx rfl (hb hby at_277) k) ?_
          refine Go.st (f' := (mkF m 282 #[iv p1, iv p2, iv p3, iv p4, iv yy1, iv yy2, iv yy3, iv 3, rv b5, rv b6, rv b17, rv b20, rv b27, rv b39, rv b140, iv z15] [(.int 1)])) (fun _ k => XS.goto X160.here hx rfl (pc0 := 278) (pc' := 282) rfl (hb hby at_278) (by decide) (by decide) k) ?_
          refine GoW.retB X160 hlk hx (t := .boolean) hret (by simp) (hb hby at_282) kq160 hSJ159 hkJ159 hZJ159 hEL CRJ159 hh ?_ (by decide) (by decide)
          exact ⟨rfl, N160⟩
        refine Go.st (f' := (mkF m 220 #[iv p1, iv p2, iv p3, iv p4, iv yy1, iv yy2, iv yy3, iv 3, rv b5, rv b6, rv b17, rv b20, rv b27, rv b39, rv b140, .unset] [(.int 3)])) (fun _ k => XS.iload X149.here hx rfl (hb hby at_218) rfl k) ?_
        refine Go.st (f' := (mkF m 221 #[iv p1, iv p2, iv p3, iv p4, iv yy1, iv yy2, iv yy3, iv 3, rv b5, rv b6, rv b17, rv b20, rv b27, rv b39, rv b140, .unset] [(.int 1), (.int 3)])) (fun _ k => XS.iconst X149.here hx rfl (hb hby at_220) k) ?_
        refine Go.st (f' := (mkF m 224 #[iv p1, iv p2, iv p3, iv p4, iv yy1, iv yy2, iv yy3, iv 3, rv b5, rv b6, rv b17, rv b20, rv b27, rv b39, rv b140, .unset] [])) (fun _ k => XS.icmpNo X149.here hx rfl (hb hby at_221) rfl (by decide) k) ?_
        refine Go.st (f' := (mkF m 226 #[iv p1, iv p2, iv p3, iv p4, iv yy1, iv yy2, iv yy3, iv 3, rv b5, rv b6, rv b17, rv b20, rv b27, rv b39, rv b140, .unset] [(.int yy1)])) (fun _ k => XS.iload X149.here hx rfl (hb hby at_224) rfl k) ?_
        obtain ⟨_, _, ⟨T161, L161, kk161, nn161⟩, -, X161, ⟨Lc161, hQ161, lq161, yq161, zz161⟩, st161⟩ := Jvm.LawKit.callS X149 hx (y := (⟨"com/example/rulebridge/rulebridge/server/IdIsValidPinLaw", "idChar", "(C)Z"⟩ : MethodName)) hown6 (mvT hZ6 (ww hw 51 rfl)) (mvT hZ6 (ww hw 52 rfl)) (mvT hZ6 (ww hw 53 rfl)) (mvT hZ6 (ww hw 54 rfl)) (by decide) (own_back (W := 0) (rmIc l Z a0 hw [] yy1 T149.heap n0 O149) hZ6 (ww hw 54 rfl) (ww hw 53 rfl) (by decide) (by decide)) (g := (mkF m 226 #[iv p1, iv p2, iv p3, iv p4, iv yy1, iv yy2, iv yy3, iv 3, rv b5, rv b6, rv b17, rv b20, rv b27, rv b39, rv b140, .unset] [(.int yy1)])) rfl (by rw [hml]; rfl) (argsL := [(.int yy1)]) (rest := []) (lenOf pd__C_Z rfl) rfl (by show 2 * 0 + _ ≤ _; exact Nat.le_of_eq rfl) (hb hby at_226) (fun _ _ => ⟨rfl, rfl, (by decide : 11 + 0 ≤ _), (by decide : 543 + 0 ≤ _)⟩)
        dsimp only [Pt.U, Pt.locs, Pt.cells, Pt.slots] at X161 lq161 yq161 zz161 st161 hQ161
        subst lq161 yq161 zz161
        obtain ⟨rfl, Nq161, kq161⟩ := hQ161
        have N161 := Fr.app N149 Nq161
        refine Go.st (f' := (mkF m 229 #[iv p1, iv p2, iv p3, iv p4, iv yy1, iv yy2, iv yy3, iv 3, rv b5, rv b6, rv b17, rv b20, rv b27, rv b39, rv b140, .unset] [(.int (icI yy1))])) (fun _ k => st161 _ k) ?_
        by_cases cd162 : (icI yy1) = (0 : Int32)
        · refine Go.st (f' := (mkF m 264 #[iv p1, iv p2, iv p3, iv p4, iv yy1, iv yy2, iv yy3, iv 3, rv b5, rv b6, rv b17, rv b20, rv b27, rv b39, rv b140, .unset] [])) (fun _ k => XS.ifYes X161.here hx rfl (pc0 := 229) (pc' := 264) rfl (hb hby at_229) rfl ((if0 _ _).trans (teq cd162).1) (by decide) (by decide) k) ?_
          refine Go.st (f' := (mkF m 265 #[iv p1, iv p2, iv p3, iv p4, iv yy1, iv yy2, iv yy3, iv 3, rv b5, rv b6, rv b17, rv b20, rv b27, rv b39, rv b140, .unset] [(.int 0)])) (fun _ k => XS.iconst X161.here hx rfl (hb hby at_264) k) ?_
          refine Go.st (f' := (mkF m 267 #[iv p1, iv p2, iv p3, iv p4, iv yy1, iv yy2, iv yy3, iv 3, rv b5, rv b6, rv b17, rv b20, rv b27, rv b39, rv b140, iv 0] [])) (fun _ k => XS.istore X161.here hx rfl (hb hby at_265) rfl (l' := #[iv p1, iv p2, iv p3, iv p4, iv yy1, iv yy2, iv yy3, iv 3, rv b5, rv b6, rv b17, rv b20, rv b27, rv b39, rv b140, iv 0]) rfl k) ?_
          have ft163 := (Nat.le_trans (Nat.le_trans (Nat.le_trans (Nat.le_trans (Nat.le_trans (Nat.le_trans (Nat.le_trans (Nat.le_trans (Nat.le_trans (Nat.le_trans (Nat.le_trans (Nat.le_trans hk6 E17.1) E20.1) (Nat.le_of_eq W26.size.symm)) E27.1) (Nat.le_of_eq W35.size.symm)) (Nat.le_of_eq W38.size.symm)) E39.1) (Nat.le_of_eq W48.size.symm)) (Nat.le_of_eq W51.size.symm)) (Nat.le_of_eq W54.size.symm)) E140.1) kq149.1)
          exact J2 _ T149.heap T6.vm _ _ (0 : Int32) X161 kq161 O149 N161 hS6 ft163 hZ6 hown6 CR149 eq149 fq149 dq149 (by rw [own_nch (hyy1 ▸ own_chr _), own_nch (hyy2 ▸ own_chr _), own_nch (hyy3 ▸ own_chr _), vI_3, if_pos ((ic_id _).symm.trans cd162)])
        · refine Go.st (f' := (mkF m 232 #[iv p1, iv p2, iv p3, iv p4, iv yy1, iv yy2, iv yy3, iv 3, rv b5, rv b6, rv b17, rv b20, rv b27, rv b39, rv b140, .unset] [])) (fun _ k => XS.ifNo X161.here hx rfl (hb hby at_229) rfl ((if0 _ _).trans (feq cd162).1) k) ?_
          refine Go.st (f' := (mkF m 234 #[iv p1, iv p2, iv p3, iv p4, iv yy1, iv yy2, iv yy3, iv 3, rv b5, rv b6, rv b17, rv b20, rv b27, rv b39, rv b140, .unset] [(.int 3)])) (fun _ k => XS.iload X161.here hx rfl (hb hby at_232) rfl k) ?_
          refine Go.st (f' := (mkF m 235 #[iv p1, iv p2, iv p3, iv p4, iv yy1, iv yy2, iv yy3, iv 3, rv b5, rv b6, rv b17, rv b20, rv b27, rv b39, rv b140, .unset] [(.int 2), (.int 3)])) (fun _ k => XS.iconst X161.here hx rfl (hb hby at_234) k) ?_
          refine Go.st (f' := (mkF m 238 #[iv p1, iv p2, iv p3, iv p4, iv yy1, iv yy2, iv yy3, iv 3, rv b5, rv b6, rv b17, rv b20, rv b27, rv b39, rv b140, .unset] [])) (fun _ k => XS.icmpNo X161.here hx rfl (hb hby at_235) rfl (by decide) k) ?_
          refine Go.st (f' := (mkF m 240 #[iv p1, iv p2, iv p3, iv p4, iv yy1, iv yy2, iv yy3, iv 3, rv b5, rv b6, rv b17, rv b20, rv b27, rv b39, rv b140, .unset] [(.int yy2)])) (fun _ k => XS.iload X161.here hx rfl (hb hby at_238) rfl k) ?_
          obtain ⟨_, _, ⟨T164, L164, kk164, nn164⟩, -, X164, ⟨Lc164, hQ164, lq164, yq164, zz164⟩, st164⟩ := Jvm.LawKit.callS X161 hx (y := (⟨"com/example/rulebridge/rulebridge/server/IdIsValidPinLaw", "idChar", "(C)Z"⟩ : MethodName)) hown6 (mvT hZ6 (ww hw 51 rfl)) (mvT hZ6 (ww hw 52 rfl)) (mvT hZ6 (ww hw 53 rfl)) (mvT hZ6 (ww hw 54 rfl)) (by decide) (own_back (W := 0) (rmIc l Z a0 hw [] yy2 T149.heap n0 O149) hZ6 (ww hw 54 rfl) (ww hw 53 rfl) (by decide) (by decide)) (g := (mkF m 240 #[iv p1, iv p2, iv p3, iv p4, iv yy1, iv yy2, iv yy3, iv 3, rv b5, rv b6, rv b17, rv b20, rv b27, rv b39, rv b140, .unset] [(.int yy2)])) rfl (by rw [hml]; rfl) (argsL := [(.int yy2)]) (rest := []) (lenOf pd__C_Z rfl) rfl (by show 2 * 0 + _ ≤ _; exact Nat.le_of_eq rfl) (hb hby at_240) (fun _ _ => ⟨rfl, kq161, (by decide : 11 + 0 ≤ _), (by decide : 543 + 0 ≤ _)⟩)
          dsimp only [Pt.U, Pt.locs, Pt.cells, Pt.slots] at X164 lq164 yq164 zz164 st164 hQ164
          subst lq164 yq164 zz164
          obtain ⟨rfl, Nq164, kq164⟩ := hQ164
          have N164 := Fr.app N161 Nq164
          refine Go.st (f' := (mkF m 243 #[iv p1, iv p2, iv p3, iv p4, iv yy1, iv yy2, iv yy3, iv 3, rv b5, rv b6, rv b17, rv b20, rv b27, rv b39, rv b140, .unset] [(.int (icI yy2))])) (fun _ k => st164 _ k) ?_
          by_cases cd165 : (icI yy2) = (0 : Int32)
          · refine Go.st (f' := (mkF m 264 #[iv p1, iv p2, iv p3, iv p4, iv yy1, iv yy2, iv yy3, iv 3, rv b5, rv b6, rv b17, rv b20, rv b27, rv b39, rv b140, .unset] [])) (fun _ k => XS.ifYes X164.here hx rfl (pc0 := 243) (pc' := 264) rfl (hb hby at_243) rfl ((if0 _ _).trans (teq cd165).1) (by decide) (by decide) k) ?_
            refine Go.st (f' := (mkF m 265 #[iv p1, iv p2, iv p3, iv p4, iv yy1, iv yy2, iv yy3, iv 3, rv b5, rv b6, rv b17, rv b20, rv b27, rv b39, rv b140, .unset] [(.int 0)])) (fun _ k => XS.iconst X164.here hx rfl (hb hby at_264) k) ?_
            refine Go.st (f' := (mkF m 267 #[iv p1, iv p2, iv p3, iv p4, iv yy1, iv yy2, iv yy3, iv 3, rv b5, rv b6, rv b17, rv b20, rv b27, rv b39, rv b140, iv 0] [])) (fun _ k => XS.istore X164.here hx rfl (hb hby at_265) rfl (l' := #[iv p1, iv p2, iv p3, iv p4, iv yy1, iv yy2, iv yy3, iv 3, rv b5, rv b6, rv b17, rv b20, rv b27, rv b39, rv b140, iv 0]) rfl k) ?_
            have ft166 := (Nat.le_trans (Nat.le_trans (Nat.le_trans (Nat.le_trans (Nat.le_trans (Nat.le_trans (Nat.le_trans (Nat.le_trans (Nat.le_trans (Nat.le_trans (Nat.le_trans (Nat.le_trans hk6 E17.1) E20.1) (Nat.le_of_eq W26.size.symm)) E27.1) (Nat.le_of_eq W35.size.symm)) (Nat.le_of_eq W38.size.symm)) E39.1) (Nat.le_of_eq W48.size.symm)) (Nat.le_of_eq W51.size.symm)) (Nat.le_of_eq W54.size.symm)) E140.1) kq149.1)
            exact J2 _ T149.heap T6.vm _ _ (0 : Int32) X164 kq164 O149 N164 hS6 ft166 hZ6 hown6 CR149 eq149 fq149 dq149 (by rw [own_nch (hyy1 ▸ own_chr _), own_nch (hyy2 ▸ own_chr _), own_nch (hyy3 ▸ own_chr _), vI_3, if_neg (fun z => cd162 ((ic_id _).trans z)), if_pos ((ic_id _).symm.trans cd165)])
          · refine Go.st (f' := (mkF m 246 #[iv p1, iv p2, iv p3, iv p4, iv yy1, iv yy2, iv yy3, iv 3, rv b5, rv b6, rv b17, rv b20, rv b27, rv b39, rv b140, .unset] [])) (fun _ k => XS.ifNo X164.here hx rfl (hb hby at_243) rfl ((if0 _ _).trans (feq cd165).1) k) ?_
            refine Go.st (f' := (mkF m 248 #[iv p1, iv p2, iv p3, iv p4, iv yy1, iv yy2, iv yy3, iv 3, rv b5, rv b6, rv b17, rv b20, rv b27, rv b39, rv b140, .unset] [(.int 3)])) (fun _ k => XS.iload X164.here hx rfl (hb hby at_246) rfl k) ?_
            refine Go.st (f' := (mkF m 249 #[iv p1, iv p2, iv p3, iv p4, iv yy1, iv yy2, iv yy3, iv 3, rv b5, rv b6, rv b17, rv b20, rv b27, rv b39, rv b140, .unset] [(.int 3), (.int 3)])) (fun _ k => XS.iconst X164.here hx rfl (hb hby at_248) k) ?_
            refine Go.st (f' := (mkF m 252 #[iv p1, iv p2, iv p3, iv p4, iv yy1, iv yy2, iv yy3, iv 3, rv b5, rv b6, rv b17, rv b20, rv b27, rv b39, rv b140, .unset] [])) (fun _ k => XS.icmpNo X164.here hx rfl (hb hby at_249) rfl (by decide) k) ?_
            refine Go.st (f' := (mkF m 254 #[iv p1, iv p2, iv p3, iv p4, iv yy1, iv yy2, iv yy3, iv 3, rv b5, rv b6, rv b17, rv b20, rv b27, rv b39, rv b140, .unset] [(.int yy3)])) (fun _ k => XS.iload X164.here hx rfl (hb hby at_252) rfl k) ?_
            obtain ⟨_, _, ⟨T167, L167, kk167, nn167⟩, -, X167, ⟨Lc167, hQ167, lq167, yq167, zz167⟩, st167⟩ := Jvm.LawKit.callS X164 hx (y := (⟨"com/example/rulebridge/rulebridge/server/IdIsValidPinLaw", "idChar", "(C)Z"⟩ : MethodName)) hown6 (mvT hZ6 (ww hw 51 rfl)) (mvT hZ6 (ww hw 52 rfl)) (mvT hZ6 (ww hw 53 rfl)) (mvT hZ6 (ww hw 54 rfl)) (by decide) (own_back (W := 0) (rmIc l Z a0 hw [] yy3 T149.heap n0 O149) hZ6 (ww hw 54 rfl) (ww hw 53 rfl) (by decide) (by decide)) (g := (mkF m 254 #[iv p1, iv p2, iv p3, iv p4, iv yy1, iv yy2, iv yy3, iv 3, rv b5, rv b6, rv b17, rv b20, rv b27, rv b39, rv b140, .unset] [(.int yy3)])) rfl (by rw [hml]; rfl) (argsL := [(.int yy3)]) (rest := []) (lenOf pd__C_Z rfl) rfl (by show 2 * 0 + _ ≤ _; exact Nat.le_of_eq rfl) (hb hby at_254) (fun _ _ => ⟨rfl, kq164, (by decide : 11 + 0 ≤ _), (by decide : 543 + 0 ≤ _)⟩)
            dsimp only [Pt.U, Pt.locs, Pt.cells, Pt.slots] at X167 lq167 yq167 zz167 st167 hQ167
            subst lq167 yq167 zz167
            obtain ⟨rfl, Nq167, kq167⟩ := hQ167
            have N167 := Fr.app N164 Nq167
            refine Go.st (f' := (mkF m 257 #[iv p1, iv p2, iv p3, iv p4, iv yy1, iv yy2, iv yy3, iv 3, rv b5, rv b6, rv b17, rv b20, rv b27, rv b39, rv b140, .unset] [(.int (icI yy3))])) (fun _ k => st167 _ k) ?_
            by_cases cd168 : (icI yy3) = (0 : Int32)
            · refine Go.st (f' := (mkF m 264 #[iv p1, iv p2, iv p3, iv p4, iv yy1, iv yy2, iv yy3, iv 3, rv b5, rv b6, rv b17, rv b20, rv b27, rv b39, rv b140, .unset] [])) (fun _ k => XS.ifYes X167.here hx rfl (pc0 := 257) (pc' := 264) rfl (hb hby at_257) rfl ((if0 _ _).trans (teq cd168).1) (by decide) (by decide) k) ?_
              refine Go.st (f' := (mkF m 265 #[iv p1, iv p2, iv p3, iv p4, iv yy1, iv yy2, iv yy3, iv 3, rv b5, rv b6, rv b17, rv b20, rv b27, rv b39, rv b140, .unset] [(.int 0)])) (fun _ k => XS.iconst X167.here hx rfl (hb hby at_264) k) ?_
              refine Go.st (f' := (mkF m 267 #[iv p1, iv p2, iv p3, iv p4, iv yy1, iv yy2, iv yy3, iv 3, rv b5, rv b6, rv b17, rv b20, rv b27, rv b39, rv b140, iv 0] [])) (fun _ k => XS.istore X167.here hx rfl (hb hby at_265) rfl (l' := #[iv p1, iv p2, iv p3, iv p4, iv yy1, iv yy2, iv yy3, iv 3, rv b5, rv b6, rv b17, rv b20, rv b27, rv b39, rv b140, iv 0]) rfl k) ?_
              have ft169 := (Nat.le_trans (Nat.le_trans (Nat.le_trans (Nat.le_trans (Nat.le_trans (Nat.le_trans (Nat.le_trans (Nat.le_trans (Nat.le_trans (Nat.le_trans (Nat.le_trans (Nat.le_trans hk6 E17.1) E20.1) (Nat.le_of_eq W26.size.symm)) E27.1) (Nat.le_of_eq W35.size.symm)) (Nat.le_of_eq W38.size.symm)) E39.1) (Nat.le_of_eq W48.size.symm)) (Nat.le_of_eq W51.size.symm)) (Nat.le_of_eq W54.size.symm)) E140.1) kq149.1)
              exact J2 _ T149.heap T6.vm _ _ (0 : Int32) X167 kq167 O149 N167 hS6 ft169 hZ6 hown6 CR149 eq149 fq149 dq149 (by rw [own_nch (hyy1 ▸ own_chr _), own_nch (hyy2 ▸ own_chr _), own_nch (hyy3 ▸ own_chr _), vI_3, if_neg (fun z => cd162 ((ic_id _).trans z)), if_neg (fun z => cd165 ((ic_id _).trans z)), if_pos ((ic_id _).symm.trans cd168)])
            · refine Go.st (f' := (mkF m 260 #[iv p1, iv p2, iv p3, iv p4, iv yy1, iv yy2, iv yy3, iv 3, rv b5, rv b6, rv b17, rv b20, rv b27, rv b39, rv b140, .unset] [])) (fun _ k => XS.ifNo X167.here hx rfl (hb hby at_257) rfl ((if0 _ _).trans (feq cd168).1) k) ?_
              refine Go.st (f' := (mkF m 261 #[iv p1, iv p2, iv p3, iv p4, iv yy1, iv yy2, iv yy3, iv 3, rv b5, rv b6, rv b17, rv b20, rv b27, rv b39, rv b140, .unset] [(.int 1)])) (fun _ k => XS.iconst X167.here hx rfl (hb hby at_260) k) ?_
              refine Go.st (f' := (mkF m 265 #[iv p1, iv p2, iv p3, iv p4, iv yy1, iv yy2, iv yy3, iv 3, rv b5, rv b6, rv b17, rv b20, rv b27, rv b39, rv b140, .unset] [(.int 1)])) (fun _ k => XS.goto X167.here hx rfl (pc0 := 261) (pc' := 265) rfl (hb hby at_261) (by decide) (by decide) k) ?_
              refine Go.st (f' := (mkF m 267 #[iv p1, iv p2, iv p3, iv p4, iv yy1, iv yy2, iv yy3, iv 3, rv b5, rv b6, rv b17, rv b20, rv b27, rv b39, rv b140, iv 1] [])) (fun _ k => XS.istore X167.here hx rfl (hb hby at_265) rfl (l' := #[iv p1, iv p2, iv p3, iv p4, iv yy1, iv yy2, iv yy3, iv 3, rv b5, rv b6, rv b17, rv b20, rv b27, rv b39, rv b140, iv 1]) rfl k) ?_
              have ft170 := (Nat.le_trans (Nat.le_trans (Nat.le_trans (Nat.le_trans (Nat.le_trans (Nat.le_trans (Nat.le_trans (Nat.le_trans (Nat.le_trans (Nat.le_trans (Nat.le_trans (Nat.le_trans hk6 E17.1) E20.1) (Nat.le_of_eq W26.size.symm)) E27.1) (Nat.le_of_eq W35.size.symm)) (Nat.le_of_eq W38.size.symm)) E39.1) (Nat.le_of_eq W48.size.symm)) (Nat.le_of_eq W51.size.symm)) (Nat.le_of_eq W54.size.symm)) E140.1) kq149.1)
              exact J2 _ T149.heap T6.vm _ _ (1 : Int32) X167 kq167 O149 N167 hS6 ft170 hZ6 hown6 CR149 eq149 fq149 dq149 (by rw [own_nch (hyy1 ▸ own_chr _), own_nch (hyy2 ▸ own_chr _), own_nch (hyy3 ▸ own_chr _), vI_3, if_neg (fun z => cd162 ((ic_id _).trans z)), if_neg (fun z => cd165 ((ic_id _).trans z)), if_neg (fun z => cd168 ((ic_id _).trans z))])
      · exact absurd h6 cd7
      · exact absurd h6 cd14
set_option maxRecDepth 65536 in
set_option maxHeartbeats 40000000 in
theorem comes_1 {Post : Tables → Env → Array Value → State → Outcome → State → Prop} (hpost : ∀ tb e args s v u, (limb_1_1.after args s (.returned v) u = true ∧ limb_1_2.after args s (.returned v) u = true ∧ True) → ReturnedEndW s (.returned v) u (Jvm.fieldLocs frame_1_writes args s ++ Jvm.arrayLocs frame_1_arrays args s ++ Jvm.staticLocs frame_1_statics s) 32 3200 → Post tb e args s (.returned v) u) :
    ArmFor flags0 classFile x code maxLocals ret World_1 tables_1 room_1 Calls_1 rest_1 Pre_1 Post := by
  intro l hfl _ _ p e ha hc hk s m args below hf hA hF happ hP
  obtain ⟨hcalls, hrest, hpre⟩ := hP
  obtain ⟨-, -, -, hnamed, -, -, -, hat⟩ := (Spec.applies_iff hf).mp happ
  obtain ⟨hg, hn⟩ := and_e (Cond.before_iff.mp (show (Jvm.Cond.and given_1 narrow_1).before args s = true from hpre))
  obtain ⟨g1, g2⟩ := and_e hg
  obtain ⟨g3, g4⟩ := and_e g2
  obtain ⟨g5, g6⟩ := and_e g4
  obtain ⟨g7, g8⟩ := and_e g6
  obtain ⟨v0, v1, v2, v3, rfl⟩ : ∃ v0 v1 v2 v3 : Value, args = #[v0, v1, v2, v3] := by
    have hs : args.size = 4 := by simpa [Cond.value, given_1] using g1
    obtain ⟨L⟩ := args
    match L, hs with
    | [v0, v1, v2, v3], _ => exact ⟨v0, v1, v2, v3, rfl⟩
  have hw := fun d (hd : d ∈ tables_1) => atoms_spec (ws := Jvm.Cond.code x code maxLocals ret :: tables_1) hat d (List.mem_cons_of_mem _ hd)
  have hfit : Fit s := fun {y c} hc i hi => by
    obtain ⟨ha, rfl⟩ := Array.getElem?_eq_some_iff.mp hc
    have q := List.all_eq_true.mp ((Array.all_eq_true_iff_forall_mem.mp hF) _ (Array.getElem_mem ha)) i (List.mem_range.mpr hi)
    simpa [Array.getElem?_eq_getElem hi] using q
  obtain ⟨hsets, hown0⟩ := atoms_of _ (rest_1_c_eq ▸ (show rest_1_c.before _ s = true from hrest))
  have hr0 := Cond.before_iff.mp hown0
  obtain ⟨i0, ei0⟩ := is_v g3
  obtain rfl : v0 = (.int i0) := Option.some.inj ei0
  obtain ⟨i1, ei1⟩ := is_v g5
  obtain rfl : v1 = (.int i1) := Option.some.inj ei1
  obtain ⟨i2, ei2⟩ := is_v g7
  obtain rfl : v2 = (.int i2) := Option.some.inj ei2
  obtain ⟨i3, ei3⟩ := is_v g8
  obtain rfl : v3 = (.int i3) := Option.some.inj ei3
  obtain ⟨i_COMPACT_STRINGS, ev_i_COMPACT_STRINGS⟩ := is_v (Cond.before_iff.mp (hsets _ (List.mem_of_getElem? (i := 1) rfl)))
  have S_i_COMPACT_STRINGS := Sta.start ev_i_COMPACT_STRINGS (Or.inl (hsets _ (List.mem_of_getElem? (i := 0) rfl)))
  have nz_i_COMPACT_STRINGS : ¬ i_COMPACT_STRINGS = (0 : Int32) := own_ne_int (Cond.before_iff.mp (hsets _ (List.mem_of_getElem? (i := 2) rfl))) ev_i_COMPACT_STRINGS
  obtain ⟨v_SIOOBE_FORMATTER, ev_v_SIOOBE_FORMATTER, r_v_SIOOBE_FORMATTER⟩ := isR_v (Cond.before_iff.mp (hsets _ (List.mem_of_getElem? (i := 8) rfl)))
  have S_v_SIOOBE_FORMATTER := Sta.start ev_v_SIOOBE_FORMATTER (Or.inl (hsets _ (List.mem_of_getElem? (i := 7) rfl)))
  have S_i__assertionsDisabled := Sta.start (own_eq_int (Cond.before_iff.mp (hsets _ (List.mem_of_getElem? (i := 12) rfl)))) (Or.inl (hsets _ (List.mem_of_getElem? (i := 11) rfl)))
  have S_i_HI_BYTE_SHIFT := Sta.start (own_eq_int (Cond.before_iff.mp (hsets _ (List.mem_of_getElem? (i := 15) rfl)))) (Or.inl (hsets _ (List.mem_of_getElem? (i := 14) rfl)))
  have S_i_LO_BYTE_SHIFT := Sta.start (own_eq_int (Cond.before_iff.mp (hsets _ (List.mem_of_getElem? (i := 18) rfl)))) (Or.inl (hsets _ (List.mem_of_getElem? (i := 17) rfl)))
  have WW : World1 s    i_COMPACT_STRINGS v_SIOOBE_FORMATTER := ⟨S_i_COMPACT_STRINGS, nz_i_COMPACT_STRINGS, S_v_SIOOBE_FORMATTER, r_v_SIOOBE_FORMATTER, S_i__assertionsDisabled, S_i_HI_BYTE_SHIFT, S_i_LO_BYTE_SHIFT⟩
  have hCH : CHv s EL s.vm s.heap := CHv.start (own_EL hw) (fun p hp => hcalls.1 p hp) (hsets _ (List.mem_of_getElem? (i := 2) rfl)) (own_wS hw _ (by simp [Bundle.stringAtoms])) (own_wS hw _ (by simp [Bundle.stringAtoms, Bundle.sN]))
  obtain ⟨n, o, h1, h2, h3, _, L, rfl, ⟨rfl, N⟩, -, hq⟩ := rm0 l s _ hw tables_1 i0 i1 i2 i3    i_COMPACT_STRINGS v_SIOOBE_FORMATTER s.heap s.heap.size (Old.start s) WW  p e ha hc hk s m _ below hf ((Spec.applies_iff_loose hf).mp happ).1 ⟨rfl, State.Warmed39.refl s, rfl, hCH⟩ trivial
  refine ⟨n, _, h1, h2, h3, hpost _ _ _ _ _ _ ⟨Cond.after_iff.mpr rfl, Cond.after_iff.mpr (eq_i res_at (Term.int_eval (1)) rfl), trivial⟩ ⟨hq.1, hq.2.1, hq.2.2.1, (hq.2.2.2.sift fun y hy => Or.inr (N y hy)).mono (by decide) (by decide)⟩⟩
theorem main_1_1 : Claimed_1_1 := comes_1 fun _ _ _ _ _ _ h hF => ⟨h.1, hF⟩
theorem main_1_2 : Claimed_1_2 := comes_1 fun _ _ _ _ _ _ h hF => ⟨h.2.1, hF⟩
end Jvm.Pilot.@@N@@
namespace Jvm.Pilot.@@N@@
open Jvm Jvm.ClassFile Sem Op Lib Jvm.Free Jvm.Stand Jvm.Pilot.@@N@@.Jvm.D
/-! MADE BY PROGRAM (witnessworld.py) out of the Statement's table words and the real class files: 21 classes; the members and pool entries that the words name. The judged class is class 1, her method 2. -/
namespace start1
open Jvm.ClassFile
def u (s : String) : CpInfo := .utf8 (stringToUtf16 s)
/-- a pool by its gaps: so many unusable entries, then the entry; so many at the end -/
def gap : Nat → List CpInfo → List CpInfo
  | 0, r => r
  | n + 1, r => .unusable :: gap n r
def poolList (es : List (Nat × CpInfo)) (last : Nat) : List CpInfo := es.foldr (fun e r => gap e.1 (e.2 :: r)) (gap last [])
def pool (es : List (Nat × CpInfo)) (last : Nat) : Array CpInfo := ⟨poolList es last⟩
def fileOf (pool : Array CpInfo) (this : Nat) (attrs : Array Attribute := #[]) (ms : Array MethodInfo := #[]) (fl : Nat := 33) (sup : Nat := 0) (ifs : Array Nat := #[]) (fds : Array FieldInfo := #[]) : ClassFile where
  minorVersion := 0
  majorVersion := 65
  constantPool := pool
  accessFlags := fl
  thisClass := this
  superClass := sup
  interfaces := ifs
  fields := fds
  methods := ms
  attributes := attrs
def plain (name : String) (sup : Option ClassId) : Class where
  name := name
  kind := .ordinary
  loader := none
  accessFlags := 33
  super := sup
  interfaces := #[]
  cf := none
  fields := #[]
  methods := #[]
  instanceTypes := #[]
  staticTypes := #[]
  resolved := #[]
  callSites := []
  init := .initialized
  statics := none
  mirror := none

def pool0 : Array CpInfo := pool [(5, u "<init>"), (0, u "()V"), (1, .class_ 10), (1, u "java/lang/Object")] 113

def k0c0 : Code := { maxStack := 0, maxLocals := 1, code := object_method_1_code, exceptionTable := #[], attributes := #[] }
def k0m0 : Method := { name := "<init>", desc := "()V", sig := { parameters := [], returnType := none }, accessFlags := 1, code := some k0c0 }
/-- java/lang/Object -/
def k0 : Class := { plain "java/lang/Object" none with
  accessFlags := 33
  interfaces := #[]
  cf := some (fileOf pool0 8 #[] #[{ accessFlags := 1, nameIndex := 5, descriptorIndex := 6, attributes := #[] }] 33 0 #[] #[])
  fields := #[]
  methods := #[k0m0]
  instanceTypes := #[]
  staticTypes := #[]
  resolved := Array.replicate 124 none
  statics := none }

def pool1 : Array CpInfo := pool [(2, .class_ 4), (1, u "java/lang/Object"), (0, u "<init>"), (0, u "()V"), (0, .integer 65535), (0, .integer 2147483647), (0, .string 10), (0, u "ABCDEFGHIJKLMNOPQRSTUVWXYZabcdefghijklmnopqrstuvwxyz0123456789_-"), (0, .string 12), (0, u "ABCDEFGHIJKLMNOPQRSTUVWXYZabcdefghijklmnopqrstuvwxyz0123456789_-A"), (0, .methodref 14 15), (0, .class_ 16), (0, .nameAndType 17 18), (0, u "java/lang/String"), (0, u "length"), (0, u "()I"), (0, .methodref 20 21), (0, .class_ 22), (0, .nameAndType 23 24), (0, u "com/example/rulebridge/rulebridge/server/Id"), (0, u "isValid"), (0, u "(Ljava/lang/String;)Z"), (0, .methodref 14 26), (0, .nameAndType 5 27), (0, u "([C)V"), (0, .methodref 29 30), (0, .class_ 31), (0, .nameAndType 32 33), (0, u "com/example/rulebridge/rulebridge/server/IdIsValidPinLaw"), (0, u "idChar"), (0, u "(C)Z"), (3, u "law"), (0, u "(IIII)Z")] 4

def k1m0 : Method := { name := "<init>", desc := "()V", sig := { parameters := [], returnType := none }, accessFlags := 1, code := none }
def k1c1 : Code := { maxStack := 2, maxLocals := 1, code := method_2_code, exceptionTable := #[], attributes := #[] }
def k1m1 : Method := { name := "idChar", desc := "(C)Z", sig := { parameters := [.char], returnType := some .boolean }, accessFlags := 10, code := some k1c1 }
def k1c2 : Code := { maxStack := 4, maxLocals := 16, code := code, exceptionTable := #[], attributes := #[] }
def k1m2 : Method := { name := "law", desc := "(IIII)Z", sig := { parameters := [.int, .int, .int, .int], returnType := some .boolean }, accessFlags := 9, code := some k1c2 }
/-- com/example/rulebridge/rulebridge/server/IdIsValidPinLaw -/
def k1 : Class := { plain "com/example/rulebridge/rulebridge/server/IdIsValidPinLaw" (some 0) with
  accessFlags := 49
  interfaces := #[]
  cf := some (fileOf pool1 29 #[] #[{ accessFlags := 1, nameIndex := 5, descriptorIndex := 6, attributes := #[] }, { accessFlags := 10, nameIndex := 32, descriptorIndex := 33, attributes := #[] }, { accessFlags := 9, nameIndex := 37, descriptorIndex := 38, attributes := #[] }] 49 2 #[] #[])
  fields := #[]
  methods := #[k1m0, k1m1, k1m2]
  instanceTypes := #[]
  staticTypes := #[]
  resolved := Array.replicate 43 none
  statics := none }

def pool2 : Array CpInfo := pool [(1, .class_ 2), (0, u "java/io/Serializable"), (0, .class_ 4), (0, u "java/lang/Object")] 2

/-- java/io/Serializable -/
def k2 : Class := { plain "java/io/Serializable" (some 0) with
  accessFlags := 1537
  interfaces := #[]
  cf := some (fileOf pool2 1 #[] #[] 1537 3 #[] #[])
  fields := #[]
  methods := #[]
  instanceTypes := #[]
  staticTypes := #[]
  resolved := Array.replicate 7 none
  statics := none }

def pool3 : Array CpInfo := pool [(1, .class_ 2), (0, u "java/lang/Comparable"), (0, .class_ 4), (0, u "java/lang/Object")] 7

/-- java/lang/Comparable -/
def k3 : Class := { plain "java/lang/Comparable" (some 0) with
  accessFlags := 1537
  interfaces := #[]
  cf := some (fileOf pool3 1 #[] #[] 1537 3 #[] #[])
  fields := #[]
  methods := #[]
  instanceTypes := #[]
  staticTypes := #[]
  resolved := Array.replicate 12 none
  statics := none }

def pool4 : Array CpInfo := pool [(2, .class_ 4), (1, u "java/lang/CharSequence"), (42, .class_ 48), (0, u "java/lang/CharSequence$1CodePointIterator"), (10, .class_ 60), (0, u "java/lang/CharSequence$1CharIterator"), (5, .class_ 67), (0, u "java/lang/Object")] 63

/-- java/lang/CharSequence -/
def k4 : Class := { plain "java/lang/CharSequence" (some 0) with
  accessFlags := 1537
  interfaces := #[]
  cf := some (fileOf pool4 2 #[.nestMembers #[47, 59]] #[] 1537 66 #[] #[])
  fields := #[]
  methods := #[]
  instanceTypes := #[]
  staticTypes := #[]
  resolved := Array.replicate 131 none
  statics := none }

def pool5 : Array CpInfo := pool [(1, .class_ 2), (0, u "java/lang/constant/Constable"), (0, .class_ 4), (0, u "java/lang/Object")] 6

/-- java/lang/constant/Constable -/
def k5 : Class := { plain "java/lang/constant/Constable" (some 0) with
  accessFlags := 1537
  interfaces := #[]
  cf := some (fileOf pool5 1 #[] #[] 1537 3 #[] #[])
  fields := #[]
  methods := #[]
  instanceTypes := #[]
  staticTypes := #[]
  resolved := Array.replicate 11 none
  statics := none }

def pool6 : Array CpInfo := pool [(1, .class_ 2), (0, u "java/lang/constant/ConstantDesc"), (0, .class_ 4), (0, u "java/lang/Object")] 32

/-- java/lang/constant/ConstantDesc -/
def k6 : Class := { plain "java/lang/constant/ConstantDesc" (some 0) with
  accessFlags := 1537
  interfaces := #[]
  cf := some (fileOf pool6 1 #[] #[] 1537 3 #[] #[])
  fields := #[]
  methods := #[]
  instanceTypes := #[]
  staticTypes := #[]
  resolved := Array.replicate 37 none
  statics := none }

def pool7 : Array CpInfo := pool [(1, .methodref 2 3), (0, .class_ 4), (0, .nameAndType 5 6), (0, u "java/lang/Object"), (0, u "<init>"), (0, u "()V"), (0, .string 8), (0, u ""), (0, .fieldref 10 11), (0, .class_ 12), (0, .nameAndType 13 14), (0, u "java/lang/String"), (0, u "value"), (0, u "[B"), (0, .fieldref 10 16), (0, .nameAndType 17 18), (0, u "coder"), (0, u "B"), (2, u "hash"), (0, u "I"), (2, u "hashIsZero"), (0, u "Z"), (0, .methodref 10 28), (0, .nameAndType 5 29), (0, u "([CIILjava/lang/Void;)V"), (8, .fieldref 10 39), (0, .nameAndType 40 26), (0, u "COMPACT_STRINGS"), (1, .class_ 44), (1, u "java/lang/StringUTF16"), (0, u "compress"), (1, .methodref 42 48), (0, .nameAndType 49 50), (0, u "coderFromArrayLen"), (0, u "([BI)B"), (56, .class_ 109), (1, u "java/lang/StringLatin1"), (32, u "()Z"), (34, .methodref 42 178), (0, .nameAndType 45 179), (0, u "([CII)[B"), (154, u "()I"), (0, .methodref 10 336), (0, .nameAndType 17 337), (0, u "()B"), (25, u "([BI)C"), (27, u "(II)V"), (35, u "(I)C"), (64, .methodref 10 493), (0, .nameAndType 494 142), (0, u "isLatin1"), (0, .methodref 107 496), (0, .nameAndType 497 363), (0, u "charAt"), (0, .methodref 42 496), (2, u "checkIndex"), (5, u "length"), (67, .class_ 576), (0, u "java/lang/CharSequence"), (22, u "CASE_INSENSITIVE_ORDER"), (0, u "Ljava/util/Comparator;"), (409, u "([C)V"), (42, .fieldref 1054 1055), (0, .class_ 1056), (0, .nameAndType 1057 1058), (0, u "jdk/internal/util/Preconditions"), (0, u "SIOOBE_FORMATTER"), (0, u "Ljava/util/function/BiFunction;"), (0, .methodref 1054 1060), (0, .nameAndType 501 1061), (0, u "(IILjava/util/function/BiFunction;)I"), (39, u "serialPersistentFields"), (0, u "[Ljava/io/ObjectStreamField;"), (0, .class_ 1104), (0, u "java/lang/String$CaseInsensitiveComparator"), (1, .class_ 1107), (0, u "java/io/Serializable"), (0, .class_ 1109), (0, u "java/lang/Comparable"), (0, .class_ 1111), (0, u "java/lang/constant/Constable"), (0, .class_ 1113), (0, u "java/lang/constant/ConstantDesc"), (2, u "serialVersionUID"), (0, u "J"), (3, u "REPL"), (0, u "C"), (2, u "LATIN1"), (1, u "UTF16")] 323

def k7m0 : Method := { name := "<init>", desc := "()V", sig := { parameters := [], returnType := none }, accessFlags := 1, code := none }
def k7c1 : Code := { maxStack := 5, maxLocals := 2, code := jdk_42_method_3_code, exceptionTable := #[], attributes := #[] }
def k7m1 : Method := { name := "<init>", desc := "([C)V", sig := { parameters := [(.array .char)], returnType := none }, accessFlags := 1, code := some k7c1 }
def k7c2 : Code := { maxStack := 2, maxLocals := 1, code := jdk_42_method_54_code, exceptionTable := #[], attributes := #[] }
def k7m2 : Method := { name := "length", desc := "()I", sig := { parameters := [], returnType := some .int }, accessFlags := 1, code := some k7c2 }
def k7c3 : Code := { maxStack := 2, maxLocals := 2, code := jdk_42_method_56_code, exceptionTable := #[], attributes := #[] }
def k7m3 : Method := { name := "charAt", desc := "(I)C", sig := { parameters := [.int], returnType := some .char }, accessFlags := 1, code := some k7c3 }
def k7c4 : Code := { maxStack := 4, maxLocals := 6, code := jdk_42_method_149_code, exceptionTable := #[], attributes := #[] }
def k7m4 : Method := { name := "<init>", desc := "([CIILjava/lang/Void;)V", sig := { parameters := [(.array .char), .int, .int, (.object "java/lang/Void")], returnType := none }, accessFlags := 2, code := some k7c4 }
def k7c5 : Code := { maxStack := 1, maxLocals := 1, code := jdk_42_method_152_code, exceptionTable := #[], attributes := #[] }
def k7m5 : Method := { name := "coder", desc := "()B", sig := { parameters := [], returnType := some .byte }, accessFlags := 0, code := some k7c5 }
def k7c6 : Code := { maxStack := 1, maxLocals := 1, code := jdk_42_method_154_code, exceptionTable := #[], attributes := #[] }
def k7m6 : Method := { name := "isLatin1", desc := "()Z", sig := { parameters := [], returnType := some .boolean }, accessFlags := 0, code := some k7c6 }
def k7c7 : Code := { maxStack := 3, maxLocals := 2, code := jdk_42_method_155_code, exceptionTable := #[], attributes := #[] }
def k7m7 : Method := { name := "checkIndex", desc := "(II)V", sig := { parameters := [.int, .int], returnType := none }, accessFlags := 8, code := some k7c7 }
/-- java/lang/String -/
def k7 : Class := { plain "java/lang/String" (some 0) with
  accessFlags := 49
  interfaces := #[2, 3, 4, 5, 6]
  cf := some (fileOf pool7 10 #[.nestMembers #[1103]] #[{ accessFlags := 1, nameIndex := 5, descriptorIndex := 6, attributes := #[] }, { accessFlags := 1, nameIndex := 5, descriptorIndex := 1010, attributes := #[] }, { accessFlags := 1, nameIndex := 507, descriptorIndex := 334, attributes := #[] }, { accessFlags := 1, nameIndex := 497, descriptorIndex := 427, attributes := #[] }, { accessFlags := 2, nameIndex := 5, descriptorIndex := 29, attributes := #[] }, { accessFlags := 0, nameIndex := 17, descriptorIndex := 337, attributes := #[] }, { accessFlags := 0, nameIndex := 494, descriptorIndex := 142, attributes := #[] }, { accessFlags := 8, nameIndex := 501, descriptorIndex := 391, attributes := #[] }] 49 2 #[1106, 1108, 575, 1110, 1112] #[{ accessFlags := 18, nameIndex := 13, descriptorIndex := 14, attributes := #[] }, { accessFlags := 18, nameIndex := 17, descriptorIndex := 18, attributes := #[] }, { accessFlags := 2, nameIndex := 21, descriptorIndex := 22, attributes := #[] }, { accessFlags := 2, nameIndex := 25, descriptorIndex := 26, attributes := #[] }, { accessFlags := 26, nameIndex := 1116, descriptorIndex := 1117, attributes := #[] }, { accessFlags := 24, nameIndex := 40, descriptorIndex := 26, attributes := #[] }, { accessFlags := 26, nameIndex := 1101, descriptorIndex := 1102, attributes := #[] }, { accessFlags := 26, nameIndex := 1121, descriptorIndex := 1122, attributes := #[] }, { accessFlags := 25, nameIndex := 599, descriptorIndex := 600, attributes := #[] }, { accessFlags := 24, nameIndex := 1125, descriptorIndex := 18, attributes := #[] }, { accessFlags := 24, nameIndex := 1127, descriptorIndex := 18, attributes := #[] }])
  fields := #[{ name := "value", type := (.array .byte), accessFlags := 18, slot := 0, constantValue := 0 }, { name := "coder", type := .byte, accessFlags := 18, slot := 1, constantValue := 0 }, { name := "hash", type := .int, accessFlags := 2, slot := 2, constantValue := 0 }, { name := "hashIsZero", type := .boolean, accessFlags := 2, slot := 3, constantValue := 0 }, { name := "serialVersionUID", type := .long, accessFlags := 26, slot := 0, constantValue := 0 }, { name := "COMPACT_STRINGS", type := .boolean, accessFlags := 24, slot := 1, constantValue := 0 }, { name := "serialPersistentFields", type := (.array (.object "java/io/ObjectStreamField")), accessFlags := 26, slot := 2, constantValue := 0 }, { name := "REPL", type := .char, accessFlags := 26, slot := 3, constantValue := 0 }, { name := "CASE_INSENSITIVE_ORDER", type := (.object "java/util/Comparator"), accessFlags := 25, slot := 4, constantValue := 0 }, { name := "LATIN1", type := .byte, accessFlags := 24, slot := 5, constantValue := 0 }, { name := "UTF16", type := .byte, accessFlags := 24, slot := 6, constantValue := 0 }]
  methods := #[k7m0, k7m1, k7m2, k7m3, k7m4, k7m5, k7m6, k7m7]
  instanceTypes := #[(.array .byte), .byte, .int, .boolean]
  staticTypes := #[.long, .boolean, (.array (.object "java/io/ObjectStreamField")), .char, (.object "java/util/Comparator"), .byte, .byte]
  resolved := Array.replicate 1451 none
  statics := some 0 }

def pool8 : Array CpInfo := pool [(2, .class_ 4), (1, u "java/lang/Object"), (0, u "<init>"), (0, u "()V"), (0, .class_ 8), (0, u "java/lang/Record")] 13

def k8m0 : Method := { name := "<init>", desc := "()V", sig := { parameters := [], returnType := none }, accessFlags := 4, code := none }
/-- java/lang/Record -/
def k8 : Class := { plain "java/lang/Record" (some 0) with
  accessFlags := 1057
  interfaces := #[]
  cf := some (fileOf pool8 7 #[] #[{ accessFlags := 4, nameIndex := 5, descriptorIndex := 6, attributes := #[] }] 1057 2 #[] #[])
  fields := #[]
  methods := #[k8m0]
  instanceTypes := #[]
  staticTypes := #[]
  resolved := Array.replicate 22 none
  statics := none }

def pool9 : Array CpInfo := pool [(1, .class_ 2), (0, u "com/example/rulebridge/rulebridge/server/Id"), (1, .class_ 6), (1, u "java/lang/Record"), (3, u "value"), (8, u "isValid"), (0, u "(Ljava/lang/String;)Z"), (16, u "Ljava/lang/String;"), (0, .methodref 39 40), (0, .class_ 41), (0, .nameAndType 42 43), (0, u "java/lang/String"), (0, u "length"), (0, u "()I"), (0, .methodref 39 45), (0, .nameAndType 46 47), (0, u "charAt"), (0, u "(I)C"), (0, .methodref 1 49), (0, .nameAndType 50 51), (0, u "isIdCharacter"), (0, u "(C)Z"), (8, u "MAX_LENGTH"), (0, u "I"), (2, u "RULE")] 35

def k9c0 : Code := { maxStack := 2, maxLocals := 3, code := prog_36_method_2_code, exceptionTable := #[], attributes := #[] }
def k9m0 : Method := { name := "isValid", desc := "(Ljava/lang/String;)Z", sig := { parameters := [(.object "java/lang/String")], returnType := some .boolean }, accessFlags := 9, code := some k9c0 }
def k9c1 : Code := { maxStack := 2, maxLocals := 1, code := prog_36_method_3_code, exceptionTable := #[], attributes := #[] }
def k9m1 : Method := { name := "isIdCharacter", desc := "(C)Z", sig := { parameters := [.char], returnType := some .boolean }, accessFlags := 10, code := some k9c1 }
/-- com/example/rulebridge/rulebridge/server/Id -/
def k9 : Class := { plain "com/example/rulebridge/rulebridge/server/Id" (some 8) with
  accessFlags := 49
  interfaces := #[]
  cf := some (fileOf pool9 1 #[] #[{ accessFlags := 9, nameIndex := 19, descriptorIndex := 20, attributes := #[] }, { accessFlags := 10, nameIndex := 50, descriptorIndex := 51, attributes := #[] }] 49 4 #[] #[{ accessFlags := 18, nameIndex := 10, descriptorIndex := 37, attributes := #[] }, { accessFlags := 25, nameIndex := 60, descriptorIndex := 61, attributes := #[] }, { accessFlags := 24, nameIndex := 64, descriptorIndex := 37, attributes := #[] }])
  fields := #[{ name := "value", type := (.object "java/lang/String"), accessFlags := 18, slot := 0, constantValue := 0 }, { name := "MAX_LENGTH", type := .int, accessFlags := 25, slot := 0, constantValue := 0 }, { name := "RULE", type := (.object "java/lang/String"), accessFlags := 24, slot := 1, constantValue := 0 }]
  methods := #[k9m0, k9m1]
  instanceTypes := #[(.object "java/lang/String")]
  staticTypes := #[.int, (.object "java/lang/String")]
  resolved := Array.replicate 100 none
  statics := none }

def pool10 : Array CpInfo := pool [(3, .class_ 4), (0, u "java/lang/String"), (1, .class_ 8), (1, u "java/lang/Object"), (0, u "<init>"), (0, u "()V"), (0, .methodref 12 13), (0, .class_ 14), (0, .nameAndType 15 16), (0, u "java/lang/StringUTF16"), (0, u "newBytesLength"), (0, u "(I)I"), (3, .integer 1073741823), (23, .fieldref 12 45), (0, .nameAndType 46 47), (0, u "$assertionsDisabled"), (0, u "Z"), (0, .methodref 12 49), (0, .nameAndType 50 51), (0, u "length"), (0, u "([B)I"), (7, .fieldref 12 60), (0, .nameAndType 61 62), (0, u "HI_BYTE_SHIFT"), (0, u "I"), (0, .fieldref 12 64), (0, .nameAndType 65 62), (0, u "LO_BYTE_SHIFT"), (1, .methodref 12 68), (0, .nameAndType 69 70), (0, u "checkIndex"), (0, u "(I[B)V"), (0, .methodref 12 72), (0, .nameAndType 73 74), (0, u "getChar"), (0, u "([BI)C"), (32, .methodref 12 108), (0, .nameAndType 109 110), (0, u "newBytesFor"), (0, u "(I)[B"), (0, .methodref 12 112), (0, .nameAndType 113 114), (0, u "putChar"), (0, u "([BII)V"), (0, .methodref 12 116), (0, .nameAndType 117 118), (0, u "compress"), (0, u "([CI[BII)I"), (0, .methodref 12 120), (0, .nameAndType 121 122), (0, u "toBytes"), (0, u "([CII)[B"), (138, u "coderFromArrayLen"), (0, u "([BI)B"), (106, .class_ 371), (1, u "java/lang/StringUTF16$LinesSpliterator"), (20, u "charAt"), (21, .methodref 3 415), (0, .nameAndType 69 416), (0, u "(II)V"), (13, u "MAX_LENGTH"), (196, .class_ 628), (0, u "java/lang/StringUTF16$CodePointsSpliterator"), (0, .class_ 630), (0, u "java/lang/StringUTF16$CharsSpliterator")] 4

def k10m0 : Method := { name := "<init>", desc := "()V", sig := { parameters := [], returnType := none }, accessFlags := 0, code := none }
def k10c1 : Code := { maxStack := 1, maxLocals := 1, code := jdk_52_method_2_code, exceptionTable := #[], attributes := #[] }
def k10m1 : Method := { name := "newBytesFor", desc := "(I)[B", sig := { parameters := [.int], returnType := some (.array .byte) }, accessFlags := 9, code := some k10c1 }
def k10c2 : Code := { maxStack := 4, maxLocals := 1, code := jdk_52_method_3_code, exceptionTable := #[], attributes := #[] }
def k10m2 : Method := { name := "newBytesLength", desc := "(I)I", sig := { parameters := [.int], returnType := some .int }, accessFlags := 9, code := some k10c2 }
def k10c3 : Code := { maxStack := 4, maxLocals := 3, code := jdk_52_method_4_code, exceptionTable := #[], attributes := #[] }
def k10m3 : Method := { name := "putChar", desc := "([BII)V", sig := { parameters := [(.array .byte), .int, .int], returnType := none }, accessFlags := 8, code := some k10c3 }
def k10c4 : Code := { maxStack := 3, maxLocals := 2, code := jdk_52_method_5_code, exceptionTable := #[], attributes := #[] }
def k10m4 : Method := { name := "getChar", desc := "([BI)C", sig := { parameters := [(.array .byte), .int], returnType := some .char }, accessFlags := 8, code := some k10c4 }
def k10c5 : Code := { maxStack := 2, maxLocals := 1, code := jdk_52_method_6_code, exceptionTable := #[], attributes := #[] }
def k10m5 : Method := { name := "length", desc := "([B)I", sig := { parameters := [(.array .byte)], returnType := some .int }, accessFlags := 9, code := some k10c5 }
def k10c6 : Code := { maxStack := 4, maxLocals := 5, code := jdk_52_method_14_code, exceptionTable := #[], attributes := #[] }
def k10m6 : Method := { name := "toBytes", desc := "([CII)[B", sig := { parameters := [(.array .char), .int, .int], returnType := some (.array .byte) }, accessFlags := 9, code := some k10c6 }
def k10c7 : Code := { maxStack := 2, maxLocals := 2, code := jdk_52_method_15_code, exceptionTable := #[], attributes := #[] }
def k10m7 : Method := { name := "coderFromArrayLen", desc := "([BI)B", sig := { parameters := [(.array .byte), .int], returnType := some .byte }, accessFlags := 8, code := some k10c7 }
def k10c8 : Code := { maxStack := 5, maxLocals := 6, code := jdk_52_method_16_code, exceptionTable := #[], attributes := #[] }
def k10m8 : Method := { name := "compress", desc := "([CII)[B", sig := { parameters := [(.array .char), .int, .int], returnType := some (.array .byte) }, accessFlags := 9, code := some k10c8 }
def k10c9 : Code := { maxStack := 3, maxLocals := 7, code := jdk_52_method_21_code, exceptionTable := #[], attributes := #[] }
def k10m9 : Method := { name := "compress", desc := "([CI[BII)I", sig := { parameters := [(.array .char), .int, (.array .byte), .int, .int], returnType := some .int }, accessFlags := 9, code := some k10c9 }
def k10c10 : Code := { maxStack := 2, maxLocals := 2, code := jdk_52_method_83_code, exceptionTable := #[], attributes := #[] }
def k10m10 : Method := { name := "charAt", desc := "([BI)C", sig := { parameters := [(.array .byte), .int], returnType := some .char }, accessFlags := 9, code := some k10c10 }
def k10c11 : Code := { maxStack := 2, maxLocals := 2, code := jdk_52_method_91_code, exceptionTable := #[], attributes := #[] }
def k10m11 : Method := { name := "checkIndex", desc := "(I[B)V", sig := { parameters := [.int, (.array .byte)], returnType := none }, accessFlags := 9, code := some k10c11 }
/-- java/lang/StringUTF16 -/
def k10 : Class := { plain "java/lang/StringUTF16" (some 0) with
  accessFlags := 48
  interfaces := #[]
  cf := some (fileOf pool10 12 #[.nestMembers #[627, 629, 369]] #[{ accessFlags := 0, nameIndex := 9, descriptorIndex := 10, attributes := #[] }, { accessFlags := 9, nameIndex := 109, descriptorIndex := 110, attributes := #[] }, { accessFlags := 9, nameIndex := 15, descriptorIndex := 16, attributes := #[] }, { accessFlags := 8, nameIndex := 113, descriptorIndex := 114, attributes := #[] }, { accessFlags := 8, nameIndex := 73, descriptorIndex := 74, attributes := #[] }, { accessFlags := 9, nameIndex := 50, descriptorIndex := 51, attributes := #[] }, { accessFlags := 9, nameIndex := 121, descriptorIndex := 122, attributes := #[] }, { accessFlags := 8, nameIndex := 261, descriptorIndex := 262, attributes := #[] }, { accessFlags := 9, nameIndex := 117, descriptorIndex := 122, attributes := #[] }, { accessFlags := 9, nameIndex := 117, descriptorIndex := 118, attributes := #[] }, { accessFlags := 9, nameIndex := 392, descriptorIndex := 74, attributes := #[] }, { accessFlags := 9, nameIndex := 69, descriptorIndex := 70, attributes := #[] }] 48 6 #[] #[{ accessFlags := 26, nameIndex := 61, descriptorIndex := 62, attributes := #[] }, { accessFlags := 26, nameIndex := 65, descriptorIndex := 62, attributes := #[] }, { accessFlags := 24, nameIndex := 430, descriptorIndex := 62, attributes := #[] }, { accessFlags := 4120, nameIndex := 46, descriptorIndex := 47, attributes := #[] }])
  fields := #[{ name := "HI_BYTE_SHIFT", type := .int, accessFlags := 26, slot := 0, constantValue := 0 }, { name := "LO_BYTE_SHIFT", type := .int, accessFlags := 26, slot := 1, constantValue := 0 }, { name := "MAX_LENGTH", type := .int, accessFlags := 24, slot := 2, constantValue := 0 }, { name := "$assertionsDisabled", type := .boolean, accessFlags := 4120, slot := 3, constantValue := 0 }]
  methods := #[k10m0, k10m1, k10m2, k10m3, k10m4, k10m5, k10m6, k10m7, k10m8, k10m9, k10m10, k10m11]
  instanceTypes := #[]
  staticTypes := #[.int, .int, .int, .boolean]
  resolved := Array.replicate 635 none
  statics := some 1 }

def pool11 : Array CpInfo := pool [(1, .class_ 2), (0, u "java/lang/String"), (1, .class_ 6), (1, u "java/lang/Object"), (0, u "<init>"), (0, u "()V"), (0, .methodref 1 10), (0, .nameAndType 11 12), (0, u "checkIndex"), (0, u "(II)V"), (1, .class_ 16), (1, u "java/lang/StringLatin1"), (36, u "([BI)C"), (67, u "$assertionsDisabled"), (0, u "Z"), (98, .class_ 223), (1, u "java/lang/StringLatin1$LinesSpliterator"), (28, u "charAt"), (137, .class_ 391), (0, u "java/lang/StringLatin1$CharsSpliterator")] 3

def k11m0 : Method := { name := "<init>", desc := "()V", sig := { parameters := [], returnType := none }, accessFlags := 0, code := none }
def k11c1 : Code := { maxStack := 2, maxLocals := 2, code := jdk_43_method_2_code, exceptionTable := #[], attributes := #[] }
def k11m1 : Method := { name := "charAt", desc := "([BI)C", sig := { parameters := [(.array .byte), .int], returnType := some .char }, accessFlags := 9, code := some k11c1 }
/-- java/lang/StringLatin1 -/
def k11 : Class := { plain "java/lang/StringLatin1" (some 0) with
  accessFlags := 48
  interfaces := #[]
  cf := some (fileOf pool11 14 #[.nestMembers #[390, 221]] #[{ accessFlags := 0, nameIndex := 7, descriptorIndex := 8, attributes := #[] }, { accessFlags := 9, nameIndex := 252, descriptorIndex := 53, attributes := #[] }] 48 4 #[] #[{ accessFlags := 4120, nameIndex := 121, descriptorIndex := 122, attributes := #[] }])
  fields := #[{ name := "$assertionsDisabled", type := .boolean, accessFlags := 4120, slot := 0, constantValue := 0 }]
  methods := #[k11m0, k11m1]
  instanceTypes := #[]
  staticTypes := #[.boolean]
  resolved := Array.replicate 395 none
  statics := none }

def pool12 : Array CpInfo := pool [(2, .class_ 4), (1, u "java/lang/Object"), (0, u "<init>"), (0, u "()V"), (17, .class_ 26), (1, u "jdk/internal/util/Preconditions"), (6, u "checkIndex"), (21, .class_ 56), (0, u "jdk/internal/util/Preconditions$4"), (57, .class_ 115), (0, u "jdk/internal/util/Preconditions$1"), (7, u "SIOOBE_FORMATTER"), (0, u "Ljava/util/function/BiFunction;"), (0, .class_ 126), (0, u "jdk/internal/util/Preconditions$2"), (3, u "AIOOBE_FORMATTER"), (0, .class_ 132), (0, u "jdk/internal/util/Preconditions$3"), (3, u "IOOBE_FORMATTER"), (41, u "(IILjava/util/function/BiFunction;)I")] 15

def k12m0 : Method := { name := "<init>", desc := "()V", sig := { parameters := [], returnType := none }, accessFlags := 1, code := none }
def k12c1 : Code := { maxStack := 3, maxLocals := 3, code := jdk_41_method_11_code, exceptionTable := #[], attributes := #[] }
def k12m1 : Method := { name := "checkIndex", desc := "(IILjava/util/function/BiFunction;)I", sig := { parameters := [.int, .int, (.object "java/util/function/BiFunction")], returnType := some .int }, accessFlags := 9, code := some k12c1 }
/-- jdk/internal/util/Preconditions -/
def k12 : Class := { plain "jdk/internal/util/Preconditions" (some 0) with
  accessFlags := 33
  interfaces := #[]
  cf := some (fileOf pool12 24 #[.nestMembers #[55, 131, 125, 114]] #[{ accessFlags := 1, nameIndex := 5, descriptorIndex := 6, attributes := #[] }, { accessFlags := 9, nameIndex := 33, descriptorIndex := 178, attributes := #[] }] 33 2 #[] #[{ accessFlags := 25, nameIndex := 123, descriptorIndex := 124, attributes := #[] }, { accessFlags := 25, nameIndex := 130, descriptorIndex := 124, attributes := #[] }, { accessFlags := 25, nameIndex := 136, descriptorIndex := 124, attributes := #[] }])
  fields := #[{ name := "SIOOBE_FORMATTER", type := (.object "java/util/function/BiFunction"), accessFlags := 25, slot := 0, constantValue := 0 }, { name := "AIOOBE_FORMATTER", type := (.object "java/util/function/BiFunction"), accessFlags := 25, slot := 1, constantValue := 0 }, { name := "IOOBE_FORMATTER", type := (.object "java/util/function/BiFunction"), accessFlags := 25, slot := 2, constantValue := 0 }]
  methods := #[k12m0, k12m1]
  instanceTypes := #[]
  staticTypes := #[(.object "java/util/function/BiFunction"), (.object "java/util/function/BiFunction"), (.object "java/util/function/BiFunction")]
  resolved := Array.replicate 194 none
  statics := some 2 }

def pool13 : Array CpInfo := pool [(9, u "<init>"), (6, .class_ 18), (1, u "java/lang/Object"), (0, u "()V"), (1, .class_ 23), (1, u "jdk/internal/util/ArraysSupport"), (0, u "LOG2_ARRAY_LONG_INDEX_SCALE"), (0, u "I"), (2, u "U"), (0, u "Ljdk/internal/misc/Unsafe;"), (8, u "BIG_ENDIAN"), (0, u "Z"), (8, u "LOG2_BYTE_BIT_SIZE"), (4, u "LOG2_ARRAY_INT_INDEX_SCALE"), (54, u "JLA"), (0, u "Ljdk/internal/access/JavaLangAccess;"), (11, u "LOG2_ARRAY_BOOLEAN_INDEX_SCALE"), (9, u "LOG2_ARRAY_BYTE_INDEX_SCALE"), (5, u "LOG2_ARRAY_CHAR_INDEX_SCALE"), (5, u "LOG2_ARRAY_SHORT_INDEX_SCALE"), (18, u "LOG2_ARRAY_FLOAT_INDEX_SCALE"), (24, u "LOG2_ARRAY_DOUBLE_INDEX_SCALE"), (89, u "T_BOOLEAN"), (2, u "T_CHAR"), (1, u "T_FLOAT"), (1, u "T_DOUBLE"), (1, u "T_BYTE"), (1, u "T_SHORT"), (1, u "T_INT"), (1, u "T_LONG"), (1, u "SOFT_MAX_ARRAY_LENGTH")] 83

def k13m0 : Method := { name := "<init>", desc := "()V", sig := { parameters := [], returnType := none }, accessFlags := 2, code := none }
/-- jdk/internal/util/ArraysSupport -/
def k13 : Class := { plain "jdk/internal/util/ArraysSupport" (some 0) with
  accessFlags := 33
  interfaces := #[]
  cf := some (fileOf pool13 21 #[] #[{ accessFlags := 2, nameIndex := 9, descriptorIndex := 19, attributes := #[] }] 33 16 #[] #[{ accessFlags := 24, nameIndex := 28, descriptorIndex := 29, attributes := #[] }, { accessFlags := 26, nameIndex := 38, descriptorIndex := 39, attributes := #[] }, { accessFlags := 25, nameIndex := 121, descriptorIndex := 25, attributes := #[] }, { accessFlags := 25, nameIndex := 131, descriptorIndex := 25, attributes := #[] }, { accessFlags := 25, nameIndex := 137, descriptorIndex := 25, attributes := #[] }, { accessFlags := 25, nameIndex := 143, descriptorIndex := 25, attributes := #[] }, { accessFlags := 25, nameIndex := 53, descriptorIndex := 25, attributes := #[] }, { accessFlags := 25, nameIndex := 24, descriptorIndex := 25, attributes := #[] }, { accessFlags := 25, nameIndex := 162, descriptorIndex := 25, attributes := #[] }, { accessFlags := 25, nameIndex := 187, descriptorIndex := 25, attributes := #[] }, { accessFlags := 26, nameIndex := 48, descriptorIndex := 25, attributes := #[] }, { accessFlags := 25, nameIndex := 277, descriptorIndex := 25, attributes := #[] }, { accessFlags := 25, nameIndex := 280, descriptorIndex := 25, attributes := #[] }, { accessFlags := 25, nameIndex := 282, descriptorIndex := 25, attributes := #[] }, { accessFlags := 25, nameIndex := 284, descriptorIndex := 25, attributes := #[] }, { accessFlags := 25, nameIndex := 286, descriptorIndex := 25, attributes := #[] }, { accessFlags := 25, nameIndex := 288, descriptorIndex := 25, attributes := #[] }, { accessFlags := 25, nameIndex := 290, descriptorIndex := 25, attributes := #[] }, { accessFlags := 25, nameIndex := 292, descriptorIndex := 25, attributes := #[] }, { accessFlags := 26, nameIndex := 108, descriptorIndex := 109, attributes := #[] }, { accessFlags := 25, nameIndex := 294, descriptorIndex := 25, attributes := #[] }])
  fields := #[{ name := "U", type := (.object "jdk/internal/misc/Unsafe"), accessFlags := 24, slot := 0, constantValue := 0 }, { name := "BIG_ENDIAN", type := .boolean, accessFlags := 26, slot := 1, constantValue := 0 }, { name := "LOG2_ARRAY_BOOLEAN_INDEX_SCALE", type := .int, accessFlags := 25, slot := 2, constantValue := 0 }, { name := "LOG2_ARRAY_BYTE_INDEX_SCALE", type := .int, accessFlags := 25, slot := 3, constantValue := 0 }, { name := "LOG2_ARRAY_CHAR_INDEX_SCALE", type := .int, accessFlags := 25, slot := 4, constantValue := 0 }, { name := "LOG2_ARRAY_SHORT_INDEX_SCALE", type := .int, accessFlags := 25, slot := 5, constantValue := 0 }, { name := "LOG2_ARRAY_INT_INDEX_SCALE", type := .int, accessFlags := 25, slot := 6, constantValue := 0 }, { name := "LOG2_ARRAY_LONG_INDEX_SCALE", type := .int, accessFlags := 25, slot := 7, constantValue := 0 }, { name := "LOG2_ARRAY_FLOAT_INDEX_SCALE", type := .int, accessFlags := 25, slot := 8, constantValue := 0 }, { name := "LOG2_ARRAY_DOUBLE_INDEX_SCALE", type := .int, accessFlags := 25, slot := 9, constantValue := 0 }, { name := "LOG2_BYTE_BIT_SIZE", type := .int, accessFlags := 26, slot := 10, constantValue := 0 }, { name := "T_BOOLEAN", type := .int, accessFlags := 25, slot := 11, constantValue := 0 }, { name := "T_CHAR", type := .int, accessFlags := 25, slot := 12, constantValue := 0 }, { name := "T_FLOAT", type := .int, accessFlags := 25, slot := 13, constantValue := 0 }, { name := "T_DOUBLE", type := .int, accessFlags := 25, slot := 14, constantValue := 0 }, { name := "T_BYTE", type := .int, accessFlags := 25, slot := 15, constantValue := 0 }, { name := "T_SHORT", type := .int, accessFlags := 25, slot := 16, constantValue := 0 }, { name := "T_INT", type := .int, accessFlags := 25, slot := 17, constantValue := 0 }, { name := "T_LONG", type := .int, accessFlags := 25, slot := 18, constantValue := 0 }, { name := "JLA", type := (.object "jdk/internal/access/JavaLangAccess"), accessFlags := 26, slot := 19, constantValue := 0 }, { name := "SOFT_MAX_ARRAY_LENGTH", type := .int, accessFlags := 25, slot := 20, constantValue := 0 }]
  methods := #[k13m0]
  instanceTypes := #[]
  staticTypes := #[(.object "jdk/internal/misc/Unsafe"), .boolean, .int, .int, .int, .int, .int, .int, .int, .int, .int, .int, .int, .int, .int, .int, .int, .int, .int, (.object "jdk/internal/access/JavaLangAccess"), .int]
  resolved := Array.replicate 378 none
  statics := none }

def pool14 : Array CpInfo := pool [(1, u "java/lang/Cloneable"), (0, .class_ 1), (0, u "java/lang/Object"), (0, .class_ 3)] 3

/-- java/lang/Cloneable -/
def k14 : Class := { plain "java/lang/Cloneable" (some 0) with
  accessFlags := 1537
  interfaces := #[]
  cf := some (fileOf pool14 2 #[] #[] 1537 4 #[] #[])
  fields := #[]
  methods := #[]
  instanceTypes := #[]
  staticTypes := #[]
  resolved := Array.replicate 8 none
  statics := none }

/-- the primitive byte -/
def k15 : Class := { plain "byte" none with kind := .primitive 'B', accessFlags := 0x411 }
/-- [B -/
def k16 : Class := { plain "[B" (some 0) with kind := .array 15 .byte, interfaces := #[14, 2], accessFlags := 1041 }

/-- the primitive char -/
def k17 : Class := { plain "char" none with kind := .primitive 'C', accessFlags := 0x411 }
/-- [C -/
def k18 : Class := { plain "[C" (some 0) with kind := .array 17 .char, interfaces := #[14, 2], accessFlags := 1041 }

/-- the primitive int -/
def k19 : Class := { plain "int" none with kind := .primitive 'I', accessFlags := 0x411 }
/-- [I -/
def k20 : Class := { plain "[I" (some 0) with kind := .array 19 .int, interfaces := #[14, 2], accessFlags := 1041 }

def heap : Heap := #[{ cls := 7, slots := #[.long 0, .int 1, .null, .int 0, .null, .int 0, .int 0], vm := .statics 7 },
  { cls := 10, slots := #[.int 0, .int 8, .int 0, .int 1], vm := .statics 10 },
  { cls := 12, slots := #[.null, .null, .null], vm := .statics 12 }]
def classes : Array Class := #[k0, k1, k2, k3, k4, k5, k6, k7, k8, k9, k10, k11, k12, k13, k14, k15, k16, k17, k18, k19, k20]
def interned : List (Array UInt16 × Addr) := []
def slotsUsed : Nat := 14
def theMethod : MethodId := ⟨1, 2⟩
def args0 : Array Value := #[.int 1, .int 2, .int 3, .int 4]
def aboutOver (below : List Frame) : State where
  vm := { classes := classes, interned := interned.toArray }
  heap := heap
  slotsUsed := slotsUsed
  threads := #[{ frames := .invoking theMethod args0 :: below }]
def below0 : List Frame := [.native { method := ⟨0, 0⟩, args := #[] }]
def about1 : State := aboutOver below0
def p0 : Program := .bare "" "" ""
def e0 : Env := launch0.env 0 0 0
theorem w_frames : about1.frames = Frame.invoking theMethod args0 :: below0 := rfl
set_option maxRecDepth 65536 in
theorem w_args : argsFit about1.vm theMethod args0 = true := by decide +kernel
set_option maxRecDepth 65536 in
theorem w_heap : heapFits about1 = true := by decide +kernel
set_option maxRecDepth 65536 in
theorem w_runnable : about1.curStatus? = some .runnable := by decide +kernel
set_option maxRecDepth 65536 in
theorem w_alone : about1.alone = true := by decide +kernel
set_option maxRecDepth 65536 in
theorem w_named : about1.methodNamed? x = some theMethod := by decide +kernel
set_option maxRecDepth 65536 in
theorem w_hears : about1.hears theMethod below0 = true := by decide +kernel
set_option maxRecDepth 65536 in
theorem w_ripe : about1.ripe theMethod args0 below0 = true := by decide +kernel
theorem w_running : about1.status = .running := rfl
set_option maxRecDepth 65536 in
theorem w_room : about1.hasRoom e0.platform room_1 = true :=
  launch0.hasRoom_least _ room_1 (by decide +kernel) (by decide +kernel) (by decide +kernel) (by decide +kernel) (by decide +kernel) (by decide +kernel)
theorem allAtoms_all (ts : List Jvm.Cond) (a : Array Jvm.Value) (st : Jvm.State) : (allAtoms ts).before a st = ts.all (fun c => c.before a st) := by
  induction ts with
  | nil => rfl
  | cons c t ih =>
    show (Jvm.Cond.and c (allAtoms t)).before a st = _
    rw [Jvm.Cond.before_and, ih, List.all_cons]
def words1 : List Jvm.Cond := Jvm.Cond.code x code maxLocals ret :: tables_1
/-- a 'code' word, met by the world's own term for the bytes: nothing is compared byte by byte -/
theorem code_word {y : MethodName} {bytes : ByteArray} {mx : Nat} {rt : Option FieldType} {a : Array Value} {s : State} {m : MethodId} {meth : Method} {c : Code} (h1 : s.methodNamed? y = some m) (h2 : s.vm.method? m = some meth) (h3 : meth.code = some c) (h4 : c.code = bytes)
    (h5 : (c.maxLocals == mx && c.exceptionTable.isEmpty && decide (c.maxStack ≤ mostOperands) && decide (meth.sig.returnType = rt) && !meth.locks && decide (parseMethodDescriptor y.desc = some meth.sig)) = true) : (Jvm.Cond.code y bytes mx rt).before a s = true := by
  simp only [Bool.and_eq_true, beq_iff_eq, Bool.not_eq_true', decide_eq_true_eq] at h5
  obtain ⟨⟨⟨⟨⟨g1, g2⟩, g3⟩, g4⟩, g5⟩, g6⟩ := h5
  simp [Cond.before, Cond.holds, Cond.value, h1, h2, h3, h4, g1, g2, g3, g4, g5, g6]
def isCode : Jvm.Cond → Bool
  | .code _ _ _ _ => true
  | _ => false
theorem all_split {L : List Jvm.Cond} {P : Jvm.Cond → Bool} (h1 : L.all (fun c => isCode c || P c) = true) (h2 : ∀ c ∈ L.filter isCode, P c = true) : L.all P = true := by
  refine List.all_eq_true.mpr fun c hc => ?_
  have h := List.all_eq_true.mp h1 c hc
  rcases Bool.eq_false_or_eq_true (isCode c) with hi | hi
  · exact h2 c (List.mem_filter.mpr ⟨hc, hi⟩)
  · simpa [hi] using h
set_option maxRecDepth 65536 in
theorem w_c0 : (Jvm.Cond.code x code maxLocals ret).before args0 about1 = true := code_word (m := ⟨1, 2⟩) (meth := k1m2) (c := k1c2) (by decide +kernel) rfl rfl rfl (by decide +kernel)
set_option maxRecDepth 65536 in
theorem w_c1 : (Jvm.Cond.code ({ cls := "java/lang/String", name := "<init>", desc := "([C)V" } : Jvm.MethodName) jdk_42_method_3_code (2 : Nat) (Option.none : Option Jvm.ClassFile.FieldType)).before args0 about1 = true := code_word (m := ⟨7, 1⟩) (meth := k7m1) (c := k7c1) (by decide +kernel) rfl rfl rfl (by decide +kernel)
set_option maxRecDepth 65536 in
theorem w_c2 : (Jvm.Cond.code ({ cls := "java/lang/String", name := "<init>", desc := "([CIILjava/lang/Void;)V" } : Jvm.MethodName) jdk_42_method_149_code (6 : Nat) (Option.none : Option Jvm.ClassFile.FieldType)).before args0 about1 = true := code_word (m := ⟨7, 4⟩) (meth := k7m4) (c := k7c4) (by decide +kernel) rfl rfl rfl (by decide +kernel)
set_option maxRecDepth 65536 in
theorem w_c3 : (Jvm.Cond.code ({ cls := "java/lang/Object", name := "<init>", desc := "()V" } : Jvm.MethodName) object_method_1_code (1 : Nat) (Option.none : Option Jvm.ClassFile.FieldType)).before args0 about1 = true := code_word (m := ⟨0, 0⟩) (meth := k0m0) (c := k0c0) (by decide +kernel) rfl rfl rfl (by decide +kernel)
set_option maxRecDepth 65536 in
theorem w_c4 : (Jvm.Cond.code ({ cls := "com/example/rulebridge/rulebridge/server/Id", name := "isValid", desc := "(Ljava/lang/String;)Z" } : Jvm.MethodName) prog_36_method_2_code (3 : Nat) (Option.some Jvm.ClassFile.FieldType.boolean)).before args0 about1 = true := code_word (m := ⟨9, 0⟩) (meth := k9m0) (c := k9c0) (by decide +kernel) rfl rfl rfl (by decide +kernel)
set_option maxRecDepth 65536 in
theorem w_c5 : (Jvm.Cond.code ({ cls := "java/lang/String", name := "length", desc := "()I" } : Jvm.MethodName) jdk_42_method_54_code (1 : Nat) (Option.some Jvm.ClassFile.FieldType.int)).before args0 about1 = true := code_word (m := ⟨7, 2⟩) (meth := k7m2) (c := k7c2) (by decide +kernel) rfl rfl rfl (by decide +kernel)
set_option maxRecDepth 65536 in
theorem w_c6 : (Jvm.Cond.code ({ cls := "java/lang/String", name := "coder", desc := "()B" } : Jvm.MethodName) jdk_42_method_152_code (1 : Nat) (Option.some Jvm.ClassFile.FieldType.byte)).before args0 about1 = true := code_word (m := ⟨7, 5⟩) (meth := k7m5) (c := k7c5) (by decide +kernel) rfl rfl rfl (by decide +kernel)
set_option maxRecDepth 65536 in
theorem w_c7 : (Jvm.Cond.code ({ cls := "java/lang/StringUTF16", name := "compress", desc := "([CII)[B" } : Jvm.MethodName) jdk_52_method_16_code (6 : Nat) (Option.some (Jvm.ClassFile.FieldType.array Jvm.ClassFile.FieldType.byte))).before args0 about1 = true := code_word (m := ⟨10, 8⟩) (meth := k10m8) (c := k10c8) (by decide +kernel) rfl rfl rfl (by decide +kernel)
set_option maxRecDepth 65536 in
theorem w_c8 : (Jvm.Cond.code ({ cls := "java/lang/StringUTF16", name := "compress", desc := "([CI[BII)I" } : Jvm.MethodName) jdk_52_method_21_code (7 : Nat) (Option.some Jvm.ClassFile.FieldType.int)).before args0 about1 = true := code_word (m := ⟨10, 9⟩) (meth := k10m9) (c := k10c9) (by decide +kernel) rfl rfl rfl (by decide +kernel)
set_option maxRecDepth 65536 in
theorem w_c9 : (Jvm.Cond.code ({ cls := "java/lang/StringUTF16", name := "coderFromArrayLen", desc := "([BI)B" } : Jvm.MethodName) jdk_52_method_15_code (2 : Nat) (Option.some Jvm.ClassFile.FieldType.byte)).before args0 about1 = true := code_word (m := ⟨10, 7⟩) (meth := k10m7) (c := k10c7) (by decide +kernel) rfl rfl rfl (by decide +kernel)
set_option maxRecDepth 65536 in
theorem w_c10 : (Jvm.Cond.code ({ cls := "com/example/rulebridge/rulebridge/server/IdIsValidPinLaw", name := "idChar", desc := "(C)Z" } : Jvm.MethodName) method_2_code (1 : Nat) (Option.some Jvm.ClassFile.FieldType.boolean)).before args0 about1 = true := code_word (m := ⟨1, 1⟩) (meth := k1m1) (c := k1c1) (by decide +kernel) rfl rfl rfl (by decide +kernel)
set_option maxRecDepth 65536 in
theorem w_c11 : (Jvm.Cond.code ({ cls := "java/lang/String", name := "charAt", desc := "(I)C" } : Jvm.MethodName) jdk_42_method_56_code (2 : Nat) (Option.some Jvm.ClassFile.FieldType.char)).before args0 about1 = true := code_word (m := ⟨7, 3⟩) (meth := k7m3) (c := k7c3) (by decide +kernel) rfl rfl rfl (by decide +kernel)
set_option maxRecDepth 65536 in
theorem w_c12 : (Jvm.Cond.code ({ cls := "java/lang/String", name := "isLatin1", desc := "()Z" } : Jvm.MethodName) jdk_42_method_154_code (1 : Nat) (Option.some Jvm.ClassFile.FieldType.boolean)).before args0 about1 = true := code_word (m := ⟨7, 6⟩) (meth := k7m6) (c := k7c6) (by decide +kernel) rfl rfl rfl (by decide +kernel)
set_option maxRecDepth 65536 in
theorem w_c13 : (Jvm.Cond.code ({ cls := "java/lang/StringLatin1", name := "charAt", desc := "([BI)C" } : Jvm.MethodName) jdk_43_method_2_code (2 : Nat) (Option.some Jvm.ClassFile.FieldType.char)).before args0 about1 = true := code_word (m := ⟨11, 1⟩) (meth := k11m1) (c := k11c1) (by decide +kernel) rfl rfl rfl (by decide +kernel)
set_option maxRecDepth 65536 in
theorem w_c14 : (Jvm.Cond.code ({ cls := "java/lang/String", name := "checkIndex", desc := "(II)V" } : Jvm.MethodName) jdk_42_method_155_code (2 : Nat) (Option.none : Option Jvm.ClassFile.FieldType)).before args0 about1 = true := code_word (m := ⟨7, 7⟩) (meth := k7m7) (c := k7c7) (by decide +kernel) rfl rfl rfl (by decide +kernel)
set_option maxRecDepth 65536 in
theorem w_c15 : (Jvm.Cond.code ({ cls := "jdk/internal/util/Preconditions", name := "checkIndex", desc := "(IILjava/util/function/BiFunction;)I" } : Jvm.MethodName) jdk_41_method_11_code (3 : Nat) (Option.some Jvm.ClassFile.FieldType.int)).before args0 about1 = true := code_word (m := ⟨12, 1⟩) (meth := k12m1) (c := k12c1) (by decide +kernel) rfl rfl rfl (by decide +kernel)
set_option maxRecDepth 65536 in
theorem w_c16 : (Jvm.Cond.code ({ cls := "com/example/rulebridge/rulebridge/server/Id", name := "isIdCharacter", desc := "(C)Z" } : Jvm.MethodName) prog_36_method_3_code (1 : Nat) (Option.some Jvm.ClassFile.FieldType.boolean)).before args0 about1 = true := code_word (m := ⟨9, 1⟩) (meth := k9m1) (c := k9c1) (by decide +kernel) rfl rfl rfl (by decide +kernel)
set_option maxRecDepth 65536 in
theorem w_c17 : (Jvm.Cond.code ({ cls := "java/lang/StringUTF16", name := "toBytes", desc := "([CII)[B" } : Jvm.MethodName) jdk_52_method_14_code (5 : Nat) (Option.some (Jvm.ClassFile.FieldType.array Jvm.ClassFile.FieldType.byte))).before args0 about1 = true := code_word (m := ⟨10, 6⟩) (meth := k10m6) (c := k10c6) (by decide +kernel) rfl rfl rfl (by decide +kernel)
set_option maxRecDepth 65536 in
theorem w_c18 : (Jvm.Cond.code ({ cls := "java/lang/StringUTF16", name := "newBytesFor", desc := "(I)[B" } : Jvm.MethodName) jdk_52_method_2_code (1 : Nat) (Option.some (Jvm.ClassFile.FieldType.array Jvm.ClassFile.FieldType.byte))).before args0 about1 = true := code_word (m := ⟨10, 1⟩) (meth := k10m1) (c := k10c1) (by decide +kernel) rfl rfl rfl (by decide +kernel)
set_option maxRecDepth 65536 in
theorem w_c19 : (Jvm.Cond.code ({ cls := "java/lang/StringUTF16", name := "newBytesLength", desc := "(I)I" } : Jvm.MethodName) jdk_52_method_3_code (1 : Nat) (Option.some Jvm.ClassFile.FieldType.int)).before args0 about1 = true := code_word (m := ⟨10, 2⟩) (meth := k10m2) (c := k10c2) (by decide +kernel) rfl rfl rfl (by decide +kernel)
set_option maxRecDepth 65536 in
theorem w_c20 : (Jvm.Cond.code ({ cls := "java/lang/StringUTF16", name := "putChar", desc := "([BII)V" } : Jvm.MethodName) jdk_52_method_4_code (3 : Nat) (Option.none : Option Jvm.ClassFile.FieldType)).before args0 about1 = true := code_word (m := ⟨10, 3⟩) (meth := k10m3) (c := k10c3) (by decide +kernel) rfl rfl rfl (by decide +kernel)
set_option maxRecDepth 65536 in
theorem w_c21 : (Jvm.Cond.code ({ cls := "java/lang/StringUTF16", name := "getChar", desc := "([BI)C" } : Jvm.MethodName) jdk_52_method_5_code (2 : Nat) (Option.some Jvm.ClassFile.FieldType.char)).before args0 about1 = true := code_word (m := ⟨10, 4⟩) (meth := k10m4) (c := k10c4) (by decide +kernel) rfl rfl rfl (by decide +kernel)
set_option maxRecDepth 65536 in
theorem w_c22 : (Jvm.Cond.code ({ cls := "java/lang/StringUTF16", name := "charAt", desc := "([BI)C" } : Jvm.MethodName) jdk_52_method_83_code (2 : Nat) (Option.some Jvm.ClassFile.FieldType.char)).before args0 about1 = true := code_word (m := ⟨10, 10⟩) (meth := k10m10) (c := k10c10) (by decide +kernel) rfl rfl rfl (by decide +kernel)
set_option maxRecDepth 65536 in
theorem w_c23 : (Jvm.Cond.code ({ cls := "java/lang/StringUTF16", name := "checkIndex", desc := "(I[B)V" } : Jvm.MethodName) jdk_52_method_91_code (2 : Nat) (Option.none : Option Jvm.ClassFile.FieldType)).before args0 about1 = true := code_word (m := ⟨10, 11⟩) (meth := k10m11) (c := k10c11) (by decide +kernel) rfl rfl rfl (by decide +kernel)
set_option maxRecDepth 65536 in
theorem w_c24 : (Jvm.Cond.code ({ cls := "java/lang/StringUTF16", name := "length", desc := "([B)I" } : Jvm.MethodName) jdk_52_method_6_code (1 : Nat) (Option.some Jvm.ClassFile.FieldType.int)).before args0 about1 = true := code_word (m := ⟨10, 5⟩) (meth := k10m5) (c := k10c5) (by decide +kernel) rfl rfl rfl (by decide +kernel)
def codes1 : List Jvm.Cond := [Jvm.Cond.code x code maxLocals ret, Jvm.Cond.code ({ cls := "java/lang/String", name := "<init>", desc := "([C)V" } : Jvm.MethodName) jdk_42_method_3_code (2 : Nat) (Option.none : Option Jvm.ClassFile.FieldType), Jvm.Cond.code ({ cls := "java/lang/String", name := "<init>", desc := "([CIILjava/lang/Void;)V" } : Jvm.MethodName) jdk_42_method_149_code (6 : Nat) (Option.none : Option Jvm.ClassFile.FieldType), Jvm.Cond.code ({ cls := "java/lang/Object", name := "<init>", desc := "()V" } : Jvm.MethodName) object_method_1_code (1 : Nat) (Option.none : Option Jvm.ClassFile.FieldType), Jvm.Cond.code ({ cls := "com/example/rulebridge/rulebridge/server/Id", name := "isValid", desc := "(Ljava/lang/String;)Z" } : Jvm.MethodName) prog_36_method_2_code (3 : Nat) (Option.some Jvm.ClassFile.FieldType.boolean), Jvm.Cond.code ({ cls := "java/lang/String", name := "length", desc := "()I" } : Jvm.MethodName) jdk_42_method_54_code (1 : Nat) (Option.some Jvm.ClassFile.FieldType.int), Jvm.Cond.code ({ cls := "java/lang/String", name := "coder", desc := "()B" } : Jvm.MethodName) jdk_42_method_152_code (1 : Nat) (Option.some Jvm.ClassFile.FieldType.byte), Jvm.Cond.code ({ cls := "java/lang/StringUTF16", name := "compress", desc := "([CII)[B" } : Jvm.MethodName) jdk_52_method_16_code (6 : Nat) (Option.some (Jvm.ClassFile.FieldType.array Jvm.ClassFile.FieldType.byte)), Jvm.Cond.code ({ cls := "java/lang/StringUTF16", name := "compress", desc := "([CI[BII)I" } : Jvm.MethodName) jdk_52_method_21_code (7 : Nat) (Option.some Jvm.ClassFile.FieldType.int), Jvm.Cond.code ({ cls := "java/lang/StringUTF16", name := "coderFromArrayLen", desc := "([BI)B" } : Jvm.MethodName) jdk_52_method_15_code (2 : Nat) (Option.some Jvm.ClassFile.FieldType.byte), Jvm.Cond.code ({ cls := "com/example/rulebridge/rulebridge/server/IdIsValidPinLaw", name := "idChar", desc := "(C)Z" } : Jvm.MethodName) method_2_code (1 : Nat) (Option.some Jvm.ClassFile.FieldType.boolean), Jvm.Cond.code ({ cls := "java/lang/String", name := "charAt", desc := "(I)C" } : Jvm.MethodName) jdk_42_method_56_code (2 : Nat) (Option.some Jvm.ClassFile.FieldType.char), Jvm.Cond.code ({ cls := "java/lang/String", name := "isLatin1", desc := "()Z" } : Jvm.MethodName) jdk_42_method_154_code (1 : Nat) (Option.some Jvm.ClassFile.FieldType.boolean), Jvm.Cond.code ({ cls := "java/lang/StringLatin1", name := "charAt", desc := "([BI)C" } : Jvm.MethodName) jdk_43_method_2_code (2 : Nat) (Option.some Jvm.ClassFile.FieldType.char), Jvm.Cond.code ({ cls := "java/lang/String", name := "checkIndex", desc := "(II)V" } : Jvm.MethodName) jdk_42_method_155_code (2 : Nat) (Option.none : Option Jvm.ClassFile.FieldType), Jvm.Cond.code ({ cls := "jdk/internal/util/Preconditions", name := "checkIndex", desc := "(IILjava/util/function/BiFunction;)I" } : Jvm.MethodName) jdk_41_method_11_code (3 : Nat) (Option.some Jvm.ClassFile.FieldType.int), Jvm.Cond.code ({ cls := "com/example/rulebridge/rulebridge/server/Id", name := "isIdCharacter", desc := "(C)Z" } : Jvm.MethodName) prog_36_method_3_code (1 : Nat) (Option.some Jvm.ClassFile.FieldType.boolean), Jvm.Cond.code ({ cls := "java/lang/StringUTF16", name := "toBytes", desc := "([CII)[B" } : Jvm.MethodName) jdk_52_method_14_code (5 : Nat) (Option.some (Jvm.ClassFile.FieldType.array Jvm.ClassFile.FieldType.byte)), Jvm.Cond.code ({ cls := "java/lang/StringUTF16", name := "newBytesFor", desc := "(I)[B" } : Jvm.MethodName) jdk_52_method_2_code (1 : Nat) (Option.some (Jvm.ClassFile.FieldType.array Jvm.ClassFile.FieldType.byte)), Jvm.Cond.code ({ cls := "java/lang/StringUTF16", name := "newBytesLength", desc := "(I)I" } : Jvm.MethodName) jdk_52_method_3_code (1 : Nat) (Option.some Jvm.ClassFile.FieldType.int), Jvm.Cond.code ({ cls := "java/lang/StringUTF16", name := "putChar", desc := "([BII)V" } : Jvm.MethodName) jdk_52_method_4_code (3 : Nat) (Option.none : Option Jvm.ClassFile.FieldType), Jvm.Cond.code ({ cls := "java/lang/StringUTF16", name := "getChar", desc := "([BI)C" } : Jvm.MethodName) jdk_52_method_5_code (2 : Nat) (Option.some Jvm.ClassFile.FieldType.char), Jvm.Cond.code ({ cls := "java/lang/StringUTF16", name := "charAt", desc := "([BI)C" } : Jvm.MethodName) jdk_52_method_83_code (2 : Nat) (Option.some Jvm.ClassFile.FieldType.char), Jvm.Cond.code ({ cls := "java/lang/StringUTF16", name := "checkIndex", desc := "(I[B)V" } : Jvm.MethodName) jdk_52_method_91_code (2 : Nat) (Option.none : Option Jvm.ClassFile.FieldType), Jvm.Cond.code ({ cls := "java/lang/StringUTF16", name := "length", desc := "([B)I" } : Jvm.MethodName) jdk_52_method_6_code (1 : Nat) (Option.some Jvm.ClassFile.FieldType.int)]
set_option maxRecDepth 65536 in
theorem codes_eq : words1.filter isCode = codes1 := rfl
theorem w_codes : ∀ c ∈ words1.filter isCode, c.before args0 about1 = true := by
  rw [codes_eq]
  intro c hc
  simp only [codes1, List.mem_cons, List.not_mem_nil, or_false] at hc
  rcases hc with rfl | rfl | rfl | rfl | rfl | rfl | rfl | rfl | rfl | rfl | rfl | rfl | rfl | rfl | rfl | rfl | rfl | rfl | rfl | rfl | rfl | rfl | rfl | rfl | rfl
  · exact w_c0
  · exact w_c1
  · exact w_c2
  · exact w_c3
  · exact w_c4
  · exact w_c5
  · exact w_c6
  · exact w_c7
  · exact w_c8
  · exact w_c9
  · exact w_c10
  · exact w_c11
  · exact w_c12
  · exact w_c13
  · exact w_c14
  · exact w_c15
  · exact w_c16
  · exact w_c17
  · exact w_c18
  · exact w_c19
  · exact w_c20
  · exact w_c21
  · exact w_c22
  · exact w_c23
  · exact w_c24
set_option maxRecDepth 65536 in
theorem w_t1 : (words1.take 24).all (fun c => isCode c || c.before args0 about1) = true := by decide +kernel
set_option maxRecDepth 65536 in
theorem w_t2 : ((words1.drop 24).take 24).all (fun c => isCode c || c.before args0 about1) = true := by decide +kernel
set_option maxRecDepth 65536 in
theorem w_t3 : (((words1.drop 24).drop 24).take 24).all (fun c => isCode c || c.before args0 about1) = true := by decide +kernel
set_option maxRecDepth 65536 in
theorem w_t4 : ((((words1.drop 24).drop 24).drop 24).take 24).all (fun c => isCode c || c.before args0 about1) = true := by decide +kernel
set_option maxRecDepth 65536 in
theorem w_t5 : ((((words1.drop 24).drop 24).drop 24).drop 24).all (fun c => isCode c || c.before args0 about1) = true := by decide +kernel
theorem w_tables : (allAtoms (Jvm.Cond.code x code maxLocals ret :: tables_1)).before args0 about1 = true := by
  rw [allAtoms_all]
  show words1.all (fun c => c.before args0 about1) = true
  refine all_split ?_ w_codes
  rw [← List.take_append_drop 24 words1, List.all_append, w_t1, ← List.take_append_drop 24 (words1.drop 24), List.all_append, w_t2, ← List.take_append_drop 24 ((words1.drop 24).drop 24), List.all_append, w_t3, ← List.take_append_drop 24 (((words1.drop 24).drop 24).drop 24), List.all_append, w_t4, w_t5]
  rfl
set_option maxRecDepth 65536 in
theorem w_rest : rest_1_c.before args0 about1 = true := by decide +kernel
set_option maxRecDepth 65536 in
theorem w_case : (Jvm.Cond.and given_1 narrow_1).before args0 about1 = true := by decide +kernel
set_option maxRecDepth 65536 in
theorem w_consts : constsHeld consts_1 about1 := Jvm.Lit.constsHeldB_iff.mp (by decide +kernel)
theorem w_applies : (headSpec (Jvm.Cond.code x code maxLocals ret :: tables_1) room_1).applies x e0.platform about1 = true :=
  (Spec.applies_iff w_frames).mpr ⟨w_running, w_runnable, w_alone, w_named, w_hears, w_ripe, w_room, w_tables⟩
theorem atStart : AtStart classFile x code maxLocals ret World_1 tables_1 room_1 Calls_1 rest_1 Pre_1 launch0 p0 e0 about1 theMethod args0 below0 :=
  ⟨lists_1, trivial, launch0.admits_env _ _ _, launch0.least_env, fairChoices_fair.cas, fairChoices_fair.clock, w_frames, w_args, w_heap, w_applies, ⟨w_consts, trivial⟩, w_rest, w_case⟩
end start1
theorem witness_1 : WitnessClaimed_1 := ⟨start1.p0, start1.e0, start1.about1, start1.theMethod, start1.args0, start1.below0, start1.atStart⟩
end Jvm.Pilot.@@N@@
