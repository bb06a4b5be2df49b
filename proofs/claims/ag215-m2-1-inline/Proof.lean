import JvmDerived
import JvmDerived.Pilot.@@N@@Statement
import JvmDerived.Pilot.@@N@@Code
set_option linter.unusedVariables false
set_option linter.unusedSimpArgs false
namespace Jvm.Pilot.@@N@@
open Jvm Jvm.ClassFile Sem Op Lib Jvm.Free Jvm.Stand Jvm.LawKit Jvm.RoadKit Bundle Jvm.Pilot.@@N@@.Jvm.D

/-- the run that stands at T with the top frame f ends, and its end is as P says -/
def Go (p : Program) (e : Env) (below : List Frame) (P : Outcome → State → Prop) (T : State) (f : JFrame) : Prop :=
  ∃ s₂ o, Steps p.tables e below (T.setTop f) s₂ ∧ s₂.status = .running ∧ Ended s₂ below o ∧ P o s₂
theorem Go.st {p : Program} {e : Env} {below : List Frame} {P : Outcome → State → Prop} {T T' : State} {f f' : JFrame}
    (h : ∀ t, Steps p.tables e below (T'.setTop f') t → Steps p.tables e below (T.setTop f) t) (k : Go p e below P T' f') : Go p e below P T f := by
  obtain ⟨s₂, o, a, b⟩ := k
  exact ⟨s₂, o, h _ a, b⟩
theorem Go.tr {p : Program} {e : Env} {below : List Frame} {P : Outcome → State → Prop} {T T' : State} {f f' : JFrame}
    (h : Steps p.tables e below (T.setTop f) (T'.setTop f')) (k : Go p e below P T' f') : Go p e below P T f := by
  obtain ⟨s₂, o, a, b⟩ := k
  exact ⟨s₂, o, h.trans a, b⟩
/-- what a contract says of the end -/
abbrev Done (s : State) (Q : Option Value → Heap → List Loc → Prop) (C S : Nat) (o : Outcome) (U' : State) : Prop :=
  ∃ v L, o = .returned v ∧ Q v U'.heap L ∧ FrameEnd s o U' L C S
theorem Go.ret {p : Program} {l : Launch} {e : Env} {R : Room} {s : State} {m : MethodId} {args : Array Value} {below : List Frame} {meth : Method} {c : Code} {T : State} {locs : List Loc} {cells slots : Nat} {h : Heap}
    {Q : Option Value → Heap → List Loc → Prop} {C S : Nat} {v : Option Value} {f : JFrame}
    (X : Stand p l e R s m args below meth c T locs cells slots) (hlk : meth.locks = false) (hv : meth.sig.returnType = none → v = none)
    (hs : ∀ fs, (∀ (f : JFrame) (acts : List Action), f.method = m → f.locked = none → f.entered = [] → (doReturn e (T.setTop f) acts v).1 = T.setFrames fs) → Steps p.tables e below (T.setTop f) (T.setFrames fs))
    (eT : T.heap = h) (hQ : Q v h locs) (hc : cells ≤ C) (hl : slots ≤ S) : Go p e below (Done s Q C S) T f := by
  obtain ⟨fs, hr, hrun, hended, hW, hsame⟩ := X.leave (v := v) hv hlk
  refine ⟨_, _, hs fs hr, hrun, hended, v, locs, rfl, ?_, ⟨_, rfl⟩, hW, hsame.mono hc hl⟩
  show Q v T.heap locs
  rw [eT]; exact hQ
theorem Go.retB {p : Program} {l : Launch} {e : Env} {R : Room} {s : State} {m : MethodId} {args : Array Value} {below : List Frame} {meth : Method} {c : Code} {T : State} {locs : List Loc} {cells slots : Nat} {h : Heap}
    {Q : Option Value → Heap → List Loc → Prop} {C S : Nat} {pc : Nat} {Ls : Array Slot} {z : Int32} {rest : List Value} {t : FieldType}
    (X : Stand p l e R s m args below meth c T locs cells slots) (hlk : meth.locks = false) (hx : p.tables.exec = Jvm.exec) (hret : meth.sig.returnType = some t) (ht : t = .boolean ∨ t = .byte ∨ t = .char ∨ t = .short)
    (hd : decode c.code pc = .ok (.ireturn, 1)) (eT : T.heap = h) (hQ : Q (some (.int (nar t z))) h locs) (hc : cells ≤ C) (hl : slots ≤ S) : Go p e below (Done s Q C S) T (mkF m pc Ls (.int z :: rest)) :=
  Go.ret X hlk (fun h => by rw [hret] at h; cases h) (fun _ hr => retN X hx hret ht hd hr) eT hQ hc hl
theorem Go.retV {p : Program} {l : Launch} {e : Env} {R : Room} {s : State} {m : MethodId} {args : Array Value} {below : List Frame} {meth : Method} {c : Code} {T : State} {locs : List Loc} {cells slots : Nat} {h : Heap}
    {Q : Option Value → Heap → List Loc → Prop} {C S : Nat} {pc : Nat} {Ls : Array Slot} {w : Value} {rest : List Value} {t : FieldType} {i : Instr}
    (X : Stand p l e R s m args below meth c T locs cells slots) (hlk : meth.locks = false) (hx : p.tables.exec = Jvm.exec) (hret : meth.sig.returnType = some t) (hn : narrow t w = w)
    (hi : (i = .ireturn ∧ (t = .int ∨ t = .boolean ∨ t = .byte ∨ t = .char ∨ t = .short) ∧ ∃ z, w = .int z) ∨ (i = .lreturn ∧ t = .long ∧ ∃ z, w = .long z) ∨ (i = .dreturn ∧ t = .double ∧ ∃ z, w = .double z) ∨ (i = .freturn ∧ t = .float ∧ ∃ z, w = .float z) ∨ (i = .areturn ∧ t.isReference = true ∧ w.isRef = true))
    (hd : decode c.code pc = .ok (i, 1)) (eT : T.heap = h) (hQ : Q (some w) h locs) (hc : cells ≤ C) (hl : slots ≤ S) : Go p e below (Done s Q C S) T (mkF m pc Ls (w :: rest)) :=
  Go.ret X hlk (fun h => by rw [hret] at h; cases h) (fun _ hr => retOut X hx hret hn hi hd hr) eT hQ hc hl
theorem Go.ret0 {p : Program} {l : Launch} {e : Env} {R : Room} {s : State} {m : MethodId} {args : Array Value} {below : List Frame} {meth : Method} {c : Code} {T : State} {locs : List Loc} {cells slots : Nat} {h : Heap}
    {Q : Option Value → Heap → List Loc → Prop} {C S : Nat} {pc : Nat} {Ls : Array Slot}
    (X : Stand p l e R s m args below meth c T locs cells slots) (hlk : meth.locks = false) (hx : p.tables.exec = Jvm.exec) (hret : meth.sig.returnType = none)
    (hd : decode c.code pc = .ok (.return_, 1)) (eT : T.heap = h) (hQ : Q none h locs) (hc : cells ≤ C) (hl : slots ≤ S) : Go p e below (Done s Q C S) T (mkF m pc Ls []) :=
  Go.ret X hlk (fun _ => rfl) (fun _ hr => X.returnOut hx hret hd hr) eT hQ hc hl
/-- an entry that stands resolved stays so, also where String constants are loaded -/
theorem own_fieldRef {Z : State} {vm1 : Vm} {a0 : Array Value} {own O n d : String} {index : Nat} (hW : Z.Warmed39 vm1) (w : (Cond.fieldRef own index O n d).before a0 Z = true) : (Cond.fieldRef own index O n d).before a0 (Z.setVm vm1) = true := by
  simp only [Cond.before, Cond.holds, Cond.value, State.vm_setVm, hW.alike.findClass, State.names_setVm hW.alike] at w ⊢
  cases q1 : Z.vm.findClass own with
  | none => rw [q1] at w; simp at w
  | some cO =>
    cases q2 : Z.fieldFound? O n d with
    | none => rw [q1, q2] at w; simp at w
    | some z =>
      obtain ⟨c1, k1, i1, f1⟩ := z
      obtain ⟨k2, q3, -⟩ := State.fieldFound?_setVm hW.alike q2
      rw [q1, q2] at w
      rw [q3]
      cases q4 : Z.resolvedAt? own index with
      | none => rw [q4] at w; simp at w
      | some r => rw [State.resolvedAt?_warmed39 hW q4]; rw [q4] at w; exact w
/-- getfield through an entry that stands resolved at the start (the word fieldRef) -/
theorem own_getR {p : Program} {l : Launch} {e : Env} {R : Room} {s : State} {m : MethodId} {args : Array Value} {below : List Frame} {meth : Method} {c : Code} {T : State} {locs : List Loc} {cells slots : Nat} {Z : State} {a0 : Array Value} {h : Heap}
    (X : Stand p l e R s m args below meth c T locs cells slots) (hx : p.tables.exec = Jvm.exec) (hZ : Z.Warmed39 s.vm) {own O n d : String} {index : Nat} (hown : s.vm.findClass own = some m.cls) (w : (Cond.fieldRef own index O n d).before a0 Z = true)
    (eT : T.heap = h) {a : Addr} {v : Value} (F : Fld Z h a O n d v) {g : JFrame} (hg : g.method = m) {rest : List Value} (hs : g.stack = .ref a :: rest) (hd : decode c.code g.pc = .ok (.getfield index, 3)) :
    ∃ T', Stand p l e R s m args below meth c T' locs cells slots ∧ T'.heap = h ∧ ∀ target, Steps p.tables e below (T'.setTop { g with pc := g.pc + 3, stack := v :: rest }) target → Steps p.tables e below (T.setTop g) target := by
  obtain ⟨cell, cf, k, i, f, h1, h2, h3, h4, -, -, h7⟩ := F
  have w1 : (Cond.fieldRef own index O n d).before args s = true := (own_fieldRef hZ w : (Cond.fieldRef own index O n d).before a0 (Z.setVm s.vm) = true)
  have w2 := Cond.fieldRef_warmed X.warmed w1
  obtain ⟨k1, r1, -⟩ := State.fieldFound?_setVm (s := Z) hZ.alike h2
  obtain ⟨k2, r2, -⟩ := State.fieldFound?_setVm (s := s) X.warmed.alike (show s.fieldFound? O n d = _ from r1)
  obtain ⟨c', k', i', f', q1, q2⟩ := Cond.fieldRef_spec (s := s.setVm T.vm) (cur := m.cls) (by rw [State.vm_setVm, X.warmed.alike.findClass]; exact hown) w2
  cases q1.symm.trans r2
  exact ⟨T, X, eT, fun target k => (X.getfieldR hx hg q2 h3 hs (by rw [eT]; exact h1) h4 h7 hd (Steps.refl _)).trans k⟩
/-- the form of every contract here -/
def Con (l : Launch) (Z : State) (y : MethodName) (bytes : ByteArray) (ml : Nat) (ret : Option FieldType) (ws : List Jvm.Cond) (room : Room) (A : Array Value) (h0 : Heap) (Q : Option Value → Heap → List Loc → Prop) : Prop :=
  MetFree l y (head1 (Jvm.Cond.code y bytes ml ret :: ws) room) (fun a U => a = A ∧ Z.Warmed39 U.vm ∧ U.heap = h0) (fun _ _ _ _ _ => True) (fun _ U o U' => ∃ v L, o = .returned v ∧ Q v U'.heap L ∧ FrameEnd U o U' L room.cells room.slots)
theorem own_body {l : Launch} {Z : State} {y : MethodName} {bytes : ByteArray} {ml : Nat} {ret : Option FieldType} {ws : List Jvm.Cond} {room : Room} {A : Array Value} {h0 : Heap} {Q : Option Value → Heap → List Loc → Prop} (hpn : plainFor y = true)
    (body : ∀ (p : Program) (e : Env) (s : State) (m : MethodId) (below : List Frame) (meth : Method) (c : Code) (s₁ : State), p.tables.exec = Jvm.exec → c.code = bytes → c.maxLocals = ml → Z.Warmed39 s.vm → s.vm.findClass y.cls = some m.cls → meth.name = y.name → meth.locks = false → meth.sig.returnType = ret →
      Stand p l e room s m A below meth c s₁ [] 0 0 → s₁.heap = h0 → Go p e below (Done s Q room.cells room.slots) s₁ (entryFrame m A ml)) : Con l Z y bytes ml ret ws room A h0 Q := by
  refine MetFree.of_bodySF hpn hisR ?_
  intro p e s m args below meth c s₁ Bd hml0 hP hK
  obtain ⟨rfl, hZ, hh⟩ := hP
  exact body p e s m below meth c s₁ Bd.exec Bd.bytes hml0 hZ (findClass_of_methodNamed Bd.named) (name_of_methodNamed Bd.named Bd.method).1 Bd.notSynchronized Bd.returns (Stand.of_body Bd) (by rw [← hh, Bd.state]; rfl)
theorem own_back {l : Launch} {R : Room} {p : Program} {e : Env} {below : List Frame} {s Z : State} {args a0 : Array Value} {h : Heap} {y : MethodName} {bytes : ByteArray} {maxL : Nat} {ret : Option FieldType} {rm : Room} {len W : Nat} {as' : Array Value} {Q : Option Value → Heap → List Loc → Prop}
    (hM : Con l Z y bytes maxL ret [] rm as' h Q) (hZ : Z.Warmed39 s.vm) (wc : (Cond.code y bytes maxL ret).before a0 Z = true) (wz : (Cond.initialized y.cls).before a0 Z = true) (hf : rm.frames + 1 ≤ R.frames) (hl : W + (maxL + 11) + rm.locals ≤ R.locals) :
    Back l R p e below s args y len W (fun A a => a = as' ∧ A.U.heap = h ∧ A.cells + rm.cells ≤ R.cells ∧ A.slots + rm.slots ≤ R.slots)
      (fun A _ v B => ∃ L, Q v B.U.heap L ∧ B.locs = A.locs ++ L ∧ B.cells = A.cells + rm.cells ∧ B.slots = A.slots + rm.slots) := backOf (Q := Q) hM hZ wc wz hf hl
theorem Con.weaken {l : Launch} {Z : State} {y : MethodName} {bytes : ByteArray} {ml : Nat} {ret : Option FieldType} {ws : List Jvm.Cond} {room : Room} {A : Array Value} {h0 : Heap} {Q Q' : Option Value → Heap → List Loc → Prop} (h : Con l Z y bytes ml ret ws room A h0 Q) (hq : ∀ v h L, Q v h L → Q' v h L) : Con l Z y bytes ml ret ws room A h0 Q' := fun p e h1 h2 h3 s m args below hf happ hP hK => by
  obtain ⟨n, o, a, b, c, v, L, d, e, f⟩ := h p e h1 h2 h3 s m args below hf happ hP hK
  exact ⟨n, o, a, b, c, v, L, d, hq _ _ _ e, f⟩
theorem own_cat {v : Value} (h : v.isRef = true) : v.category = 1 := by cases v <;> first | rfl | (simp [Value.isRef] at h)
theorem acYes {c : ClassFile.ACond} {x y : Value} (h : x = y) : acV c (decide (x = y)) = acV c true := by rw [decide_eq_true h]

theorem own_weaken {l : Launch} {x : MethodName} {S : Spec} {P : Array Value → State → Prop} {K : Program → Env → List Frame → State → Array Value → Prop} {Q Q' : Array Value → State → Outcome → State → Prop} (h : MetFree l x S P K Q) (hq : ∀ a s o t, Q a s o t → Q' a s o t) : MetFree l x S P K Q' := fun p e h1 h2 h3 s m args below hf happ hP hK => by
  obtain ⟨n, o, a, b, c, d⟩ := h p e h1 h2 h3 s m args below hf happ hP hK
  exact ⟨n, o, a, b, c, hq _ _ _ _ d⟩
section Start
variable {args : Array Value} {first s : State} {o : Option Outcome} {idx : List Nat} {t u : Term}
theorem own_eq_int {k : Int32} (h : (Jvm.Cond.eq t (.int k)).value args first o s idx = some true) : t.eval args first o idx s = some (.int k) := by
  simp only [Cond.value, Term.eval] at h
  cases ht : t.eval args first o idx s with
  | none => simp [ht] at h
  | some x => cases x <;> simp [ht] at h ⊢ <;> exact h
theorem own_eq_ref {a : Addr} (h : (Jvm.Cond.eq t u).value args first o s idx = some true) (hu : u.eval args first o idx s = some (.ref a)) : t.eval args first o idx s = some (.ref a) := by
  simp only [Cond.value] at h
  rw [hu] at h
  cases ht : t.eval args first o idx s with
  | none => simp [ht] at h
  | some x => cases x <;> simp [ht] at h ⊢ <;> exact h
theorem own_len {a : Addr} {cl : Cell} {z : Int32} (h : (Term.length t).eval args first o idx s = some (.int z)) (ht : t.eval args first o idx s = some (.ref a)) (hc : s.heap[a]? = some cl) : cl.slots.size < 2 ^ 31 ∧ cl.slots.size.toInt32 = z := by
  obtain ⟨a', cell, e1, e2, e3⟩ := Term.length_spec h
  cases ht.symm.trans e1
  have e4 := (State.arrayAt?_spec e2).1
  cases hc.symm.trans e4
  refine ⟨?_, (Value.int.inj e3).symm⟩
  by_cases hn : cl.slots.size < 2147483648
  · exact hn
  · simp only [Term.eval, Option.bind_eq_bind, ht, Option.bind_some, e2] at h
    rw [if_neg hn] at h; cases h
theorem own_ne_int {z : Int32} (h : (Jvm.Cond.not (Jvm.Cond.eq t (.int 0))).value args first o s idx = some true) (ht : t.eval args first o idx s = some (.int z)) : ¬ z = 0 := by
  have h1 := not_v h
  intro e
  subst e
  simp [Cond.value, Term.eval, ht] at h1
theorem own_fld {a : Addr} {C n d : String} {k : Int32} (h : (Jvm.Cond.eq (Term.field t C n d) (.int k)).value args s none s [] = some true) (ht : t.eval args s none [] s = some (.ref a)) : Fld s s.heap a C n d (.int k) :=
  Fld.start (by rw [← fld_at ht]; exact own_eq_int h)
theorem own_elem {a : Addr} {cl : Cell} {w : Addr} {j : Int32} {i : Nat} (h : (Jvm.Cond.eq (Term.elem t (.int j)) u).value args s none s [] = some true) (hu : u.eval args s none [] s = some (.ref w)) (ht : t.eval args s none [] s = some (.ref a)) (hc : s.heap[a]? = some cl) (hj : j.toNatClampNeg = i) : cl.slots[i]? = some (.ref w) := by
  subst hj
  exact (elem_in (own_eq_ref h hu) ht rfl hc).2
end Start

/-- what a contract says of the end, where String constants may have been loaded -/
abbrev DoneW (s Z : State) (EL : List (String × Nat)) (Q : Option Value → Heap → List Loc → Prop) (C S : Nat) (o : Outcome) (U' : State) : Prop :=
  ∃ v L, o = .returned v ∧ Q v U'.heap L ∧ CHr Z EL s.vm s.heap U'.vm U'.heap ∧ ReturnedEndW s o U' L C S
theorem GoW.ret {p : Program} {l : Launch} {e : Env} {R : Room} {s Z : State} {a0 : Array Value} {EL : List (String × Nat)} {vm1 : Vm} {m : MethodId} {args : Array Value} {below : List Frame} {meth : Method} {c : Code} {T : State} {locs : List Loc} {cells slots : Nat} {h h0 : Heap} {k0 : Nat}
    {Q : Option Value → Heap → List Loc → Prop} {C S : Nat} {v : Option Value} {f : JFrame}
    (X : Stand p l e R (s.setVm vm1) m args below meth c T locs cells slots) (hlk : meth.locks = false) (hv : meth.sig.returnType = none → v = none)
    (hs : ∀ fs, (∀ (f : JFrame) (acts : List Action), f.method = m → f.locked = none → f.entered = [] → (doReturn e (T.setTop f) acts v).1 = T.setFrames fs) → Steps p.tables e below (T.setTop f) (T.setFrames fs))
    (eT : T.heap = h) (hS : s.Since vm1 k0) (hk : k0 ≤ h.size) (hZ : Z.Warmed39 vm1) (hEL : EW Z a0 EL) (cr : CHr Z EL s.vm h0 vm1 h) (hh : s.heap = h0) (hQ : Q v h locs) (hc : cells ≤ C) (hl : slots ≤ S) : Go p e below (DoneW s Z EL Q C S) T f := by
  obtain ⟨fs, hr, hrun, hended, hW⟩ := X.leaveW hS (by rw [eT]; exact hk) (v := v) hv hlk
  have cr2 := cr.trans (CHv.at X hZ hEL cr.1)
  subst eT hh
  exact ⟨_, _, hs fs hr, hrun, hended, v, locs, rfl, hQ, cr2, hW.1, hW.2.1, hW.2.2.1, hW.2.2.2.mono hc hl⟩
theorem GoW.retB {p : Program} {l : Launch} {e : Env} {R : Room} {s Z : State} {a0 : Array Value} {EL : List (String × Nat)} {vm1 : Vm} {m : MethodId} {args : Array Value} {below : List Frame} {meth : Method} {c : Code} {T : State} {locs : List Loc} {cells slots : Nat} {h h0 : Heap} {k0 : Nat}
    {Q : Option Value → Heap → List Loc → Prop} {C S : Nat} {pc : Nat} {Ls : Array Slot} {z : Int32} {rest : List Value} {t : FieldType}
    (X : Stand p l e R (s.setVm vm1) m args below meth c T locs cells slots) (hlk : meth.locks = false) (hx : p.tables.exec = Jvm.exec) (hret : meth.sig.returnType = some t) (ht : t = .boolean ∨ t = .byte ∨ t = .char ∨ t = .short)
    (hd : decode c.code pc = .ok (.ireturn, 1)) (eT : T.heap = h) (hS : s.Since vm1 k0) (hk : k0 ≤ h.size) (hZ : Z.Warmed39 vm1) (hEL : EW Z a0 EL) (cr : CHr Z EL s.vm h0 vm1 h) (hh : s.heap = h0) (hQ : Q (some (.int (nar t z))) h locs) (hc : cells ≤ C) (hl : slots ≤ S) : Go p e below (DoneW s Z EL Q C S) T (mkF m pc Ls (.int z :: rest)) :=
  GoW.ret X hlk (fun h => by rw [hret] at h; cases h) (fun _ hr => retN X hx hret ht hd hr) eT hS hk hZ hEL cr hh hQ hc hl
theorem GoW.retV {p : Program} {l : Launch} {e : Env} {R : Room} {s Z : State} {a0 : Array Value} {EL : List (String × Nat)} {vm1 : Vm} {m : MethodId} {args : Array Value} {below : List Frame} {meth : Method} {c : Code} {T : State} {locs : List Loc} {cells slots : Nat} {h h0 : Heap} {k0 : Nat}
    {Q : Option Value → Heap → List Loc → Prop} {C S : Nat} {pc : Nat} {Ls : Array Slot} {w : Value} {rest : List Value} {t : FieldType} {i : Instr}
    (X : Stand p l e R (s.setVm vm1) m args below meth c T locs cells slots) (hlk : meth.locks = false) (hx : p.tables.exec = Jvm.exec) (hret : meth.sig.returnType = some t) (hn : narrow t w = w)
    (hi : (i = .ireturn ∧ (t = .int ∨ t = .boolean ∨ t = .byte ∨ t = .char ∨ t = .short) ∧ ∃ z, w = .int z) ∨ (i = .lreturn ∧ t = .long ∧ ∃ z, w = .long z) ∨ (i = .dreturn ∧ t = .double ∧ ∃ z, w = .double z) ∨ (i = .freturn ∧ t = .float ∧ ∃ z, w = .float z) ∨ (i = .areturn ∧ t.isReference = true ∧ w.isRef = true))
    (hd : decode c.code pc = .ok (i, 1)) (eT : T.heap = h) (hS : s.Since vm1 k0) (hk : k0 ≤ h.size) (hZ : Z.Warmed39 vm1) (hEL : EW Z a0 EL) (cr : CHr Z EL s.vm h0 vm1 h) (hh : s.heap = h0) (hQ : Q (some w) h locs) (hc : cells ≤ C) (hl : slots ≤ S) : Go p e below (DoneW s Z EL Q C S) T (mkF m pc Ls (w :: rest)) :=
  GoW.ret X hlk (fun h => by rw [hret] at h; cases h) (fun _ hr => retOut X hx hret hn hi hd hr) eT hS hk hZ hEL cr hh hQ hc hl
theorem GoW.ret0 {p : Program} {l : Launch} {e : Env} {R : Room} {s Z : State} {a0 : Array Value} {EL : List (String × Nat)} {vm1 : Vm} {m : MethodId} {args : Array Value} {below : List Frame} {meth : Method} {c : Code} {T : State} {locs : List Loc} {cells slots : Nat} {h h0 : Heap} {k0 : Nat}
    {Q : Option Value → Heap → List Loc → Prop} {C S : Nat} {pc : Nat} {Ls : Array Slot}
    (X : Stand p l e R (s.setVm vm1) m args below meth c T locs cells slots) (hlk : meth.locks = false) (hx : p.tables.exec = Jvm.exec) (hret : meth.sig.returnType = none)
    (hd : decode c.code pc = .ok (.return_, 1)) (eT : T.heap = h) (hS : s.Since vm1 k0) (hk : k0 ≤ h.size) (hZ : Z.Warmed39 vm1) (hEL : EW Z a0 EL) (cr : CHr Z EL s.vm h0 vm1 h) (hh : s.heap = h0) (hQ : Q none h locs) (hc : cells ≤ C) (hl : slots ≤ S) : Go p e below (DoneW s Z EL Q C S) T (mkF m pc Ls []) :=
  GoW.ret X hlk (fun _ => rfl) (fun _ hr => X.returnOut hx hret hd hr) eT hS hk hZ hEL cr hh hQ hc hl
/-- the form of a contract of a body that may load String constants -/
def ConW (l : Launch) (Z : State) (EL : List (String × Nat)) (y : MethodName) (bytes : ByteArray) (ml : Nat) (ret : Option FieldType) (ws : List Jvm.Cond) (room : Room) (A : Array Value) (h0 : Heap) (Q : Option Value → Heap → List Loc → Prop) : Prop :=
  MetFree l y (head1 (Jvm.Cond.code y bytes ml ret :: ws) room) (fun a U => a = A ∧ Z.Warmed39 U.vm ∧ U.heap = h0 ∧ CHv Z EL U.vm h0) (fun _ _ _ _ _ => True) (fun _ U o U' => ∃ v L, o = .returned v ∧ Q v U'.heap L ∧ CHr Z EL U.vm U.heap U'.vm U'.heap ∧ ReturnedEndW U o U' L room.cells room.slots)
theorem own_bodyW {l : Launch} {Z : State} {EL : List (String × Nat)} {y : MethodName} {bytes : ByteArray} {ml : Nat} {ret : Option FieldType} {ws : List Jvm.Cond} {room : Room} {A : Array Value} {h0 : Heap} {Q : Option Value → Heap → List Loc → Prop} (hpn : plainFor y = true)
    (body : ∀ (p : Program) (e : Env) (s : State) (m : MethodId) (below : List Frame) (meth : Method) (c : Code) (s₁ : State), p.tables.exec = Jvm.exec → c.code = bytes → c.maxLocals = ml → Z.Warmed39 s.vm → s.vm.findClass y.cls = some m.cls → meth.name = y.name → meth.locks = false → meth.sig.returnType = ret →
      Stand p l e room (s.setVm s.vm) m A below meth c s₁ [] 0 0 → s₁.heap = h0 → s.heap = h0 → s.Since s.vm 0 → CHr Z EL s.vm h0 s.vm h0 → Go p e below (DoneW s Z EL Q room.cells room.slots) s₁ (entryFrame m A ml)) : ConW l Z EL y bytes ml ret ws room A h0 Q := by
  refine MetFree.of_bodySF hpn hisR ?_
  intro p e s m args below meth c s₁ Bd hml0 hP hK
  obtain ⟨rfl, hZ, hh, hC⟩ := hP
  exact body p e s m below meth c s₁ Bd.exec Bd.bytes hml0 hZ (findClass_of_methodNamed Bd.named) (name_of_methodNamed Bd.named Bd.method).1 Bd.notSynchronized Bd.returns (Stand.of_body Bd) (by rw [← hh, Bd.state]; rfl) hh ((State.WarmedH.refl s).since 0) (CHr.refl hC)
theorem own_backW {l : Launch} {R : Room} {p : Program} {e : Env} {below : List Frame} {s Z : State} {args a0 : Array Value} {EL : List (String × Nat)} {vm0 : Vm} {h : Heap} {y : MethodName} {bytes : ByteArray} {maxL : Nat} {ret : Option FieldType} {rm : Room} {len W : Nat} {as' : Array Value} {Q : Option Value → Heap → List Loc → Prop}
    (hM : ConW l Z EL y bytes maxL ret [] rm as' h Q) (hZ : Z.Warmed39 vm0) (wc : (Cond.code y bytes maxL ret).before a0 Z = true) (wz : (Cond.initialized y.cls).before a0 Z = true) (hf : rm.frames + 1 ≤ R.frames) (hl : W + (maxL + 11) + rm.locals ≤ R.locals) (hEL : EW Z a0 EL) (H : CHv Z EL vm0 h) :
    BackS l R p e below (s.setVm vm0) args y len W (fun A a => a = as' ∧ A.U.heap = h ∧ A.cells + rm.cells ≤ R.cells ∧ A.slots + rm.slots ≤ R.slots)
      (fun A _ v B => ∃ L, Q v B.U.heap L ∧ B.locs = A.locs ++ L ∧ B.cells = A.cells + rm.cells ∧ B.slots = A.slots + rm.slots ∧ CHr Z EL vm0 h B.U.vm B.U.heap) := backOfSH (Q := Q) hM hZ wc wz hf hl hEL H
/-- a String whose value is not yet written is no literal's -/
theorem own_safe0 {Z : State} {EL : List (String × Nat)} {vm : Vm} {h : Heap} {x : Addr} (hal : Z.vm.Alike vm) (E : Exa Z h x "java/lang/String") (F : Fld Z h x "java/lang/String" "value" "[B" .null) : Safe Z EL vm h x := fun B => by
  obtain ⟨cell, k, e1, e2, e3, -, -⟩ := E
  obtain ⟨cell', cf, kf, i, f, f1, f2, f3, -, -, -, f7⟩ := F
  cases e1.symm.trans f1
  obtain ⟨p, -, u, a, -, q, -, G, rfl | rfl⟩ := B
  · cases (show h[q.sa]? = some q.sC from G.ha).symm.trans e1
    obtain ⟨cS, ⟨⟨s1, s2, s3, ⟨cv, kv, iv, s4, s4'⟩, r5, s6, s7, s8, -⟩, -, -⟩, -⟩ := G
    obtain ⟨kv', z4⟩ := ff_back (Z := Z) (U := Wst Z vm h) hal s4
    cases f2.symm.trans z4
    have := s8.symm.trans f7
    cases this
  · cases (show h[q.sd]? = some q.SA from G.hd).symm.trans e1
    obtain ⟨cS, -, -, fB, -⟩ := G
    have fB' : Z.vm.findClass "[B" = some q.SA.cls := by rw [← hal.findClass]; exact fB
    exact ids_ne e2 fB' (by decide) rfl

theorem ww {a0 : Array Value} {Z : State} (hw : ∀ d ∈ tables_1, d.before a0 Z = true) (i : Nat) {d : Jvm.Cond} (h : tables_1[i]? = some d) : d.before a0 Z = true := hw d (List.mem_of_getElem? h)
def World1 (Z : State) (w_ERROR : Addr) (w_WARNING : Addr) (i_COMPACT_STRINGS : Int32) (v_SIOOBE_FORMATTER : Value) : Prop :=
  Sta Z Z.heap "java/lang/String" "COMPACT_STRINGS" "Z" (.int i_COMPACT_STRINGS) ∧
  ¬ i_COMPACT_STRINGS = (0 : Int32) ∧
  Sta Z Z.heap "jdk/internal/util/Preconditions" "SIOOBE_FORMATTER" "Ljava/util/function/BiFunction;" v_SIOOBE_FORMATTER ∧
  v_SIOOBE_FORMATTER.isRef = true ∧
  Sta Z Z.heap "com/example/hearsay_rules/hearsayrules/Problem$Severity" "ERROR" "Lcom/example/hearsay_rules/hearsayrules/Problem$Severity;" (.ref w_ERROR) ∧
  Exa Z Z.heap w_ERROR "com/example/hearsay_rules/hearsayrules/Problem$Severity" ∧
  Sta Z Z.heap "com/example/hearsay_rules/hearsayrules/Problem$Severity" "WARNING" "Lcom/example/hearsay_rules/hearsayrules/Problem$Severity;" (.ref w_WARNING) ∧
  Exa Z Z.heap w_WARNING "com/example/hearsay_rules/hearsayrules/Problem$Severity"
abbrev EL : List (String × Nat) := consts_1
theorem own_EL {Z : State} {a0 : Array Value} (hw : ∀ d ∈ tables_1, d.before a0 Z = true) : EW Z a0 EL := (EW.cons (hw _ (List.mem_of_getElem? (i := 125) rfl)) (by decide) (EW.cons (hw _ (List.mem_of_getElem? (i := 21) rfl)) (by decide) EW.nil))
theorem own_wS {Z : State} {a0 : Array Value} (hw : ∀ d ∈ tables_1, d.before a0 Z = true) : ∀ a ∈ Bundle.stringAtoms, a.before a0 Z = true := by
  intro a ha
  simp only [Bundle.stringAtoms, Bundle.sN, List.mem_cons, List.not_mem_nil, or_false] at ha
  rcases ha with rfl | rfl | rfl | rfl | rfl | rfl | rfl
  · exact (ww hw 9 rfl)
  · exact (ww hw 8 rfl)
  · exact (ww hw 22 rfl)
  · exact (ww hw 23 rfl)
  · exact (ww hw 24 rfl)
  · exact (ww hw 25 rfl)
  · exact (ww hw 26 rfl)
theorem pn_java_lang_StringUTF16 : plainName "java/lang/StringUTF16" = true := by first | (simp [plainName, overriddenIn]; done) | decide +kernel
theorem d37_0 : decode jdk_52_method_21_code 0 = .ok (.iconst 0, 1) := by decide +kernel
theorem d37_1 : decode jdk_52_method_21_code 1 = .ok (.istore 5, 2) := by decide +kernel
theorem d37_3 : decode jdk_52_method_21_code 3 = .ok (.iload 5, 2) := by decide +kernel
theorem d37_5 : decode jdk_52_method_21_code 5 = .ok (.iload 4, 2) := by decide +kernel
theorem d37_7 : decode jdk_52_method_21_code 7 = .ok (.if_icmp .ge 37, 3) := by decide +kernel
theorem d37_10 : decode jdk_52_method_21_code 10 = .ok (.aload_n 0, 1) := by decide +kernel
theorem d37_11 : decode jdk_52_method_21_code 11 = .ok (.iload_n 1, 1) := by decide +kernel
theorem d37_12 : decode jdk_52_method_21_code 12 = .ok (.caload, 1) := by decide +kernel
theorem d37_13 : decode jdk_52_method_21_code 13 = .ok (.istore 6, 2) := by decide +kernel
theorem d37_15 : decode jdk_52_method_21_code 15 = .ok (.iload 6, 2) := by decide +kernel
theorem d37_17 : decode jdk_52_method_21_code 17 = .ok (.sipush 255, 3) := by decide +kernel
theorem d37_20 : decode jdk_52_method_21_code 20 = .ok (.if_icmp .le 6, 3) := by decide +kernel
theorem d37_26 : decode jdk_52_method_21_code 26 = .ok (.aload_n 2, 1) := by decide +kernel
theorem d37_27 : decode jdk_52_method_21_code 27 = .ok (.iload_n 3, 1) := by decide +kernel
theorem d37_28 : decode jdk_52_method_21_code 28 = .ok (.iload 6, 2) := by decide +kernel
theorem d37_30 : decode jdk_52_method_21_code 30 = .ok (.i2b, 1) := by decide +kernel
theorem d37_31 : decode jdk_52_method_21_code 31 = .ok (.bastore, 1) := by decide +kernel
theorem d37_32 : decode jdk_52_method_21_code 32 = .ok (.iinc 1 1, 3) := by decide +kernel
theorem d37_35 : decode jdk_52_method_21_code 35 = .ok (.iinc 3 1, 3) := by decide +kernel
theorem d37_38 : decode jdk_52_method_21_code 38 = .ok (.iinc 5 1, 3) := by decide +kernel
theorem d37_41 : decode jdk_52_method_21_code 41 = .ok (.goto (-38), 3) := by decide +kernel
theorem d37_44 : decode jdk_52_method_21_code 44 = .ok (.iload 4, 2) := by decide +kernel
theorem d37_46 : decode jdk_52_method_21_code 46 = .ok (.ireturn, 1) := by decide +kernel
set_option maxRecDepth 65536 in
set_option maxHeartbeats 40000000 in
theorem st5_1 (l : Launch) (Z : State) (a0 : Array Value) (hw : ∀ d ∈ tables_1, d.before a0 Z = true) (ws : List Jvm.Cond) (a2 : Addr) (k2 : ClassId) (a1 : Addr) (k1 : ClassId) (c0 : Int32) (h0 : Heap) (n0 : Nat) (O0 : Old Z n0 h0) (hc_c0 : ¬ (255 : Int32) < c0) (ne12 : a1 ≠ a2) (g_a2 : n0 ≤ a2) (V_a1 : Arv Z h0 a1 k1 .char (1 : Int32) [(.int c0)] (.int 0)) (V_a2 : Arv Z h0 a2 k2 .byte (1 : Int32) [(.int 0)] (.int 0)) :
    Con l Z (⟨"java/lang/StringUTF16", "compress", "([CI[BII)I"⟩ : MethodName) jdk_52_method_21_code 7 (some .int) ws ({ frames := 0, cells := 0, slots := 0, locals := 0 } : Room) #[(.ref a1), (.int 0), (.ref a2), (.int 0), (.int 1)] h0 (fun v h L => v = some (.int 1) ∧ Fr n0 L ∧ Keep h0 h [a2] ∧ Arv Z h a2 k2 .byte (1 : Int32) [(.int (nar .byte (c0.toInt8.toInt32)))] (.int 0)) := by
  refine own_body (plainFor_of_name pn_java_lang_StringUTF16) ?_
  intro p e s m below meth c s₁ hx hby hml hZ hown hnm hlk hret X0 e0
  have N0 := Fr.nil n0
  have K0 : Keep h0 h0 [a2] := Keep.refl _ _
  refine Go.st (T' := s₁) (f' := (mkF m 0 #[rv a1, iv 0, rv a2, iv 0, iv 1, .unset, .unset] [])) (fun _ k => castTop (by first | (simp [entryFrame, mkF, argsToLocals, Value.category]; done) | rfl) k) ?_
  have lt_a1 := V_a1.lt
  have lt_a2 := V_a2.lt
  refine Go.st (f' := (mkF m 1 #[rv a1, iv 0, rv a2, iv 0, iv 1, .unset, .unset] [(.int 0)])) (fun _ k => XS.iconst X0.here hx rfl (hb hby d37_0) k) ?_
  refine Go.st (f' := (mkF m 3 #[rv a1, iv 0, rv a2, iv 0, iv 1, iv 0, .unset] [])) (fun _ k => XS.istore X0.here hx rfl (hb hby d37_1) rfl (l' := #[rv a1, iv 0, rv a2, iv 0, iv 1, iv 0, .unset]) rfl k) ?_
  refine Go.st (f' := (mkF m 5 #[rv a1, iv 0, rv a2, iv 0, iv 1, iv 0, .unset] [(.int 0)])) (fun _ k => XS.iload X0.here hx rfl (hb hby d37_3) rfl k) ?_
  refine Go.st (f' := (mkF m 7 #[rv a1, iv 0, rv a2, iv 0, iv 1, iv 0, .unset] [(.int 1), (.int 0)])) (fun _ k => XS.iload X0.here hx rfl (hb hby d37_5) rfl k) ?_
  refine Go.st (f' := (mkF m 10 #[rv a1, iv 0, rv a2, iv 0, iv 1, iv 0, .unset] [])) (fun _ k => XS.icmpNo X0.here hx rfl (hb hby d37_7) rfl (by decide) k) ?_
  refine Go.st (f' := (mkF m 11 #[rv a1, iv 0, rv a2, iv 0, iv 1, iv 0, .unset] [(.ref a1)])) (fun _ k => XS.aloadN X0.here hx rfl (hb hby d37_10) rfl rfl k) ?_
  refine Go.st (f' := (mkF m 12 #[rv a1, iv 0, rv a2, iv 0, iv 1, iv 0, .unset] [(.int 0), (.ref a1)])) (fun _ k => XS.iloadN X0.here hx rfl (hb hby d37_11) rfl k) ?_
  obtain ⟨cl1, Ar1, -, S1, -, H1, -⟩ := id V_a1
  have hin1 : ¬ ((0 : Int32) < 0 ∨ cl1.slots.size ≤ ((0 : Int32)).toNatClampNeg) := inb_of S1 ⟨by decide, by decide⟩
  have hat1 : cl1.slots[((0 : Int32)).toNatClampNeg]? = some (.int c0) := H1.at hin1 rfl
  refine Go.st (f' := (mkF m 13 #[rv a1, iv 0, rv a2, iv 0, iv 1, iv 0, .unset] [(.int c0)])) (fun _ k => X0.caload hx (j := (0 : Int32)) (v := (.int c0)) (by rw [e0]; exact Ar1.1) (State.isArrayOf_alike hZ.alike Ar1.2.1) Ar1.2.2 hin1 hat1 (g := (mkF m 12 #[rv a1, iv 0, rv a2, iv 0, iv 1, iv 0, .unset] [(.int 0), (.ref a1)])) rfl rfl (hb hby d37_12) _ k) ?_
  refine Go.st (f' := (mkF m 15 #[rv a1, iv 0, rv a2, iv 0, iv 1, iv 0, iv c0] [])) (fun _ k => XS.istore X0.here hx rfl (hb hby d37_13) rfl (l' := #[rv a1, iv 0, rv a2, iv 0, iv 1, iv 0, iv c0]) rfl k) ?_
  refine Go.st (f' := (mkF m 17 #[rv a1, iv 0, rv a2, iv 0, iv 1, iv 0, iv c0] [(.int c0)])) (fun _ k => XS.iload X0.here hx rfl (hb hby d37_15) rfl k) ?_
  refine Go.st (f' := (mkF m 20 #[rv a1, iv 0, rv a2, iv 0, iv 1, iv 0, iv c0] [(.int 255), (.int c0)])) (fun _ k => XS.sipush X0.here hx rfl (hb hby d37_17) k) ?_
  refine Go.st (f' := (mkF m 26 #[rv a1, iv 0, rv a2, iv 0, iv 1, iv 0, iv c0] [])) (fun _ k => XS.icmpYes X0.here hx rfl (pc0 := 20) (pc' := 26) rfl (hb hby d37_20) rfl (flt hc_c0).2.2.2 (by decide) (by decide) k) ?_
  refine Go.st (f' := (mkF m 27 #[rv a1, iv 0, rv a2, iv 0, iv 1, iv 0, iv c0] [(.ref a2)])) (fun _ k => XS.aloadN X0.here hx rfl (hb hby d37_26) rfl rfl k) ?_
  refine Go.st (f' := (mkF m 28 #[rv a1, iv 0, rv a2, iv 0, iv 1, iv 0, iv c0] [(.int 0), (.ref a2)])) (fun _ k => XS.iloadN X0.here hx rfl (hb hby d37_27) rfl k) ?_
  refine Go.st (f' := (mkF m 30 #[rv a1, iv 0, rv a2, iv 0, iv 1, iv 0, iv c0] [(.int c0), (.int 0), (.ref a2)])) (fun _ k => XS.iload X0.here hx rfl (hb hby d37_28) rfl k) ?_
  refine Go.st (f' := (mkF m 31 #[rv a1, iv 0, rv a2, iv 0, iv 1, iv 0, iv c0] [(.int (c0.toInt8.toInt32)), (.int 0), (.ref a2)])) (fun _ k => XS.i2b X0.here hx rfl (hb hby d37_30) rfl k) ?_
  obtain ⟨cl2, Ar2, q2, S2, Nx2, H2, G2⟩ := id V_a2
  have hin2 : ¬ ((0 : Int32) < 0 ∨ cl2.slots.size ≤ ((0 : Int32)).toNatClampNeg) := inb_of S2 ⟨by decide, by decide⟩
  obtain ⟨T3, h3, X3, e3, W3, st3⟩ := stB X0 hx hZ e0 Ar2 (j := (0 : Int32)) hin2 (g := (mkF m 31 #[rv a1, iv 0, rv a2, iv 0, iv 1, iv 0, iv c0] [(.int (c0.toInt8.toInt32)), (.int 0), (.ref a2)])) rfl rfl (hb hby d37_31)
  have V_a2_3 : Arv Z h3 a2 k2 .byte (1 : Int32) [(.int (nar .byte (c0.toInt8.toInt32)))] (.int (0 : Int32)) := Arv.set Ar2 q2 S2 Nx2 H2 G2 (fits_nar_byte _) W3 0 rfl (Nat.le_of_ble_eq_true rfl)
  have N3 := Fr.snoc X3 N0 g_a2
  have O3 : Old Z n0 h3 := O0.wr W3 g_a2
  have K3 : Keep h0 h3 [a2] := K0.wr W3 (Or.inl (List.mem_of_getElem? (i := 0) rfl))
  refine Go.st (f' := (mkF m 32 #[rv a1, iv 0, rv a2, iv 0, iv 1, iv 0, iv c0] [])) (fun _ k => st3 _ k) ?_
  refine Go.st (f' := (mkF m 35 #[rv a1, iv 1, rv a2, iv 0, iv 1, iv 0, iv c0] [])) (fun _ k => XS.iinc X3.here hx rfl (hb hby d37_32) rfl (l' := #[rv a1, iv 1, rv a2, iv 0, iv 1, iv 0, iv c0]) rfl k) ?_
  refine Go.st (f' := (mkF m 38 #[rv a1, iv 1, rv a2, iv 1, iv 1, iv 0, iv c0] [])) (fun _ k => XS.iinc X3.here hx rfl (hb hby d37_35) rfl (l' := #[rv a1, iv 1, rv a2, iv 1, iv 1, iv 0, iv c0]) rfl k) ?_
  refine Go.st (f' := (mkF m 41 #[rv a1, iv 1, rv a2, iv 1, iv 1, iv 1, iv c0] [])) (fun _ k => XS.iinc X3.here hx rfl (hb hby d37_38) rfl (l' := #[rv a1, iv 1, rv a2, iv 1, iv 1, iv 1, iv c0]) rfl k) ?_
  refine Go.st (f' := (mkF m 3 #[rv a1, iv 1, rv a2, iv 1, iv 1, iv 1, iv c0] [])) (fun _ k => XS.goto X3.here hx rfl (pc0 := 41) (pc' := 3) rfl (hb hby d37_41) (by decide) (by decide) k) ?_
  refine Go.st (f' := (mkF m 5 #[rv a1, iv 1, rv a2, iv 1, iv 1, iv 1, iv c0] [(.int 1)])) (fun _ k => XS.iload X3.here hx rfl (hb hby d37_3) rfl k) ?_
  refine Go.st (f' := (mkF m 7 #[rv a1, iv 1, rv a2, iv 1, iv 1, iv 1, iv c0] [(.int 1), (.int 1)])) (fun _ k => XS.iload X3.here hx rfl (hb hby d37_5) rfl k) ?_
  refine Go.st (f' := (mkF m 44 #[rv a1, iv 1, rv a2, iv 1, iv 1, iv 1, iv c0] [])) (fun _ k => XS.icmpYes X3.here hx rfl (pc0 := 7) (pc' := 44) rfl (hb hby d37_7) rfl (by decide) (by decide) (by decide) k) ?_
  refine Go.st (f' := (mkF m 46 #[rv a1, iv 1, rv a2, iv 1, iv 1, iv 1, iv c0] [(.int 1)])) (fun _ k => XS.iload X3.here hx rfl (hb hby d37_44) rfl k) ?_
  refine Go.retV X3 hlk hx (t := .int) hret rfl (Or.inl ⟨rfl, Or.inl rfl, _, rfl⟩) (hb hby d37_46) e3 ?_ (by decide) (by decide)
  exact ⟨rfl, N3, K3, V_a2_3⟩
theorem d36_0 : decode jdk_52_method_16_code 0 = .ok (.iload_n 2, 1) := by decide +kernel
theorem d36_1 : decode jdk_52_method_16_code 1 = .ok (.newarray .byte, 2) := by decide +kernel
theorem d36_3 : decode jdk_52_method_16_code 3 = .ok (.astore_n 3, 1) := by decide +kernel
theorem d36_4 : decode jdk_52_method_16_code 4 = .ok (.aload_n 0, 1) := by decide +kernel
theorem d36_5 : decode jdk_52_method_16_code 5 = .ok (.iload_n 1, 1) := by decide +kernel
theorem d36_6 : decode jdk_52_method_16_code 6 = .ok (.aload_n 3, 1) := by decide +kernel
theorem d36_7 : decode jdk_52_method_16_code 7 = .ok (.iconst 0, 1) := by decide +kernel
theorem d36_8 : decode jdk_52_method_16_code 8 = .ok (.iload_n 2, 1) := by decide +kernel
theorem d36_9 : decode jdk_52_method_16_code 9 = .ok (.invokestatic 115, 3) := by decide +kernel
theorem pd___CI_BII_I : parseMethodDescriptor "([CI[BII)I" = some ⟨[(.array .char), .int, (.array .byte), .int, .int], some .int⟩ := by decide +kernel
theorem d36_12 : decode jdk_52_method_16_code 12 = .ok (.istore 4, 2) := by decide +kernel
theorem d36_14 : decode jdk_52_method_16_code 14 = .ok (.iload 4, 2) := by decide +kernel
theorem d36_16 : decode jdk_52_method_16_code 16 = .ok (.iload_n 2, 1) := by decide +kernel
theorem d36_17 : decode jdk_52_method_16_code 17 = .ok (.if_icmp .eq 40, 3) := by decide +kernel
theorem d36_57 : decode jdk_52_method_16_code 57 = .ok (.aload_n 3, 1) := by decide +kernel
theorem d36_58 : decode jdk_52_method_16_code 58 = .ok (.areturn, 1) := by decide +kernel
set_option maxRecDepth 65536 in
set_option maxHeartbeats 40000000 in
theorem st3_1 (l : Launch) (Z : State) (a0 : Array Value) (hw : ∀ d ∈ tables_1, d.before a0 Z = true) (ws : List Jvm.Cond) (a1 : Addr) (k1 : ClassId) (c0 : Int32) (h0 : Heap) (n0 : Nat) (O0 : Old Z n0 h0) (hc_c0 : ¬ (255 : Int32) < c0) (V_a1 : Arv Z h0 a1 k1 .char (1 : Int32) [(.int c0)] (.int 0)) :
    Con l Z (⟨"java/lang/StringUTF16", "compress", "([CII)[B"⟩ : MethodName) jdk_52_method_16_code 6 (some (.array .byte)) ws ({ frames := 1, cells := 1, slots := 1, locals := 18 } : Room) #[(.ref a1), (.int 0), (.int 1)] h0 (fun v h L => ∃ (b : Addr) (kb : ClassId), v = some (.ref b) ∧ Fr n0 L ∧ h0.size ≤ b ∧ Keep h0 h [] ∧ Arv Z h b kb .byte (1 : Int32) [(.int (nar .byte (c0.toInt8.toInt32)))] (.int 0)) := by
  refine own_body (plainFor_of_name pn_java_lang_StringUTF16) ?_
  intro p e s m below meth c s₁ hx hby hml hZ hown hnm hlk hret X0 e0
  have N0 := Fr.nil n0
  have K0 : Keep h0 h0 [] := Keep.refl _ _
  refine Go.st (T' := s₁) (f' := (mkF m 0 #[rv a1, iv 0, iv 1, .unset, .unset, .unset] [])) (fun _ k => castTop (by first | (simp [entryFrame, mkF, argsToLocals, Value.category]; done) | rfl) k) ?_
  have lt_a1 := V_a1.lt
  refine Go.st (f' := (mkF m 1 #[rv a1, iv 0, iv 1, .unset, .unset, .unset] [(.int 1)])) (fun _ k => XS.iloadN X0.here hx rfl (hb hby d36_0) rfl k) ?_
  obtain ⟨T1, h1, kc1, X1, e1, E1, A1, st1⟩ := newP X0 hx hZ (ww hw 22 rfl) e0 (g := (mkF m 1 #[rv a1, iv 0, iv 1, .unset, .unset, .unset] [(.int 1)])) rfl (hb hby d36_1) rfl (by decide) (cap := 1) (by decide) (by decide) (by decide) (by decide)
  obtain ⟨b1, g1⟩ : ∃ z, z = h0.size := ⟨_, rfl⟩
  rw [← g1] at A1 st1
  have ne_a1_b1 : a1 ≠ b1 := Nat.ne_of_lt (Nat.lt_of_lt_of_eq lt_a1 g1.symm)
  have g_b1 : n0 ≤ b1 := Nat.le_trans (O0.1 ▸ O0.2.1) (Nat.le_of_eq g1.symm)
  have O1 : Old Z n0 h1 := O0.ext E1
  have sz_b1 : h0.size ≤ b1 := Nat.le_trans K0.1 (Nat.le_of_eq g1.symm)
  have K1 : Keep h0 h1 [] := K0.ext E1
  have V_b1 : Arv Z h1 b1 kc1 .byte (1 : Int32) [(.int (0 : Int32))] (.int (0 : Int32)) := (Arv.new A1 (by decide)).pad (pad_rep [] (.int (0 : Int32)) 1)
  have lt_b1 := V_b1.lt
  refine Go.st (f' := (mkF m 3 #[rv a1, iv 0, iv 1, .unset, .unset, .unset] [(.ref b1)])) (fun _ k => st1 _ k) ?_
  refine Go.st (f' := (mkF m 4 #[rv a1, iv 0, iv 1, rv b1, .unset, .unset] [])) (fun _ k => XS.astoreN X1.here hx rfl (hb hby d36_3) rfl rfl (l' := #[rv a1, iv 0, iv 1, rv b1, .unset, .unset]) rfl k) ?_
  refine Go.st (f' := (mkF m 5 #[rv a1, iv 0, iv 1, rv b1, .unset, .unset] [(.ref a1)])) (fun _ k => XS.aloadN X1.here hx rfl (hb hby d36_4) rfl rfl k) ?_
  refine Go.st (f' := (mkF m 6 #[rv a1, iv 0, iv 1, rv b1, .unset, .unset] [(.int 0), (.ref a1)])) (fun _ k => XS.iloadN X1.here hx rfl (hb hby d36_5) rfl k) ?_
  refine Go.st (f' := (mkF m 7 #[rv a1, iv 0, iv 1, rv b1, .unset, .unset] [(.ref b1), (.int 0), (.ref a1)])) (fun _ k => XS.aloadN X1.here hx rfl (hb hby d36_6) rfl rfl k) ?_
  refine Go.st (f' := (mkF m 8 #[rv a1, iv 0, iv 1, rv b1, .unset, .unset] [(.int 0), (.ref b1), (.int 0), (.ref a1)])) (fun _ k => XS.iconst X1.here hx rfl (hb hby d36_7) k) ?_
  refine Go.st (f' := (mkF m 9 #[rv a1, iv 0, iv 1, rv b1, .unset, .unset] [(.int 1), (.int 0), (.ref b1), (.int 0), (.ref a1)])) (fun _ k => XS.iloadN X1.here hx rfl (hb hby d36_8) rfl k) ?_
  have ft3 := (V_a1.ext E1)
  obtain ⟨_, _, ⟨T2, L2, kk2, nn2⟩, -, X2, ⟨Lc2, hQ2, lq2, yq2, zz2⟩, st2⟩ := Jvm.LawKit.callS X1 hx (y := (⟨"java/lang/StringUTF16", "compress", "([CI[BII)I"⟩ : MethodName)) hown (mvT hZ (ww hw 201 rfl)) (mvT hZ (ww hw 202 rfl)) (mvT hZ (ww hw 199 rfl)) (mvT hZ (ww hw 203 rfl)) (by decide) (own_back (W := 0) (st5_1 l Z a0 hw [] b1 kc1 a1 k1 c0 h1 n0 O1 hc_c0 ne_a1_b1 g_b1 ft3 V_b1) hZ (ww hw 203 rfl) (ww hw 199 rfl) (by decide) (by decide)) (g := (mkF m 9 #[rv a1, iv 0, iv 1, rv b1, .unset, .unset] [(.int 1), (.int 0), (.ref b1), (.int 0), (.ref a1)])) rfl (by rw [hml]; rfl) (argsL := [(.ref a1), (.int (0 : Int32)), (.ref b1), (.int (0 : Int32)), (.int (1 : Int32))]) (rest := []) (lenOf pd___CI_BII_I rfl) rfl (by show 2 * 0 + _ ≤ _; exact Nat.le_of_eq rfl) (hb hby d36_9) (fun _ _ => ⟨rfl, e1, (by decide : 1 + 0 ≤ _), (by decide : 1 + 0 ≤ _)⟩)
  dsimp only [Pt.U, Pt.locs, Pt.cells, Pt.slots] at X2 lq2 yq2 zz2 st2 hQ2
  subst lq2 yq2 zz2
  obtain ⟨rfl, Nq2, kq2, vq2⟩ := hQ2
  have N2 := Fr.app N0 Nq2
  have O2 : Old Z n0 T2.heap := O1.keep kq2 (allS g_b1 all0)
  have K2 : Keep h0 T2.heap [] := K1.trans kq2 (allS (Or.inr sz_b1) all0)
  refine Go.st (f' := (mkF m 12 #[rv a1, iv 0, iv 1, rv b1, .unset, .unset] [(.int 1)])) (fun _ k => st2 _ k) ?_
  refine Go.st (f' := (mkF m 14 #[rv a1, iv 0, iv 1, rv b1, iv 1, .unset] [])) (fun _ k => XS.istore X2.here hx rfl (hb hby d36_12) rfl (l' := #[rv a1, iv 0, iv 1, rv b1, iv 1, .unset]) rfl k) ?_
  refine Go.st (f' := (mkF m 16 #[rv a1, iv 0, iv 1, rv b1, iv 1, .unset] [(.int 1)])) (fun _ k => XS.iload X2.here hx rfl (hb hby d36_14) rfl k) ?_
  refine Go.st (f' := (mkF m 17 #[rv a1, iv 0, iv 1, rv b1, iv 1, .unset] [(.int 1), (.int 1)])) (fun _ k => XS.iloadN X2.here hx rfl (hb hby d36_16) rfl k) ?_
  refine Go.st (f' := (mkF m 57 #[rv a1, iv 0, iv 1, rv b1, iv 1, .unset] [])) (fun _ k => XS.icmpYes X2.here hx rfl (pc0 := 17) (pc' := 57) rfl (hb hby d36_17) rfl (by decide) (by decide) (by decide) k) ?_
  refine Go.st (f' := (mkF m 58 #[rv a1, iv 0, iv 1, rv b1, iv 1, .unset] [(.ref b1)])) (fun _ k => XS.aloadN X2.here hx rfl (hb hby d36_57) rfl rfl k) ?_
  refine Go.retV X2 hlk hx (t := (.array .byte)) hret rfl (Or.inr (Or.inr (Or.inr (Or.inr ⟨rfl, rfl, rfl⟩)))) (hb hby d36_58) rfl ?_ (by decide) (by decide)
  exact ⟨b1, kc1, rfl, N2, sz_b1, K2, vq2⟩
theorem d38_0 : decode jdk_52_method_15_code 0 = .ok (.iload_n 1, 1) := by decide +kernel
theorem d38_1 : decode jdk_52_method_15_code 1 = .ok (.aload_n 0, 1) := by decide +kernel
theorem d38_2 : decode jdk_52_method_15_code 2 = .ok (.arraylength, 1) := by decide +kernel
theorem d38_3 : decode jdk_52_method_15_code 3 = .ok (.isub, 1) := by decide +kernel
theorem d38_4 : decode jdk_52_method_15_code 4 = .ok (.bipush 31, 2) := by decide +kernel
theorem d38_6 : decode jdk_52_method_15_code 6 = .ok (.iushr, 1) := by decide +kernel
theorem d38_7 : decode jdk_52_method_15_code 7 = .ok (.i2b, 1) := by decide +kernel
theorem d38_8 : decode jdk_52_method_15_code 8 = .ok (.ireturn, 1) := by decide +kernel
set_option maxRecDepth 65536 in
set_option maxHeartbeats 40000000 in
theorem stc_1 (l : Launch) (Z : State) (a0 : Array Value) (hw : ∀ d ∈ tables_1, d.before a0 Z = true) (ws : List Jvm.Cond) (a1 : Addr) (k1 : ClassId) (x0 : Int32) (h0 : Heap) (n0 : Nat) (O0 : Old Z n0 h0) (V_a1 : Arv Z h0 a1 k1 .byte (1 : Int32) [(.int x0)] (.int 0)) :
    Con l Z (⟨"java/lang/StringUTF16", "coderFromArrayLen", "([BI)B"⟩ : MethodName) jdk_52_method_15_code 2 (some .byte) ws ({ frames := 0, cells := 0, slots := 0, locals := 0 } : Room) #[(.ref a1), (.int 1)] h0 (fun v h L => v = some (.int 0) ∧ Fr n0 L ∧ h = h0) := by
  refine own_body (plainFor_of_name pn_java_lang_StringUTF16) ?_
  intro p e s m below meth c s₁ hx hby hml hZ hown hnm hlk hret X0 e0
  have N0 := Fr.nil n0
  refine Go.st (T' := s₁) (f' := (mkF m 0 #[rv a1, iv 1] [])) (fun _ k => castTop (by first | (simp [entryFrame, mkF, argsToLocals, Value.category]; done) | rfl) k) ?_
  have lt_a1 := V_a1.lt
  refine Go.st (f' := (mkF m 1 #[rv a1, iv 1] [(.int 1)])) (fun _ k => XS.iloadN X0.here hx rfl (hb hby d38_0) rfl k) ?_
  refine Go.st (f' := (mkF m 2 #[rv a1, iv 1] [(.ref a1), (.int 1)])) (fun _ k => XS.aloadN X0.here hx rfl (hb hby d38_1) rfl rfl k) ?_
  obtain ⟨cl1, Ar1, -, S1, Nx1, -, -⟩ := id V_a1
  refine Go.st (T' := s₁) (f' := (mkF m 3 #[rv a1, iv 1] [(.int 1), (.int 1)])) (fun _ k => X0.arraylength hx (by rw [e0]; exact Ar1.1) (State.isArrayOf_alike hZ.alike Ar1.2.1) (g := (mkF m 2 #[rv a1, iv 1] [(.ref a1), (.int 1)])) rfl rfl (hb hby d38_2) _ (by rw [len_of S1 Nx1]; exact k)) ?_
  refine Go.st (f' := (mkF m 4 #[rv a1, iv 1] [(.int 0)])) (fun _ k => XS.isub X0.here hx rfl (hb hby d38_3) rfl k) ?_
  refine Go.st (f' := (mkF m 6 #[rv a1, iv 1] [(.int 31), (.int 0)])) (fun _ k => XS.bipush X0.here hx rfl (hb hby d38_4) k) ?_
  refine Go.st (f' := (mkF m 7 #[rv a1, iv 1] [(.int 0)])) (fun _ k => XS.iushr X0.here hx rfl (hb hby d38_6) rfl k) ?_
  refine Go.st (f' := (mkF m 8 #[rv a1, iv 1] [(.int 0)])) (fun _ k => XS.i2b X0.here hx rfl (hb hby d38_7) rfl k) ?_
  refine Go.retB X0 hlk hx (t := .byte) hret (by simp) (hb hby d38_8) e0 ?_ (by decide) (by decide)
  exact ⟨rfl, N0, rfl⟩
theorem pn_java_lang_String : plainName "java/lang/String" = true := by first | (simp [plainName, overriddenIn]; done) | decide +kernel
theorem d3_0 : decode jdk_42_method_149_code 0 = .ok (.aload_n 0, 1) := by decide +kernel
theorem d3_1 : decode jdk_42_method_149_code 1 = .ok (.invokespecial 1, 3) := by decide +kernel
theorem d3_4 : decode jdk_42_method_149_code 4 = .ok (.iload_n 3, 1) := by decide +kernel
theorem d3_5 : decode jdk_42_method_149_code 5 = .ok (.ifCond .ne 22, 3) := by decide +kernel
theorem d3_27 : decode jdk_42_method_149_code 27 = .ok (.getstatic 38, 3) := by decide +kernel
theorem d3_30 : decode jdk_42_method_149_code 30 = .ok (.ifCond .eq 28, 3) := by decide +kernel
theorem d3_33 : decode jdk_42_method_149_code 33 = .ok (.aload_n 1, 1) := by decide +kernel
theorem d3_34 : decode jdk_42_method_149_code 34 = .ok (.iload_n 2, 1) := by decide +kernel
theorem d3_35 : decode jdk_42_method_149_code 35 = .ok (.iload_n 3, 1) := by decide +kernel
theorem d3_36 : decode jdk_42_method_149_code 36 = .ok (.invokestatic 177, 3) := by decide +kernel
theorem pd___CII__B : parseMethodDescriptor "([CII)[B" = some ⟨[(.array .char), .int, .int], some (.array .byte)⟩ := by decide +kernel
theorem d3_39 : decode jdk_42_method_149_code 39 = .ok (.astore 5, 2) := by decide +kernel
theorem d3_41 : decode jdk_42_method_149_code 41 = .ok (.aload_n 0, 1) := by decide +kernel
theorem d3_42 : decode jdk_42_method_149_code 42 = .ok (.aload 5, 2) := by decide +kernel
theorem d3_44 : decode jdk_42_method_149_code 44 = .ok (.iload_n 3, 1) := by decide +kernel
theorem d3_45 : decode jdk_42_method_149_code 45 = .ok (.invokestatic 47, 3) := by decide +kernel
theorem pd___BI_B : parseMethodDescriptor "([BI)B" = some ⟨[(.array .byte), .int], some .byte⟩ := by decide +kernel
theorem d3_48 : decode jdk_42_method_149_code 48 = .ok (.putfield 15, 3) := by decide +kernel
theorem d3_51 : decode jdk_42_method_149_code 51 = .ok (.aload_n 0, 1) := by decide +kernel
theorem d3_52 : decode jdk_42_method_149_code 52 = .ok (.aload 5, 2) := by decide +kernel
theorem d3_54 : decode jdk_42_method_149_code 54 = .ok (.putfield 9, 3) := by decide +kernel
theorem d3_57 : decode jdk_42_method_149_code 57 = .ok (.return_, 1) := by decide +kernel
set_option maxRecDepth 65536 in
set_option maxHeartbeats 40000000 in
theorem stv_1 (l : Launch) (Z : State) (a0 : Array Value) (hw : ∀ d ∈ tables_1, d.before a0 Z = true) (ws : List Jvm.Cond) (a0b : Addr) (a1 : Addr) (k1 : ClassId) (c0 : Int32) (w_ERROR : Addr) (w_WARNING : Addr) (i_COMPACT_STRINGS : Int32) (v_SIOOBE_FORMATTER : Value) (h0 : Heap) (n0 : Nat) (O0 : Old Z n0 h0) (hc_c0 : ¬ (255 : Int32) < c0) (g_a0b : n0 ≤ a0b) (nb1 : a0b ≠ a1) (E_a0b : Exa Z h0 a0b "java/lang/String") (F_a0b_coder : Fld Z h0 a0b "java/lang/String" "coder" "B" (.int 0)) (F_a0b_value : Fld Z h0 a0b "java/lang/String" "value" "[B" .null) (V_a1 : Arv Z h0 a1 k1 .char (1 : Int32) [(.int c0)] (.int 0)) (WW : World1 Z w_ERROR w_WARNING i_COMPACT_STRINGS v_SIOOBE_FORMATTER) :
    Con l Z (⟨"java/lang/String", "<init>", "([CIILjava/lang/Void;)V"⟩ : MethodName) jdk_42_method_149_code 6 none ws ({ frames := 2, cells := 1, slots := 1, locals := 35 } : Room) #[(.ref a0b), (.ref a1), (.int 0), (.int 1), .null] h0 (fun v h L => v = none ∧ Fr n0 L ∧ Keep h0 h [a0b] ∧ Exa Z h a0b "java/lang/String" ∧ Fld Z h a0b "java/lang/String" "coder" "B" (.int 0) ∧ ∃ (t : Addr) (kt : ClassId), h0.size ≤ t ∧ Fld Z h a0b "java/lang/String" "value" "[B" (.ref t) ∧ Arv Z h t kt .byte (1 : Int32) [(.int (nar .byte (c0.toInt8.toInt32)))] (.int 0)) := by
  refine own_body (plainFor_of_name pn_java_lang_String) ?_
  intro p e s m below meth c s₁ hx hby hml hZ hown hnm hlk hret X0 e0
  have N0 := Fr.nil n0
  have K0 : Keep h0 h0 [a0b] := Keep.refl _ _
  refine Go.st (T' := s₁) (f' := (mkF m 0 #[rv a0b, rv a1, iv 0, iv 1, .val .null, .unset] [])) (fun _ k => castTop (by first | (simp [entryFrame, mkF, argsToLocals, Value.category]; done) | rfl) k) ?_
  have ⟨S_i_COMPACT_STRINGS, nz_i_COMPACT_STRINGS, S_v_SIOOBE_FORMATTER, r_v_SIOOBE_FORMATTER, S_w_ERROR, E_w_ERROR, S_w_WARNING, E_w_WARNING⟩ := WW
  have lt_w_ERROR := E_w_ERROR.lt
  have lt_w_WARNING := E_w_WARNING.lt
  have lt_a0b := E_a0b.lt
  have ne_w_ERROR_a0b : w_ERROR ≠ a0b := O0.ne lt_w_ERROR g_a0b
  have ne_w_WARNING_a0b : w_WARNING ≠ a0b := O0.ne lt_w_WARNING g_a0b
  have lt_a1 := V_a1.lt
  refine Go.st (f' := (mkF m 1 #[rv a0b, rv a1, iv 0, iv 1, .val .null, .unset] [(.ref a0b)])) (fun _ k => XS.aloadN X0.here hx rfl (hb hby d3_0) rfl rfl k) ?_
  obtain ⟨T1, X1, e1, st1⟩ := initO X0 hx hZ hown (ww hw 18 rfl) (ww hw 19 rfl) (ww hw 20 rfl) e0 (g := (mkF m 1 #[rv a0b, rv a1, iv 0, iv 1, .val .null, .unset] [(.ref a0b)])) rfl (by rw [hml]; rfl) rfl (hb hby d3_1) (by decide) (W := 0) (by show 2 * 0 + _ ≤ _; exact Nat.le_of_eq rfl) (by decide)
  refine Go.st (f' := (mkF m 4 #[rv a0b, rv a1, iv 0, iv 1, .val .null, .unset] [])) (fun _ k => st1 _ k) ?_
  refine Go.st (f' := (mkF m 5 #[rv a0b, rv a1, iv 0, iv 1, .val .null, .unset] [(.int 1)])) (fun _ k => XS.iloadN X1.here hx rfl (hb hby d3_4) rfl k) ?_
  refine Go.st (f' := (mkF m 27 #[rv a0b, rv a1, iv 0, iv 1, .val .null, .unset] [])) (fun _ k => XS.ifYes X1.here hx rfl (pc0 := 5) (pc' := 27) rfl (hb hby d3_5) rfl (by decide) (by decide) (by decide) k) ?_
  obtain ⟨T2, X2, e2, st2⟩ := getS2 X1 hx hZ hown (host := "") (Or.inl (ww hw 97 rfl)) Via.refl e1 (S_i_COMPACT_STRINGS.ext O0.2) (g := (mkF m 27 #[rv a0b, rv a1, iv 0, iv 1, .val .null, .unset] [])) rfl (hb hby d3_27)
  refine Go.st (f' := (mkF m 30 #[rv a0b, rv a1, iv 0, iv 1, .val .null, .unset] [(.int i_COMPACT_STRINGS)])) (fun _ k => st2 _ k) ?_
  refine Go.st (f' := (mkF m 33 #[rv a0b, rv a1, iv 0, iv 1, .val .null, .unset] [])) (fun _ k => XS.ifNo X2.here hx rfl (hb hby d3_30) rfl ((if0 _ _).trans (feq nz_i_COMPACT_STRINGS).1) k) ?_
  refine Go.st (f' := (mkF m 34 #[rv a0b, rv a1, iv 0, iv 1, .val .null, .unset] [(.ref a1)])) (fun _ k => XS.aloadN X2.here hx rfl (hb hby d3_33) rfl rfl k) ?_
  refine Go.st (f' := (mkF m 35 #[rv a0b, rv a1, iv 0, iv 1, .val .null, .unset] [(.int 0), (.ref a1)])) (fun _ k => XS.iloadN X2.here hx rfl (hb hby d3_34) rfl k) ?_
  refine Go.st (f' := (mkF m 36 #[rv a0b, rv a1, iv 0, iv 1, .val .null, .unset] [(.int 1), (.int 0), (.ref a1)])) (fun _ k => XS.iloadN X2.here hx rfl (hb hby d3_35) rfl k) ?_
  obtain ⟨_, _, ⟨T3, L3, kk3, nn3⟩, -, X3, ⟨Lc3, hQ3, lq3, yq3, zz3⟩, st3⟩ := Jvm.LawKit.callS X2 hx (y := (⟨"java/lang/StringUTF16", "compress", "([CII)[B"⟩ : MethodName)) hown (mvT hZ (ww hw 197 rfl)) (mvT hZ (ww hw 198 rfl)) (mvT hZ (ww hw 199 rfl)) (mvT hZ (ww hw 200 rfl)) (by decide) (own_back (W := 0) (st3_1 l Z a0 hw [] a1 k1 c0 h0 n0 O0 hc_c0 V_a1) hZ (ww hw 200 rfl) (ww hw 199 rfl) (by decide) (by decide)) (g := (mkF m 36 #[rv a0b, rv a1, iv 0, iv 1, .val .null, .unset] [(.int 1), (.int 0), (.ref a1)])) rfl (by rw [hml]; rfl) (argsL := [(.ref a1), (.int (0 : Int32)), (.int (1 : Int32))]) (rest := []) (lenOf pd___CII__B rfl) rfl (by show 2 * 0 + _ ≤ _; exact Nat.le_of_eq rfl) (hb hby d3_36) (fun _ _ => ⟨rfl, e2, (by decide : 0 + 1 ≤ _), (by decide : 0 + 1 ≤ _)⟩)
  dsimp only [Pt.U, Pt.locs, Pt.cells, Pt.slots] at X3 lq3 yq3 zz3 st3 hQ3
  subst lq3 yq3 zz3
  obtain ⟨b3, kb3, rfl, Nq3, zq3, kq3, vq3⟩ := hQ3
  have N3 := Fr.app N0 Nq3
  have ne_a0b_b3 : a0b ≠ b3 := Nat.ne_of_lt (Nat.lt_of_lt_of_le lt_a0b zq3)
  have ne_a1_b3 : a1 ≠ b3 := Nat.ne_of_lt (Nat.lt_of_lt_of_le lt_a1 zq3)
  have ne_w_ERROR_b3 : w_ERROR ≠ b3 := Nat.ne_of_lt (Nat.lt_of_lt_of_le lt_w_ERROR (Nat.le_trans O0.2.1 zq3))
  have ne_w_WARNING_b3 : w_WARNING ≠ b3 := Nat.ne_of_lt (Nat.lt_of_lt_of_le lt_w_WARNING (Nat.le_trans O0.2.1 zq3))
  have g_b3 : n0 ≤ b3 := Nat.le_trans (O0.1 ▸ O0.2.1) zq3
  have sz_b3 : h0.size ≤ b3 := Nat.le_trans K0.1 zq3
  have O3 : Old Z n0 T3.heap := O0.keep kq3 all0
  have K3 : Keep h0 T3.heap [a0b] := K0.trans kq3 all0
  have lt_b3 := vq3.lt
  refine Go.st (f' := (mkF m 39 #[rv a0b, rv a1, iv 0, iv 1, .val .null, .unset] [(.ref b3)])) (fun _ k => st3 _ k) ?_
  refine Go.st (f' := (mkF m 41 #[rv a0b, rv a1, iv 0, iv 1, .val .null, rv b3] [])) (fun _ k => XS.astore X3.here hx rfl (hb hby d3_39) rfl rfl (l' := #[rv a0b, rv a1, iv 0, iv 1, .val .null, rv b3]) rfl k) ?_
  refine Go.st (f' := (mkF m 42 #[rv a0b, rv a1, iv 0, iv 1, .val .null, rv b3] [(.ref a0b)])) (fun _ k => XS.aloadN X3.here hx rfl (hb hby d3_41) rfl rfl k) ?_
  refine Go.st (f' := (mkF m 44 #[rv a0b, rv a1, iv 0, iv 1, .val .null, rv b3] [(.ref b3), (.ref a0b)])) (fun _ k => XS.aload X3.here hx rfl (hb hby d3_42) rfl rfl k) ?_
  refine Go.st (f' := (mkF m 45 #[rv a0b, rv a1, iv 0, iv 1, .val .null, rv b3] [(.int 1), (.ref b3), (.ref a0b)])) (fun _ k => XS.iloadN X3.here hx rfl (hb hby d3_44) rfl k) ?_
  obtain ⟨_, _, ⟨T4, L4, kk4, nn4⟩, -, X4, ⟨Lc4, hQ4, lq4, yq4, zz4⟩, st4⟩ := Jvm.LawKit.callS X3 hx (y := (⟨"java/lang/StringUTF16", "coderFromArrayLen", "([BI)B"⟩ : MethodName)) hown (mvT hZ (ww hw 204 rfl)) (mvT hZ (ww hw 205 rfl)) (mvT hZ (ww hw 199 rfl)) (mvT hZ (ww hw 206 rfl)) (by decide) (own_back (W := 1) (stc_1 l Z a0 hw [] b3 kb3 (nar .byte (c0.toInt8.toInt32)) T3.heap n0 O3 vq3) hZ (ww hw 206 rfl) (ww hw 199 rfl) (by decide) (by decide)) (g := (mkF m 45 #[rv a0b, rv a1, iv 0, iv 1, .val .null, rv b3] [(.int 1), (.ref b3), (.ref a0b)])) rfl (by rw [hml]; rfl) (argsL := [(.ref b3), (.int (1 : Int32))]) (rest := [(.ref a0b)]) (lenOf pd___BI_B rfl) rfl (by show 2 * 0 + _ ≤ _; exact Nat.le_of_eq rfl) (hb hby d3_45) (fun _ _ => ⟨rfl, rfl, (by decide : 1 + 0 ≤ _), (by decide : 1 + 0 ≤ _)⟩)
  dsimp only [Pt.U, Pt.locs, Pt.cells, Pt.slots] at X4 lq4 yq4 zz4 st4 hQ4
  subst lq4 yq4 zz4
  obtain ⟨rfl, Nq4, kq4⟩ := hQ4
  have N4 := Fr.app N3 Nq4
  refine Go.st (f' := (mkF m 48 #[rv a0b, rv a1, iv 0, iv 1, .val .null, rv b3] [(.int 0), (.ref a0b)])) (fun _ k => st4 _ k) ?_
  have ft5 := (E_a0b.keep kq3)
  have ft6 := (F_a0b_coder.keep kq3 nin0)
  obtain ⟨T7, h7, X7, e7, W7, st7⟩ := putFN X4 hx hZ hown (ww hw 28 rfl) Via.refl kq4 ft6 ft5 (Or.inr ⟨(ww hw 24 rfl), rfl, hnm⟩) (ww hw 8 rfl) (ty := .byte) (v' := (.int (0 : Int32))) (by decide) rfl (by decide) (g := (mkF m 48 #[rv a0b, rv a1, iv 0, iv 1, .val .null, rv b3] [(.int 0), (.ref a0b)])) rfl rfl (hb hby d3_48)
  have N7 := Fr.snoc X7 N4 g_a0b
  have O7 : Old Z n0 h7 := O3.wr W7 g_a0b
  have K7 : Keep h0 h7 [a0b] := K3.wr W7 (Or.inl (List.mem_of_getElem? (i := 0) rfl))
  have Fw7 := ft6.same W7
  refine Go.st (f' := (mkF m 51 #[rv a0b, rv a1, iv 0, iv 1, .val .null, rv b3] [])) (fun _ k => st7 _ k) ?_
  refine Go.st (f' := (mkF m 52 #[rv a0b, rv a1, iv 0, iv 1, .val .null, rv b3] [(.ref a0b)])) (fun _ k => XS.aloadN X7.here hx rfl (hb hby d3_51) rfl rfl k) ?_
  refine Go.st (f' := (mkF m 54 #[rv a0b, rv a1, iv 0, iv 1, .val .null, rv b3] [(.ref b3), (.ref a0b)])) (fun _ k => XS.aload X7.here hx rfl (hb hby d3_52) rfl rfl k) ?_
  have ft8 := (ft5.wr W7)
  have ft9 := ((F_a0b_value.keep kq3 nin0).other W7 (Or.inr (slot_ne (Or.inr (ww hw 23 rfl)) (Or.inr (ww hw 24 rfl)) (by decide) (t := (.array .byte)) (t' := .byte) (by decide) (by decide))))
  obtain ⟨T10, h10, X10, e10, W10, st10⟩ := putF X7 hx hZ hown (host := "") (Or.inl (ww hw 27 rfl)) Via.refl e7 ft9 ft8 (Or.inr ⟨(ww hw 23 rfl), rfl, hnm⟩) (ww hw 8 rfl) (ty := (.array .byte)) (by decide) rfl rfl (g := (mkF m 54 #[rv a0b, rv a1, iv 0, iv 1, .val .null, rv b3] [(.ref b3), (.ref a0b)])) rfl rfl (hb hby d3_54)
  have N10 := Fr.snoc X10 N7 g_a0b
  have O10 : Old Z n0 h10 := O7.wr W10 g_a0b
  have K10 : Keep h0 h10 [a0b] := K7.wr W10 (Or.inl (List.mem_of_getElem? (i := 0) rfl))
  have Fw10 := ft9.same W10
  refine Go.st (f' := (mkF m 57 #[rv a0b, rv a1, iv 0, iv 1, .val .null, rv b3] [])) (fun _ k => st10 _ k) ?_
  refine Go.ret0 X10 hlk hx hret (hb hby d3_57) e10 ?_ (by decide) (by decide)
  have ft11 := (ft8.wr W10)
  have ft12 := (Fw7.other W10 (Or.inr (slot_ne (Or.inr (ww hw 24 rfl)) (Or.inr (ww hw 23 rfl)) (by decide) (t := .byte) (t' := (.array .byte)) (by decide) (by decide))))
  have ft13 := ((vq3.other W7 (Ne.symm ne_a0b_b3)).other W10 (Ne.symm ne_a0b_b3))
  exact ⟨rfl, N10, K10, ft11, ft12, b3, kb3, sz_b3, Fw10, ft13⟩
theorem d2_0 : decode jdk_42_method_3_code 0 = .ok (.aload_n 0, 1) := by decide +kernel
theorem d2_1 : decode jdk_42_method_3_code 1 = .ok (.aload_n 1, 1) := by decide +kernel
theorem d2_2 : decode jdk_42_method_3_code 2 = .ok (.iconst 0, 1) := by decide +kernel
theorem d2_3 : decode jdk_42_method_3_code 3 = .ok (.aload_n 1, 1) := by decide +kernel
theorem d2_4 : decode jdk_42_method_3_code 4 = .ok (.arraylength, 1) := by decide +kernel
theorem d2_5 : decode jdk_42_method_3_code 5 = .ok (.aconst_null, 1) := by decide +kernel
theorem d2_6 : decode jdk_42_method_3_code 6 = .ok (.invokespecial 27, 3) := by decide +kernel
theorem pd___CIILjava_lang_Void__V : parseMethodDescriptor "([CIILjava/lang/Void;)V" = some ⟨[(.array .char), .int, .int, (.object "java/lang/Void")], none⟩ := by decide +kernel
theorem d2_9 : decode jdk_42_method_3_code 9 = .ok (.return_, 1) := by decide +kernel
set_option maxRecDepth 65536 in
set_option maxHeartbeats 40000000 in
theorem st1_1 (l : Launch) (Z : State) (a0 : Array Value) (hw : ∀ d ∈ tables_1, d.before a0 Z = true) (ws : List Jvm.Cond) (a0b : Addr) (a1 : Addr) (k1 : ClassId) (c0 : Int32) (w_ERROR : Addr) (w_WARNING : Addr) (i_COMPACT_STRINGS : Int32) (v_SIOOBE_FORMATTER : Value) (h0 : Heap) (n0 : Nat) (O0 : Old Z n0 h0) (hc_c0 : ¬ (255 : Int32) < c0) (g_a0b : n0 ≤ a0b) (nb1 : a0b ≠ a1) (E_a0b : Exa Z h0 a0b "java/lang/String") (F_a0b_coder : Fld Z h0 a0b "java/lang/String" "coder" "B" (.int 0)) (F_a0b_value : Fld Z h0 a0b "java/lang/String" "value" "[B" .null) (V_a1 : Arv Z h0 a1 k1 .char (1 : Int32) [(.int c0)] (.int 0)) (WW : World1 Z w_ERROR w_WARNING i_COMPACT_STRINGS v_SIOOBE_FORMATTER) :
    Con l Z (⟨"java/lang/String", "<init>", "([C)V"⟩ : MethodName) jdk_42_method_3_code 2 none ws ({ frames := 3, cells := 1, slots := 1, locals := 52 } : Room) #[(.ref a0b), (.ref a1)] h0 (fun v h L => v = none ∧ Fr n0 L ∧ Keep h0 h [a0b] ∧ Exa Z h a0b "java/lang/String" ∧ Fld Z h a0b "java/lang/String" "coder" "B" (.int 0) ∧ ∃ (t : Addr) (kt : ClassId), h0.size ≤ t ∧ Fld Z h a0b "java/lang/String" "value" "[B" (.ref t) ∧ Arv Z h t kt .byte (1 : Int32) [(.int (nar .byte (c0.toInt8.toInt32)))] (.int 0)) := by
  refine own_body (plainFor_of_name pn_java_lang_String) ?_
  intro p e s m below meth c s₁ hx hby hml hZ hown hnm hlk hret X0 e0
  have N0 := Fr.nil n0
  have K0 : Keep h0 h0 [a0b] := Keep.refl _ _
  refine Go.st (T' := s₁) (f' := (mkF m 0 #[rv a0b, rv a1] [])) (fun _ k => castTop (by first | (simp [entryFrame, mkF, argsToLocals, Value.category]; done) | rfl) k) ?_
  have ⟨S_i_COMPACT_STRINGS, nz_i_COMPACT_STRINGS, S_v_SIOOBE_FORMATTER, r_v_SIOOBE_FORMATTER, S_w_ERROR, E_w_ERROR, S_w_WARNING, E_w_WARNING⟩ := WW
  have lt_w_ERROR := E_w_ERROR.lt
  have lt_w_WARNING := E_w_WARNING.lt
  have lt_a0b := E_a0b.lt
  have ne_w_ERROR_a0b : w_ERROR ≠ a0b := O0.ne lt_w_ERROR g_a0b
  have ne_w_WARNING_a0b : w_WARNING ≠ a0b := O0.ne lt_w_WARNING g_a0b
  have lt_a1 := V_a1.lt
  refine Go.st (f' := (mkF m 1 #[rv a0b, rv a1] [(.ref a0b)])) (fun _ k => XS.aloadN X0.here hx rfl (hb hby d2_0) rfl rfl k) ?_
  refine Go.st (f' := (mkF m 2 #[rv a0b, rv a1] [(.ref a1), (.ref a0b)])) (fun _ k => XS.aloadN X0.here hx rfl (hb hby d2_1) rfl rfl k) ?_
  refine Go.st (f' := (mkF m 3 #[rv a0b, rv a1] [(.int 0), (.ref a1), (.ref a0b)])) (fun _ k => XS.iconst X0.here hx rfl (hb hby d2_2) k) ?_
  refine Go.st (f' := (mkF m 4 #[rv a0b, rv a1] [(.ref a1), (.int 0), (.ref a1), (.ref a0b)])) (fun _ k => XS.aloadN X0.here hx rfl (hb hby d2_3) rfl rfl k) ?_
  obtain ⟨cl1, Ar1, -, S1, Nx1, -, -⟩ := id V_a1
  refine Go.st (T' := s₁) (f' := (mkF m 5 #[rv a0b, rv a1] [(.int 1), (.int 0), (.ref a1), (.ref a0b)])) (fun _ k => X0.arraylength hx (by rw [e0]; exact Ar1.1) (State.isArrayOf_alike hZ.alike Ar1.2.1) (g := (mkF m 4 #[rv a0b, rv a1] [(.ref a1), (.int 0), (.ref a1), (.ref a0b)])) rfl rfl (hb hby d2_4) _ (by rw [len_of S1 Nx1]; exact k)) ?_
  refine Go.st (f' := (mkF m 6 #[rv a0b, rv a1] [.null, (.int 1), (.int 0), (.ref a1), (.ref a0b)])) (fun _ k => XS.aconstNull X0.here hx rfl (hb hby d2_5) k) ?_
  obtain ⟨_, _, ⟨T2, L2, kk2, nn2⟩, -, X2, ⟨Lc2, hQ2, lq2, yq2, zz2⟩, st2⟩ := X0.specialBack hx (y := (⟨"java/lang/String", "<init>", "([CIILjava/lang/Void;)V"⟩ : MethodName)) rfl hown (mvT hZ (ww hw 14 rfl)) (mvT hZ (ww hw 15 rfl)) (mvT hZ (ww hw 17 rfl)) (by decide) (own_back (W := 0) (stv_1 l Z a0 hw [] a0b a1 k1 c0 w_ERROR w_WARNING i_COMPACT_STRINGS v_SIOOBE_FORMATTER h0 n0 O0 hc_c0 g_a0b nb1 E_a0b F_a0b_coder F_a0b_value V_a1 WW) hZ (ww hw 17 rfl) (ww hw 9 rfl) (by decide) (by decide)) (g := (mkF m 6 #[rv a0b, rv a1] [.null, (.int 1), (.int 0), (.ref a1), (.ref a0b)])) rfl (by rw [hml]; rfl) (Steps.refl _) (a := a0b) (argsL := [(.ref a1), (.int (0 : Int32)), (.int (1 : Int32)), .null]) (rest := []) (lenOf pd___CIILjava_lang_Void__V rfl) rfl (by show 2 * 0 + _ ≤ _; exact Nat.le_of_eq rfl) (hb hby d2_6) (fun _ _ => ⟨rfl, e0, (by decide : 0 + 1 ≤ _), (by decide : 0 + 1 ≤ _)⟩)
  dsimp only [Pt.U, Pt.locs, Pt.cells, Pt.slots] at X2 lq2 yq2 zz2 st2 hQ2
  subst lq2 yq2 zz2
  obtain ⟨rfl, Nq2, kq2, eq2, cq2, tt2, kt2, zq2, fq2, vq2⟩ := hQ2
  have N2 := Fr.app N0 Nq2
  have ne_a0b_tt2 : a0b ≠ tt2 := Nat.ne_of_lt (Nat.lt_of_lt_of_le lt_a0b zq2)
  have ne_a1_tt2 : a1 ≠ tt2 := Nat.ne_of_lt (Nat.lt_of_lt_of_le lt_a1 zq2)
  have ne_w_ERROR_tt2 : w_ERROR ≠ tt2 := Nat.ne_of_lt (Nat.lt_of_lt_of_le lt_w_ERROR (Nat.le_trans O0.2.1 zq2))
  have ne_w_WARNING_tt2 : w_WARNING ≠ tt2 := Nat.ne_of_lt (Nat.lt_of_lt_of_le lt_w_WARNING (Nat.le_trans O0.2.1 zq2))
  have g_tt2 : n0 ≤ tt2 := Nat.le_trans (O0.1 ▸ O0.2.1) zq2
  have sz_tt2 : h0.size ≤ tt2 := Nat.le_trans K0.1 zq2
  have O2 : Old Z n0 T2.heap := O0.keep kq2 (allS g_a0b all0)
  have K2 : Keep h0 T2.heap [a0b] := K0.trans kq2 (allS (Or.inl (List.mem_of_getElem? (i := 0) rfl)) all0)
  have lt_tt2 := vq2.lt
  refine Go.tr (f' := (mkF m 9 #[rv a0b, rv a1] [])) st2 ?_
  refine Go.ret0 X2 hlk hx hret (hb hby d2_9) rfl ?_ (by decide) (by decide)
  exact ⟨rfl, N2, K2, eq2, cq2, tt2, kt2, sz_tt2, fq2, vq2⟩
set_option maxRecDepth 65536 in
set_option maxHeartbeats 40000000 in
theorem st5_2 (l : Launch) (Z : State) (a0 : Array Value) (hw : ∀ d ∈ tables_1, d.before a0 Z = true) (ws : List Jvm.Cond) (a2 : Addr) (k2 : ClassId) (a1 : Addr) (k1 : ClassId) (c0 : Int32) (c1 : Int32) (h0 : Heap) (n0 : Nat) (O0 : Old Z n0 h0) (hc_c0 : ¬ (255 : Int32) < c0) (hc_c1 : ¬ (255 : Int32) < c1) (ne12 : a1 ≠ a2) (g_a2 : n0 ≤ a2) (V_a1 : Arv Z h0 a1 k1 .char (2 : Int32) [(.int c0), (.int c1)] (.int 0)) (V_a2 : Arv Z h0 a2 k2 .byte (2 : Int32) [(.int 0), (.int 0)] (.int 0)) :
    Con l Z (⟨"java/lang/StringUTF16", "compress", "([CI[BII)I"⟩ : MethodName) jdk_52_method_21_code 7 (some .int) ws ({ frames := 0, cells := 0, slots := 0, locals := 0 } : Room) #[(.ref a1), (.int 0), (.ref a2), (.int 0), (.int 2)] h0 (fun v h L => v = some (.int 2) ∧ Fr n0 L ∧ Keep h0 h [a2] ∧ Arv Z h a2 k2 .byte (2 : Int32) [(.int (nar .byte (c0.toInt8.toInt32))), (.int (nar .byte (c1.toInt8.toInt32)))] (.int 0)) := by
  refine own_body (plainFor_of_name pn_java_lang_StringUTF16) ?_
  intro p e s m below meth c s₁ hx hby hml hZ hown hnm hlk hret X0 e0
  have N0 := Fr.nil n0
  have K0 : Keep h0 h0 [a2] := Keep.refl _ _
  refine Go.st (T' := s₁) (f' := (mkF m 0 #[rv a1, iv 0, rv a2, iv 0, iv 2, .unset, .unset] [])) (fun _ k => castTop (by first | (simp [entryFrame, mkF, argsToLocals, Value.category]; done) | rfl) k) ?_
  have lt_a1 := V_a1.lt
  have lt_a2 := V_a2.lt
  refine Go.st (f' := (mkF m 1 #[rv a1, iv 0, rv a2, iv 0, iv 2, .unset, .unset] [(.int 0)])) (fun _ k => XS.iconst X0.here hx rfl (hb hby d37_0) k) ?_
  refine Go.st (f' := (mkF m 3 #[rv a1, iv 0, rv a2, iv 0, iv 2, iv 0, .unset] [])) (fun _ k => XS.istore X0.here hx rfl (hb hby d37_1) rfl (l' := #[rv a1, iv 0, rv a2, iv 0, iv 2, iv 0, .unset]) rfl k) ?_
  refine Go.st (f' := (mkF m 5 #[rv a1, iv 0, rv a2, iv 0, iv 2, iv 0, .unset] [(.int 0)])) (fun _ k => XS.iload X0.here hx rfl (hb hby d37_3) rfl k) ?_
  refine Go.st (f' := (mkF m 7 #[rv a1, iv 0, rv a2, iv 0, iv 2, iv 0, .unset] [(.int 2), (.int 0)])) (fun _ k => XS.iload X0.here hx rfl (hb hby d37_5) rfl k) ?_
  refine Go.st (f' := (mkF m 10 #[rv a1, iv 0, rv a2, iv 0, iv 2, iv 0, .unset] [])) (fun _ k => XS.icmpNo X0.here hx rfl (hb hby d37_7) rfl (by decide) k) ?_
  refine Go.st (f' := (mkF m 11 #[rv a1, iv 0, rv a2, iv 0, iv 2, iv 0, .unset] [(.ref a1)])) (fun _ k => XS.aloadN X0.here hx rfl (hb hby d37_10) rfl rfl k) ?_
  refine Go.st (f' := (mkF m 12 #[rv a1, iv 0, rv a2, iv 0, iv 2, iv 0, .unset] [(.int 0), (.ref a1)])) (fun _ k => XS.iloadN X0.here hx rfl (hb hby d37_11) rfl k) ?_
  obtain ⟨cl1, Ar1, -, S1, -, H1, -⟩ := id V_a1
  have hin1 : ¬ ((0 : Int32) < 0 ∨ cl1.slots.size ≤ ((0 : Int32)).toNatClampNeg) := inb_of S1 ⟨by decide, by decide⟩
  have hat1 : cl1.slots[((0 : Int32)).toNatClampNeg]? = some (.int c0) := H1.at hin1 rfl
  refine Go.st (f' := (mkF m 13 #[rv a1, iv 0, rv a2, iv 0, iv 2, iv 0, .unset] [(.int c0)])) (fun _ k => X0.caload hx (j := (0 : Int32)) (v := (.int c0)) (by rw [e0]; exact Ar1.1) (State.isArrayOf_alike hZ.alike Ar1.2.1) Ar1.2.2 hin1 hat1 (g := (mkF m 12 #[rv a1, iv 0, rv a2, iv 0, iv 2, iv 0, .unset] [(.int 0), (.ref a1)])) rfl rfl (hb hby d37_12) _ k) ?_
  refine Go.st (f' := (mkF m 15 #[rv a1, iv 0, rv a2, iv 0, iv 2, iv 0, iv c0] [])) (fun _ k => XS.istore X0.here hx rfl (hb hby d37_13) rfl (l' := #[rv a1, iv 0, rv a2, iv 0, iv 2, iv 0, iv c0]) rfl k) ?_
  refine Go.st (f' := (mkF m 17 #[rv a1, iv 0, rv a2, iv 0, iv 2, iv 0, iv c0] [(.int c0)])) (fun _ k => XS.iload X0.here hx rfl (hb hby d37_15) rfl k) ?_
  refine Go.st (f' := (mkF m 20 #[rv a1, iv 0, rv a2, iv 0, iv 2, iv 0, iv c0] [(.int 255), (.int c0)])) (fun _ k => XS.sipush X0.here hx rfl (hb hby d37_17) k) ?_
  refine Go.st (f' := (mkF m 26 #[rv a1, iv 0, rv a2, iv 0, iv 2, iv 0, iv c0] [])) (fun _ k => XS.icmpYes X0.here hx rfl (pc0 := 20) (pc' := 26) rfl (hb hby d37_20) rfl (flt hc_c0).2.2.2 (by decide) (by decide) k) ?_
  refine Go.st (f' := (mkF m 27 #[rv a1, iv 0, rv a2, iv 0, iv 2, iv 0, iv c0] [(.ref a2)])) (fun _ k => XS.aloadN X0.here hx rfl (hb hby d37_26) rfl rfl k) ?_
  refine Go.st (f' := (mkF m 28 #[rv a1, iv 0, rv a2, iv 0, iv 2, iv 0, iv c0] [(.int 0), (.ref a2)])) (fun _ k => XS.iloadN X0.here hx rfl (hb hby d37_27) rfl k) ?_
  refine Go.st (f' := (mkF m 30 #[rv a1, iv 0, rv a2, iv 0, iv 2, iv 0, iv c0] [(.int c0), (.int 0), (.ref a2)])) (fun _ k => XS.iload X0.here hx rfl (hb hby d37_28) rfl k) ?_
  refine Go.st (f' := (mkF m 31 #[rv a1, iv 0, rv a2, iv 0, iv 2, iv 0, iv c0] [(.int (c0.toInt8.toInt32)), (.int 0), (.ref a2)])) (fun _ k => XS.i2b X0.here hx rfl (hb hby d37_30) rfl k) ?_
  obtain ⟨cl2, Ar2, q2, S2, Nx2, H2, G2⟩ := id V_a2
  have hin2 : ¬ ((0 : Int32) < 0 ∨ cl2.slots.size ≤ ((0 : Int32)).toNatClampNeg) := inb_of S2 ⟨by decide, by decide⟩
  obtain ⟨T3, h3, X3, e3, W3, st3⟩ := stB X0 hx hZ e0 Ar2 (j := (0 : Int32)) hin2 (g := (mkF m 31 #[rv a1, iv 0, rv a2, iv 0, iv 2, iv 0, iv c0] [(.int (c0.toInt8.toInt32)), (.int 0), (.ref a2)])) rfl rfl (hb hby d37_31)
  have V_a2_3 : Arv Z h3 a2 k2 .byte (2 : Int32) [(.int (nar .byte (c0.toInt8.toInt32))), (.int (0 : Int32))] (.int (0 : Int32)) := Arv.set Ar2 q2 S2 Nx2 H2 G2 (fits_nar_byte _) W3 0 rfl (Nat.le_of_ble_eq_true rfl)
  have N3 := Fr.snoc X3 N0 g_a2
  have O3 : Old Z n0 h3 := O0.wr W3 g_a2
  have K3 : Keep h0 h3 [a2] := K0.wr W3 (Or.inl (List.mem_of_getElem? (i := 0) rfl))
  refine Go.st (f' := (mkF m 32 #[rv a1, iv 0, rv a2, iv 0, iv 2, iv 0, iv c0] [])) (fun _ k => st3 _ k) ?_
  refine Go.st (f' := (mkF m 35 #[rv a1, iv 1, rv a2, iv 0, iv 2, iv 0, iv c0] [])) (fun _ k => XS.iinc X3.here hx rfl (hb hby d37_32) rfl (l' := #[rv a1, iv 1, rv a2, iv 0, iv 2, iv 0, iv c0]) rfl k) ?_
  refine Go.st (f' := (mkF m 38 #[rv a1, iv 1, rv a2, iv 1, iv 2, iv 0, iv c0] [])) (fun _ k => XS.iinc X3.here hx rfl (hb hby d37_35) rfl (l' := #[rv a1, iv 1, rv a2, iv 1, iv 2, iv 0, iv c0]) rfl k) ?_
  refine Go.st (f' := (mkF m 41 #[rv a1, iv 1, rv a2, iv 1, iv 2, iv 1, iv c0] [])) (fun _ k => XS.iinc X3.here hx rfl (hb hby d37_38) rfl (l' := #[rv a1, iv 1, rv a2, iv 1, iv 2, iv 1, iv c0]) rfl k) ?_
  refine Go.st (f' := (mkF m 3 #[rv a1, iv 1, rv a2, iv 1, iv 2, iv 1, iv c0] [])) (fun _ k => XS.goto X3.here hx rfl (pc0 := 41) (pc' := 3) rfl (hb hby d37_41) (by decide) (by decide) k) ?_
  refine Go.st (f' := (mkF m 5 #[rv a1, iv 1, rv a2, iv 1, iv 2, iv 1, iv c0] [(.int 1)])) (fun _ k => XS.iload X3.here hx rfl (hb hby d37_3) rfl k) ?_
  refine Go.st (f' := (mkF m 7 #[rv a1, iv 1, rv a2, iv 1, iv 2, iv 1, iv c0] [(.int 2), (.int 1)])) (fun _ k => XS.iload X3.here hx rfl (hb hby d37_5) rfl k) ?_
  refine Go.st (f' := (mkF m 10 #[rv a1, iv 1, rv a2, iv 1, iv 2, iv 1, iv c0] [])) (fun _ k => XS.icmpNo X3.here hx rfl (hb hby d37_7) rfl (by decide) k) ?_
  refine Go.st (f' := (mkF m 11 #[rv a1, iv 1, rv a2, iv 1, iv 2, iv 1, iv c0] [(.ref a1)])) (fun _ k => XS.aloadN X3.here hx rfl (hb hby d37_10) rfl rfl k) ?_
  refine Go.st (f' := (mkF m 12 #[rv a1, iv 1, rv a2, iv 1, iv 2, iv 1, iv c0] [(.int 1), (.ref a1)])) (fun _ k => XS.iloadN X3.here hx rfl (hb hby d37_11) rfl k) ?_
  have ft5 := (V_a1.other W3 ne12)
  obtain ⟨cl4, Ar4, -, S4, -, H4, -⟩ := id ft5
  have hin4 : ¬ ((1 : Int32) < 0 ∨ cl4.slots.size ≤ ((1 : Int32)).toNatClampNeg) := inb_of S4 ⟨by decide, by decide⟩
  have hat4 : cl4.slots[((1 : Int32)).toNatClampNeg]? = some (.int c1) := H4.at hin4 rfl
  refine Go.st (f' := (mkF m 13 #[rv a1, iv 1, rv a2, iv 1, iv 2, iv 1, iv c0] [(.int c1)])) (fun _ k => X3.caload hx (j := (1 : Int32)) (v := (.int c1)) (by rw [e3]; exact Ar4.1) (State.isArrayOf_alike hZ.alike Ar4.2.1) Ar4.2.2 hin4 hat4 (g := (mkF m 12 #[rv a1, iv 1, rv a2, iv 1, iv 2, iv 1, iv c0] [(.int 1), (.ref a1)])) rfl rfl (hb hby d37_12) _ k) ?_
  refine Go.st (f' := (mkF m 15 #[rv a1, iv 1, rv a2, iv 1, iv 2, iv 1, iv c1] [])) (fun _ k => XS.istore X3.here hx rfl (hb hby d37_13) rfl (l' := #[rv a1, iv 1, rv a2, iv 1, iv 2, iv 1, iv c1]) rfl k) ?_
  refine Go.st (f' := (mkF m 17 #[rv a1, iv 1, rv a2, iv 1, iv 2, iv 1, iv c1] [(.int c1)])) (fun _ k => XS.iload X3.here hx rfl (hb hby d37_15) rfl k) ?_
  refine Go.st (f' := (mkF m 20 #[rv a1, iv 1, rv a2, iv 1, iv 2, iv 1, iv c1] [(.int 255), (.int c1)])) (fun _ k => XS.sipush X3.here hx rfl (hb hby d37_17) k) ?_
  refine Go.st (f' := (mkF m 26 #[rv a1, iv 1, rv a2, iv 1, iv 2, iv 1, iv c1] [])) (fun _ k => XS.icmpYes X3.here hx rfl (pc0 := 20) (pc' := 26) rfl (hb hby d37_20) rfl (flt hc_c1).2.2.2 (by decide) (by decide) k) ?_
  refine Go.st (f' := (mkF m 27 #[rv a1, iv 1, rv a2, iv 1, iv 2, iv 1, iv c1] [(.ref a2)])) (fun _ k => XS.aloadN X3.here hx rfl (hb hby d37_26) rfl rfl k) ?_
  refine Go.st (f' := (mkF m 28 #[rv a1, iv 1, rv a2, iv 1, iv 2, iv 1, iv c1] [(.int 1), (.ref a2)])) (fun _ k => XS.iloadN X3.here hx rfl (hb hby d37_27) rfl k) ?_
  refine Go.st (f' := (mkF m 30 #[rv a1, iv 1, rv a2, iv 1, iv 2, iv 1, iv c1] [(.int c1), (.int 1), (.ref a2)])) (fun _ k => XS.iload X3.here hx rfl (hb hby d37_28) rfl k) ?_
  refine Go.st (f' := (mkF m 31 #[rv a1, iv 1, rv a2, iv 1, iv 2, iv 1, iv c1] [(.int (c1.toInt8.toInt32)), (.int 1), (.ref a2)])) (fun _ k => XS.i2b X3.here hx rfl (hb hby d37_30) rfl k) ?_
  obtain ⟨cl6, Ar6, q6, S6, Nx6, H6, G6⟩ := id V_a2_3
  have hin6 : ¬ ((1 : Int32) < 0 ∨ cl6.slots.size ≤ ((1 : Int32)).toNatClampNeg) := inb_of S6 ⟨by decide, by decide⟩
  obtain ⟨T7, h7, X7, e7, W7, st7⟩ := stB X3 hx hZ e3 Ar6 (j := (1 : Int32)) hin6 (g := (mkF m 31 #[rv a1, iv 1, rv a2, iv 1, iv 2, iv 1, iv c1] [(.int (c1.toInt8.toInt32)), (.int 1), (.ref a2)])) rfl rfl (hb hby d37_31)
  have V_a2_7 : Arv Z h7 a2 k2 .byte (2 : Int32) [(.int (nar .byte (c0.toInt8.toInt32))), (.int (nar .byte (c1.toInt8.toInt32)))] (.int (0 : Int32)) := Arv.set Ar6 q6 S6 Nx6 H6 G6 (fits_nar_byte _) W7 1 rfl (Nat.le_of_ble_eq_true rfl)
  have N7 := Fr.snoc X7 N3 g_a2
  have O7 : Old Z n0 h7 := O3.wr W7 g_a2
  have K7 : Keep h0 h7 [a2] := K3.wr W7 (Or.inl (List.mem_of_getElem? (i := 0) rfl))
  refine Go.st (f' := (mkF m 32 #[rv a1, iv 1, rv a2, iv 1, iv 2, iv 1, iv c1] [])) (fun _ k => st7 _ k) ?_
  refine Go.st (f' := (mkF m 35 #[rv a1, iv 2, rv a2, iv 1, iv 2, iv 1, iv c1] [])) (fun _ k => XS.iinc X7.here hx rfl (hb hby d37_32) rfl (l' := #[rv a1, iv 2, rv a2, iv 1, iv 2, iv 1, iv c1]) rfl k) ?_
  refine Go.st (f' := (mkF m 38 #[rv a1, iv 2, rv a2, iv 2, iv 2, iv 1, iv c1] [])) (fun _ k => XS.iinc X7.here hx rfl (hb hby d37_35) rfl (l' := #[rv a1, iv 2, rv a2, iv 2, iv 2, iv 1, iv c1]) rfl k) ?_
  refine Go.st (f' := (mkF m 41 #[rv a1, iv 2, rv a2, iv 2, iv 2, iv 2, iv c1] [])) (fun _ k => XS.iinc X7.here hx rfl (hb hby d37_38) rfl (l' := #[rv a1, iv 2, rv a2, iv 2, iv 2, iv 2, iv c1]) rfl k) ?_
  refine Go.st (f' := (mkF m 3 #[rv a1, iv 2, rv a2, iv 2, iv 2, iv 2, iv c1] [])) (fun _ k => XS.goto X7.here hx rfl (pc0 := 41) (pc' := 3) rfl (hb hby d37_41) (by decide) (by decide) k) ?_
  refine Go.st (f' := (mkF m 5 #[rv a1, iv 2, rv a2, iv 2, iv 2, iv 2, iv c1] [(.int 2)])) (fun _ k => XS.iload X7.here hx rfl (hb hby d37_3) rfl k) ?_
  refine Go.st (f' := (mkF m 7 #[rv a1, iv 2, rv a2, iv 2, iv 2, iv 2, iv c1] [(.int 2), (.int 2)])) (fun _ k => XS.iload X7.here hx rfl (hb hby d37_5) rfl k) ?_
  refine Go.st (f' := (mkF m 44 #[rv a1, iv 2, rv a2, iv 2, iv 2, iv 2, iv c1] [])) (fun _ k => XS.icmpYes X7.here hx rfl (pc0 := 7) (pc' := 44) rfl (hb hby d37_7) rfl (by decide) (by decide) (by decide) k) ?_
  refine Go.st (f' := (mkF m 46 #[rv a1, iv 2, rv a2, iv 2, iv 2, iv 2, iv c1] [(.int 2)])) (fun _ k => XS.iload X7.here hx rfl (hb hby d37_44) rfl k) ?_
  refine Go.retV X7 hlk hx (t := .int) hret rfl (Or.inl ⟨rfl, Or.inl rfl, _, rfl⟩) (hb hby d37_46) e7 ?_ (by decide) (by decide)
  exact ⟨rfl, N7, K7, V_a2_7⟩
set_option maxRecDepth 65536 in
set_option maxHeartbeats 40000000 in
theorem st3_2 (l : Launch) (Z : State) (a0 : Array Value) (hw : ∀ d ∈ tables_1, d.before a0 Z = true) (ws : List Jvm.Cond) (a1 : Addr) (k1 : ClassId) (c0 : Int32) (c1 : Int32) (h0 : Heap) (n0 : Nat) (O0 : Old Z n0 h0) (hc_c0 : ¬ (255 : Int32) < c0) (hc_c1 : ¬ (255 : Int32) < c1) (V_a1 : Arv Z h0 a1 k1 .char (2 : Int32) [(.int c0), (.int c1)] (.int 0)) :
    Con l Z (⟨"java/lang/StringUTF16", "compress", "([CII)[B"⟩ : MethodName) jdk_52_method_16_code 6 (some (.array .byte)) ws ({ frames := 1, cells := 1, slots := 2, locals := 18 } : Room) #[(.ref a1), (.int 0), (.int 2)] h0 (fun v h L => ∃ (b : Addr) (kb : ClassId), v = some (.ref b) ∧ Fr n0 L ∧ h0.size ≤ b ∧ Keep h0 h [] ∧ Arv Z h b kb .byte (2 : Int32) [(.int (nar .byte (c0.toInt8.toInt32))), (.int (nar .byte (c1.toInt8.toInt32)))] (.int 0)) := by
  refine own_body (plainFor_of_name pn_java_lang_StringUTF16) ?_
  intro p e s m below meth c s₁ hx hby hml hZ hown hnm hlk hret X0 e0
  have N0 := Fr.nil n0
  have K0 : Keep h0 h0 [] := Keep.refl _ _
  refine Go.st (T' := s₁) (f' := (mkF m 0 #[rv a1, iv 0, iv 2, .unset, .unset, .unset] [])) (fun _ k => castTop (by first | (simp [entryFrame, mkF, argsToLocals, Value.category]; done) | rfl) k) ?_
  have lt_a1 := V_a1.lt
  refine Go.st (f' := (mkF m 1 #[rv a1, iv 0, iv 2, .unset, .unset, .unset] [(.int 2)])) (fun _ k => XS.iloadN X0.here hx rfl (hb hby d36_0) rfl k) ?_
  obtain ⟨T1, h1, kc1, X1, e1, E1, A1, st1⟩ := newP X0 hx hZ (ww hw 22 rfl) e0 (g := (mkF m 1 #[rv a1, iv 0, iv 2, .unset, .unset, .unset] [(.int 2)])) rfl (hb hby d36_1) rfl (by decide) (cap := 2) (by decide) (by decide) (by decide) (by decide)
  obtain ⟨b1, g1⟩ : ∃ z, z = h0.size := ⟨_, rfl⟩
  rw [← g1] at A1 st1
  have ne_a1_b1 : a1 ≠ b1 := Nat.ne_of_lt (Nat.lt_of_lt_of_eq lt_a1 g1.symm)
  have g_b1 : n0 ≤ b1 := Nat.le_trans (O0.1 ▸ O0.2.1) (Nat.le_of_eq g1.symm)
  have O1 : Old Z n0 h1 := O0.ext E1
  have sz_b1 : h0.size ≤ b1 := Nat.le_trans K0.1 (Nat.le_of_eq g1.symm)
  have K1 : Keep h0 h1 [] := K0.ext E1
  have V_b1 : Arv Z h1 b1 kc1 .byte (2 : Int32) [(.int (0 : Int32)), (.int (0 : Int32))] (.int (0 : Int32)) := (Arv.new A1 (by decide)).pad (pad_rep [] (.int (0 : Int32)) 2)
  have lt_b1 := V_b1.lt
  refine Go.st (f' := (mkF m 3 #[rv a1, iv 0, iv 2, .unset, .unset, .unset] [(.ref b1)])) (fun _ k => st1 _ k) ?_
  refine Go.st (f' := (mkF m 4 #[rv a1, iv 0, iv 2, rv b1, .unset, .unset] [])) (fun _ k => XS.astoreN X1.here hx rfl (hb hby d36_3) rfl rfl (l' := #[rv a1, iv 0, iv 2, rv b1, .unset, .unset]) rfl k) ?_
  refine Go.st (f' := (mkF m 5 #[rv a1, iv 0, iv 2, rv b1, .unset, .unset] [(.ref a1)])) (fun _ k => XS.aloadN X1.here hx rfl (hb hby d36_4) rfl rfl k) ?_
  refine Go.st (f' := (mkF m 6 #[rv a1, iv 0, iv 2, rv b1, .unset, .unset] [(.int 0), (.ref a1)])) (fun _ k => XS.iloadN X1.here hx rfl (hb hby d36_5) rfl k) ?_
  refine Go.st (f' := (mkF m 7 #[rv a1, iv 0, iv 2, rv b1, .unset, .unset] [(.ref b1), (.int 0), (.ref a1)])) (fun _ k => XS.aloadN X1.here hx rfl (hb hby d36_6) rfl rfl k) ?_
  refine Go.st (f' := (mkF m 8 #[rv a1, iv 0, iv 2, rv b1, .unset, .unset] [(.int 0), (.ref b1), (.int 0), (.ref a1)])) (fun _ k => XS.iconst X1.here hx rfl (hb hby d36_7) k) ?_
  refine Go.st (f' := (mkF m 9 #[rv a1, iv 0, iv 2, rv b1, .unset, .unset] [(.int 2), (.int 0), (.ref b1), (.int 0), (.ref a1)])) (fun _ k => XS.iloadN X1.here hx rfl (hb hby d36_8) rfl k) ?_
  have ft3 := (V_a1.ext E1)
  obtain ⟨_, _, ⟨T2, L2, kk2, nn2⟩, -, X2, ⟨Lc2, hQ2, lq2, yq2, zz2⟩, st2⟩ := Jvm.LawKit.callS X1 hx (y := (⟨"java/lang/StringUTF16", "compress", "([CI[BII)I"⟩ : MethodName)) hown (mvT hZ (ww hw 201 rfl)) (mvT hZ (ww hw 202 rfl)) (mvT hZ (ww hw 199 rfl)) (mvT hZ (ww hw 203 rfl)) (by decide) (own_back (W := 0) (st5_2 l Z a0 hw [] b1 kc1 a1 k1 c0 c1 h1 n0 O1 hc_c0 hc_c1 ne_a1_b1 g_b1 ft3 V_b1) hZ (ww hw 203 rfl) (ww hw 199 rfl) (by decide) (by decide)) (g := (mkF m 9 #[rv a1, iv 0, iv 2, rv b1, .unset, .unset] [(.int 2), (.int 0), (.ref b1), (.int 0), (.ref a1)])) rfl (by rw [hml]; rfl) (argsL := [(.ref a1), (.int (0 : Int32)), (.ref b1), (.int (0 : Int32)), (.int (2 : Int32))]) (rest := []) (lenOf pd___CI_BII_I rfl) rfl (by show 2 * 0 + _ ≤ _; exact Nat.le_of_eq rfl) (hb hby d36_9) (fun _ _ => ⟨rfl, e1, (by decide : 1 + 0 ≤ _), (by decide : 2 + 0 ≤ _)⟩)
  dsimp only [Pt.U, Pt.locs, Pt.cells, Pt.slots] at X2 lq2 yq2 zz2 st2 hQ2
  subst lq2 yq2 zz2
  obtain ⟨rfl, Nq2, kq2, vq2⟩ := hQ2
  have N2 := Fr.app N0 Nq2
  have O2 : Old Z n0 T2.heap := O1.keep kq2 (allS g_b1 all0)
  have K2 : Keep h0 T2.heap [] := K1.trans kq2 (allS (Or.inr sz_b1) all0)
  refine Go.st (f' := (mkF m 12 #[rv a1, iv 0, iv 2, rv b1, .unset, .unset] [(.int 2)])) (fun _ k => st2 _ k) ?_
  refine Go.st (f' := (mkF m 14 #[rv a1, iv 0, iv 2, rv b1, iv 2, .unset] [])) (fun _ k => XS.istore X2.here hx rfl (hb hby d36_12) rfl (l' := #[rv a1, iv 0, iv 2, rv b1, iv 2, .unset]) rfl k) ?_
  refine Go.st (f' := (mkF m 16 #[rv a1, iv 0, iv 2, rv b1, iv 2, .unset] [(.int 2)])) (fun _ k => XS.iload X2.here hx rfl (hb hby d36_14) rfl k) ?_
  refine Go.st (f' := (mkF m 17 #[rv a1, iv 0, iv 2, rv b1, iv 2, .unset] [(.int 2), (.int 2)])) (fun _ k => XS.iloadN X2.here hx rfl (hb hby d36_16) rfl k) ?_
  refine Go.st (f' := (mkF m 57 #[rv a1, iv 0, iv 2, rv b1, iv 2, .unset] [])) (fun _ k => XS.icmpYes X2.here hx rfl (pc0 := 17) (pc' := 57) rfl (hb hby d36_17) rfl (by decide) (by decide) (by decide) k) ?_
  refine Go.st (f' := (mkF m 58 #[rv a1, iv 0, iv 2, rv b1, iv 2, .unset] [(.ref b1)])) (fun _ k => XS.aloadN X2.here hx rfl (hb hby d36_57) rfl rfl k) ?_
  refine Go.retV X2 hlk hx (t := (.array .byte)) hret rfl (Or.inr (Or.inr (Or.inr (Or.inr ⟨rfl, rfl, rfl⟩)))) (hb hby d36_58) rfl ?_ (by decide) (by decide)
  exact ⟨b1, kc1, rfl, N2, sz_b1, K2, vq2⟩
set_option maxRecDepth 65536 in
set_option maxHeartbeats 40000000 in
theorem stc_2 (l : Launch) (Z : State) (a0 : Array Value) (hw : ∀ d ∈ tables_1, d.before a0 Z = true) (ws : List Jvm.Cond) (a1 : Addr) (k1 : ClassId) (x0 : Int32) (x1 : Int32) (h0 : Heap) (n0 : Nat) (O0 : Old Z n0 h0) (V_a1 : Arv Z h0 a1 k1 .byte (2 : Int32) [(.int x0), (.int x1)] (.int 0)) :
    Con l Z (⟨"java/lang/StringUTF16", "coderFromArrayLen", "([BI)B"⟩ : MethodName) jdk_52_method_15_code 2 (some .byte) ws ({ frames := 0, cells := 0, slots := 0, locals := 0 } : Room) #[(.ref a1), (.int 2)] h0 (fun v h L => v = some (.int 0) ∧ Fr n0 L ∧ h = h0) := by
  refine own_body (plainFor_of_name pn_java_lang_StringUTF16) ?_
  intro p e s m below meth c s₁ hx hby hml hZ hown hnm hlk hret X0 e0
  have N0 := Fr.nil n0
  refine Go.st (T' := s₁) (f' := (mkF m 0 #[rv a1, iv 2] [])) (fun _ k => castTop (by first | (simp [entryFrame, mkF, argsToLocals, Value.category]; done) | rfl) k) ?_
  have lt_a1 := V_a1.lt
  refine Go.st (f' := (mkF m 1 #[rv a1, iv 2] [(.int 2)])) (fun _ k => XS.iloadN X0.here hx rfl (hb hby d38_0) rfl k) ?_
  refine Go.st (f' := (mkF m 2 #[rv a1, iv 2] [(.ref a1), (.int 2)])) (fun _ k => XS.aloadN X0.here hx rfl (hb hby d38_1) rfl rfl k) ?_
  obtain ⟨cl1, Ar1, -, S1, Nx1, -, -⟩ := id V_a1
  refine Go.st (T' := s₁) (f' := (mkF m 3 #[rv a1, iv 2] [(.int 2), (.int 2)])) (fun _ k => X0.arraylength hx (by rw [e0]; exact Ar1.1) (State.isArrayOf_alike hZ.alike Ar1.2.1) (g := (mkF m 2 #[rv a1, iv 2] [(.ref a1), (.int 2)])) rfl rfl (hb hby d38_2) _ (by rw [len_of S1 Nx1]; exact k)) ?_
  refine Go.st (f' := (mkF m 4 #[rv a1, iv 2] [(.int 0)])) (fun _ k => XS.isub X0.here hx rfl (hb hby d38_3) rfl k) ?_
  refine Go.st (f' := (mkF m 6 #[rv a1, iv 2] [(.int 31), (.int 0)])) (fun _ k => XS.bipush X0.here hx rfl (hb hby d38_4) k) ?_
  refine Go.st (f' := (mkF m 7 #[rv a1, iv 2] [(.int 0)])) (fun _ k => XS.iushr X0.here hx rfl (hb hby d38_6) rfl k) ?_
  refine Go.st (f' := (mkF m 8 #[rv a1, iv 2] [(.int 0)])) (fun _ k => XS.i2b X0.here hx rfl (hb hby d38_7) rfl k) ?_
  refine Go.retB X0 hlk hx (t := .byte) hret (by simp) (hb hby d38_8) e0 ?_ (by decide) (by decide)
  exact ⟨rfl, N0, rfl⟩
set_option maxRecDepth 65536 in
set_option maxHeartbeats 40000000 in
theorem stv_2 (l : Launch) (Z : State) (a0 : Array Value) (hw : ∀ d ∈ tables_1, d.before a0 Z = true) (ws : List Jvm.Cond) (a0b : Addr) (a1 : Addr) (k1 : ClassId) (c0 : Int32) (c1 : Int32) (w_ERROR : Addr) (w_WARNING : Addr) (i_COMPACT_STRINGS : Int32) (v_SIOOBE_FORMATTER : Value) (h0 : Heap) (n0 : Nat) (O0 : Old Z n0 h0) (hc_c0 : ¬ (255 : Int32) < c0) (hc_c1 : ¬ (255 : Int32) < c1) (g_a0b : n0 ≤ a0b) (nb1 : a0b ≠ a1) (E_a0b : Exa Z h0 a0b "java/lang/String") (F_a0b_coder : Fld Z h0 a0b "java/lang/String" "coder" "B" (.int 0)) (F_a0b_value : Fld Z h0 a0b "java/lang/String" "value" "[B" .null) (V_a1 : Arv Z h0 a1 k1 .char (2 : Int32) [(.int c0), (.int c1)] (.int 0)) (WW : World1 Z w_ERROR w_WARNING i_COMPACT_STRINGS v_SIOOBE_FORMATTER) :
    Con l Z (⟨"java/lang/String", "<init>", "([CIILjava/lang/Void;)V"⟩ : MethodName) jdk_42_method_149_code 6 none ws ({ frames := 2, cells := 1, slots := 2, locals := 35 } : Room) #[(.ref a0b), (.ref a1), (.int 0), (.int 2), .null] h0 (fun v h L => v = none ∧ Fr n0 L ∧ Keep h0 h [a0b] ∧ Exa Z h a0b "java/lang/String" ∧ Fld Z h a0b "java/lang/String" "coder" "B" (.int 0) ∧ ∃ (t : Addr) (kt : ClassId), h0.size ≤ t ∧ Fld Z h a0b "java/lang/String" "value" "[B" (.ref t) ∧ Arv Z h t kt .byte (2 : Int32) [(.int (nar .byte (c0.toInt8.toInt32))), (.int (nar .byte (c1.toInt8.toInt32)))] (.int 0)) := by
  refine own_body (plainFor_of_name pn_java_lang_String) ?_
  intro p e s m below meth c s₁ hx hby hml hZ hown hnm hlk hret X0 e0
  have N0 := Fr.nil n0
  have K0 : Keep h0 h0 [a0b] := Keep.refl _ _
  refine Go.st (T' := s₁) (f' := (mkF m 0 #[rv a0b, rv a1, iv 0, iv 2, .val .null, .unset] [])) (fun _ k => castTop (by first | (simp [entryFrame, mkF, argsToLocals, Value.category]; done) | rfl) k) ?_
  have ⟨S_i_COMPACT_STRINGS, nz_i_COMPACT_STRINGS, S_v_SIOOBE_FORMATTER, r_v_SIOOBE_FORMATTER, S_w_ERROR, E_w_ERROR, S_w_WARNING, E_w_WARNING⟩ := WW
  have lt_w_ERROR := E_w_ERROR.lt
  have lt_w_WARNING := E_w_WARNING.lt
  have lt_a0b := E_a0b.lt
  have ne_w_ERROR_a0b : w_ERROR ≠ a0b := O0.ne lt_w_ERROR g_a0b
  have ne_w_WARNING_a0b : w_WARNING ≠ a0b := O0.ne lt_w_WARNING g_a0b
  have lt_a1 := V_a1.lt
  refine Go.st (f' := (mkF m 1 #[rv a0b, rv a1, iv 0, iv 2, .val .null, .unset] [(.ref a0b)])) (fun _ k => XS.aloadN X0.here hx rfl (hb hby d3_0) rfl rfl k) ?_
  obtain ⟨T1, X1, e1, st1⟩ := initO X0 hx hZ hown (ww hw 18 rfl) (ww hw 19 rfl) (ww hw 20 rfl) e0 (g := (mkF m 1 #[rv a0b, rv a1, iv 0, iv 2, .val .null, .unset] [(.ref a0b)])) rfl (by rw [hml]; rfl) rfl (hb hby d3_1) (by decide) (W := 0) (by show 2 * 0 + _ ≤ _; exact Nat.le_of_eq rfl) (by decide)
  refine Go.st (f' := (mkF m 4 #[rv a0b, rv a1, iv 0, iv 2, .val .null, .unset] [])) (fun _ k => st1 _ k) ?_
  refine Go.st (f' := (mkF m 5 #[rv a0b, rv a1, iv 0, iv 2, .val .null, .unset] [(.int 2)])) (fun _ k => XS.iloadN X1.here hx rfl (hb hby d3_4) rfl k) ?_
  refine Go.st (f' := (mkF m 27 #[rv a0b, rv a1, iv 0, iv 2, .val .null, .unset] [])) (fun _ k => XS.ifYes X1.here hx rfl (pc0 := 5) (pc' := 27) rfl (hb hby d3_5) rfl (by decide) (by decide) (by decide) k) ?_
  obtain ⟨T2, X2, e2, st2⟩ := getS2 X1 hx hZ hown (host := "") (Or.inl (ww hw 97 rfl)) Via.refl e1 (S_i_COMPACT_STRINGS.ext O0.2) (g := (mkF m 27 #[rv a0b, rv a1, iv 0, iv 2, .val .null, .unset] [])) rfl (hb hby d3_27)
  refine Go.st (f' := (mkF m 30 #[rv a0b, rv a1, iv 0, iv 2, .val .null, .unset] [(.int i_COMPACT_STRINGS)])) (fun _ k => st2 _ k) ?_
  refine Go.st (f' := (mkF m 33 #[rv a0b, rv a1, iv 0, iv 2, .val .null, .unset] [])) (fun _ k => XS.ifNo X2.here hx rfl (hb hby d3_30) rfl ((if0 _ _).trans (feq nz_i_COMPACT_STRINGS).1) k) ?_
  refine Go.st (f' := (mkF m 34 #[rv a0b, rv a1, iv 0, iv 2, .val .null, .unset] [(.ref a1)])) (fun _ k => XS.aloadN X2.here hx rfl (hb hby d3_33) rfl rfl k) ?_
  refine Go.st (f' := (mkF m 35 #[rv a0b, rv a1, iv 0, iv 2, .val .null, .unset] [(.int 0), (.ref a1)])) (fun _ k => XS.iloadN X2.here hx rfl (hb hby d3_34) rfl k) ?_
  refine Go.st (f' := (mkF m 36 #[rv a0b, rv a1, iv 0, iv 2, .val .null, .unset] [(.int 2), (.int 0), (.ref a1)])) (fun _ k => XS.iloadN X2.here hx rfl (hb hby d3_35) rfl k) ?_
  obtain ⟨_, _, ⟨T3, L3, kk3, nn3⟩, -, X3, ⟨Lc3, hQ3, lq3, yq3, zz3⟩, st3⟩ := Jvm.LawKit.callS X2 hx (y := (⟨"java/lang/StringUTF16", "compress", "([CII)[B"⟩ : MethodName)) hown (mvT hZ (ww hw 197 rfl)) (mvT hZ (ww hw 198 rfl)) (mvT hZ (ww hw 199 rfl)) (mvT hZ (ww hw 200 rfl)) (by decide) (own_back (W := 0) (st3_2 l Z a0 hw [] a1 k1 c0 c1 h0 n0 O0 hc_c0 hc_c1 V_a1) hZ (ww hw 200 rfl) (ww hw 199 rfl) (by decide) (by decide)) (g := (mkF m 36 #[rv a0b, rv a1, iv 0, iv 2, .val .null, .unset] [(.int 2), (.int 0), (.ref a1)])) rfl (by rw [hml]; rfl) (argsL := [(.ref a1), (.int (0 : Int32)), (.int (2 : Int32))]) (rest := []) (lenOf pd___CII__B rfl) rfl (by show 2 * 0 + _ ≤ _; exact Nat.le_of_eq rfl) (hb hby d3_36) (fun _ _ => ⟨rfl, e2, (by decide : 0 + 1 ≤ _), (by decide : 0 + 2 ≤ _)⟩)
  dsimp only [Pt.U, Pt.locs, Pt.cells, Pt.slots] at X3 lq3 yq3 zz3 st3 hQ3
  subst lq3 yq3 zz3
  obtain ⟨b3, kb3, rfl, Nq3, zq3, kq3, vq3⟩ := hQ3
  have N3 := Fr.app N0 Nq3
  have ne_a0b_b3 : a0b ≠ b3 := Nat.ne_of_lt (Nat.lt_of_lt_of_le lt_a0b zq3)
  have ne_a1_b3 : a1 ≠ b3 := Nat.ne_of_lt (Nat.lt_of_lt_of_le lt_a1 zq3)
  have ne_w_ERROR_b3 : w_ERROR ≠ b3 := Nat.ne_of_lt (Nat.lt_of_lt_of_le lt_w_ERROR (Nat.le_trans O0.2.1 zq3))
  have ne_w_WARNING_b3 : w_WARNING ≠ b3 := Nat.ne_of_lt (Nat.lt_of_lt_of_le lt_w_WARNING (Nat.le_trans O0.2.1 zq3))
  have g_b3 : n0 ≤ b3 := Nat.le_trans (O0.1 ▸ O0.2.1) zq3
  have sz_b3 : h0.size ≤ b3 := Nat.le_trans K0.1 zq3
  have O3 : Old Z n0 T3.heap := O0.keep kq3 all0
  have K3 : Keep h0 T3.heap [a0b] := K0.trans kq3 all0
  have lt_b3 := vq3.lt
  refine Go.st (f' := (mkF m 39 #[rv a0b, rv a1, iv 0, iv 2, .val .null, .unset] [(.ref b3)])) (fun _ k => st3 _ k) ?_
  refine Go.st (f' := (mkF m 41 #[rv a0b, rv a1, iv 0, iv 2, .val .null, rv b3] [])) (fun _ k => XS.astore X3.here hx rfl (hb hby d3_39) rfl rfl (l' := #[rv a0b, rv a1, iv 0, iv 2, .val .null, rv b3]) rfl k) ?_
  refine Go.st (f' := (mkF m 42 #[rv a0b, rv a1, iv 0, iv 2, .val .null, rv b3] [(.ref a0b)])) (fun _ k => XS.aloadN X3.here hx rfl (hb hby d3_41) rfl rfl k) ?_
  refine Go.st (f' := (mkF m 44 #[rv a0b, rv a1, iv 0, iv 2, .val .null, rv b3] [(.ref b3), (.ref a0b)])) (fun _ k => XS.aload X3.here hx rfl (hb hby d3_42) rfl rfl k) ?_
  refine Go.st (f' := (mkF m 45 #[rv a0b, rv a1, iv 0, iv 2, .val .null, rv b3] [(.int 2), (.ref b3), (.ref a0b)])) (fun _ k => XS.iloadN X3.here hx rfl (hb hby d3_44) rfl k) ?_
  obtain ⟨_, _, ⟨T4, L4, kk4, nn4⟩, -, X4, ⟨Lc4, hQ4, lq4, yq4, zz4⟩, st4⟩ := Jvm.LawKit.callS X3 hx (y := (⟨"java/lang/StringUTF16", "coderFromArrayLen", "([BI)B"⟩ : MethodName)) hown (mvT hZ (ww hw 204 rfl)) (mvT hZ (ww hw 205 rfl)) (mvT hZ (ww hw 199 rfl)) (mvT hZ (ww hw 206 rfl)) (by decide) (own_back (W := 1) (stc_2 l Z a0 hw [] b3 kb3 (nar .byte (c0.toInt8.toInt32)) (nar .byte (c1.toInt8.toInt32)) T3.heap n0 O3 vq3) hZ (ww hw 206 rfl) (ww hw 199 rfl) (by decide) (by decide)) (g := (mkF m 45 #[rv a0b, rv a1, iv 0, iv 2, .val .null, rv b3] [(.int 2), (.ref b3), (.ref a0b)])) rfl (by rw [hml]; rfl) (argsL := [(.ref b3), (.int (2 : Int32))]) (rest := [(.ref a0b)]) (lenOf pd___BI_B rfl) rfl (by show 2 * 0 + _ ≤ _; exact Nat.le_of_eq rfl) (hb hby d3_45) (fun _ _ => ⟨rfl, rfl, (by decide : 1 + 0 ≤ _), (by decide : 2 + 0 ≤ _)⟩)
  dsimp only [Pt.U, Pt.locs, Pt.cells, Pt.slots] at X4 lq4 yq4 zz4 st4 hQ4
  subst lq4 yq4 zz4
  obtain ⟨rfl, Nq4, kq4⟩ := hQ4
  have N4 := Fr.app N3 Nq4
  refine Go.st (f' := (mkF m 48 #[rv a0b, rv a1, iv 0, iv 2, .val .null, rv b3] [(.int 0), (.ref a0b)])) (fun _ k => st4 _ k) ?_
  have ft5 := (E_a0b.keep kq3)
  have ft6 := (F_a0b_coder.keep kq3 nin0)
  obtain ⟨T7, h7, X7, e7, W7, st7⟩ := putFN X4 hx hZ hown (ww hw 28 rfl) Via.refl kq4 ft6 ft5 (Or.inr ⟨(ww hw 24 rfl), rfl, hnm⟩) (ww hw 8 rfl) (ty := .byte) (v' := (.int (0 : Int32))) (by decide) rfl (by decide) (g := (mkF m 48 #[rv a0b, rv a1, iv 0, iv 2, .val .null, rv b3] [(.int 0), (.ref a0b)])) rfl rfl (hb hby d3_48)
  have N7 := Fr.snoc X7 N4 g_a0b
  have O7 : Old Z n0 h7 := O3.wr W7 g_a0b
  have K7 : Keep h0 h7 [a0b] := K3.wr W7 (Or.inl (List.mem_of_getElem? (i := 0) rfl))
  have Fw7 := ft6.same W7
  refine Go.st (f' := (mkF m 51 #[rv a0b, rv a1, iv 0, iv 2, .val .null, rv b3] [])) (fun _ k => st7 _ k) ?_
  refine Go.st (f' := (mkF m 52 #[rv a0b, rv a1, iv 0, iv 2, .val .null, rv b3] [(.ref a0b)])) (fun _ k => XS.aloadN X7.here hx rfl (hb hby d3_51) rfl rfl k) ?_
  refine Go.st (f' := (mkF m 54 #[rv a0b, rv a1, iv 0, iv 2, .val .null, rv b3] [(.ref b3), (.ref a0b)])) (fun _ k => XS.aload X7.here hx rfl (hb hby d3_52) rfl rfl k) ?_
  have ft8 := (ft5.wr W7)
  have ft9 := ((F_a0b_value.keep kq3 nin0).other W7 (Or.inr (slot_ne (Or.inr (ww hw 23 rfl)) (Or.inr (ww hw 24 rfl)) (by decide) (t := (.array .byte)) (t' := .byte) (by decide) (by decide))))
  obtain ⟨T10, h10, X10, e10, W10, st10⟩ := putF X7 hx hZ hown (host := "") (Or.inl (ww hw 27 rfl)) Via.refl e7 ft9 ft8 (Or.inr ⟨(ww hw 23 rfl), rfl, hnm⟩) (ww hw 8 rfl) (ty := (.array .byte)) (by decide) rfl rfl (g := (mkF m 54 #[rv a0b, rv a1, iv 0, iv 2, .val .null, rv b3] [(.ref b3), (.ref a0b)])) rfl rfl (hb hby d3_54)
  have N10 := Fr.snoc X10 N7 g_a0b
  have O10 : Old Z n0 h10 := O7.wr W10 g_a0b
  have K10 : Keep h0 h10 [a0b] := K7.wr W10 (Or.inl (List.mem_of_getElem? (i := 0) rfl))
  have Fw10 := ft9.same W10
  refine Go.st (f' := (mkF m 57 #[rv a0b, rv a1, iv 0, iv 2, .val .null, rv b3] [])) (fun _ k => st10 _ k) ?_
  refine Go.ret0 X10 hlk hx hret (hb hby d3_57) e10 ?_ (by decide) (by decide)
  have ft11 := (ft8.wr W10)
  have ft12 := (Fw7.other W10 (Or.inr (slot_ne (Or.inr (ww hw 24 rfl)) (Or.inr (ww hw 23 rfl)) (by decide) (t := .byte) (t' := (.array .byte)) (by decide) (by decide))))
  have ft13 := ((vq3.other W7 (Ne.symm ne_a0b_b3)).other W10 (Ne.symm ne_a0b_b3))
  exact ⟨rfl, N10, K10, ft11, ft12, b3, kb3, sz_b3, Fw10, ft13⟩
set_option maxRecDepth 65536 in
set_option maxHeartbeats 40000000 in
theorem st1_2 (l : Launch) (Z : State) (a0 : Array Value) (hw : ∀ d ∈ tables_1, d.before a0 Z = true) (ws : List Jvm.Cond) (a0b : Addr) (a1 : Addr) (k1 : ClassId) (c0 : Int32) (c1 : Int32) (w_ERROR : Addr) (w_WARNING : Addr) (i_COMPACT_STRINGS : Int32) (v_SIOOBE_FORMATTER : Value) (h0 : Heap) (n0 : Nat) (O0 : Old Z n0 h0) (hc_c0 : ¬ (255 : Int32) < c0) (hc_c1 : ¬ (255 : Int32) < c1) (g_a0b : n0 ≤ a0b) (nb1 : a0b ≠ a1) (E_a0b : Exa Z h0 a0b "java/lang/String") (F_a0b_coder : Fld Z h0 a0b "java/lang/String" "coder" "B" (.int 0)) (F_a0b_value : Fld Z h0 a0b "java/lang/String" "value" "[B" .null) (V_a1 : Arv Z h0 a1 k1 .char (2 : Int32) [(.int c0), (.int c1)] (.int 0)) (WW : World1 Z w_ERROR w_WARNING i_COMPACT_STRINGS v_SIOOBE_FORMATTER) :
    Con l Z (⟨"java/lang/String", "<init>", "([C)V"⟩ : MethodName) jdk_42_method_3_code 2 none ws ({ frames := 3, cells := 1, slots := 2, locals := 52 } : Room) #[(.ref a0b), (.ref a1)] h0 (fun v h L => v = none ∧ Fr n0 L ∧ Keep h0 h [a0b] ∧ Exa Z h a0b "java/lang/String" ∧ Fld Z h a0b "java/lang/String" "coder" "B" (.int 0) ∧ ∃ (t : Addr) (kt : ClassId), h0.size ≤ t ∧ Fld Z h a0b "java/lang/String" "value" "[B" (.ref t) ∧ Arv Z h t kt .byte (2 : Int32) [(.int (nar .byte (c0.toInt8.toInt32))), (.int (nar .byte (c1.toInt8.toInt32)))] (.int 0)) := by
  refine own_body (plainFor_of_name pn_java_lang_String) ?_
  intro p e s m below meth c s₁ hx hby hml hZ hown hnm hlk hret X0 e0
  have N0 := Fr.nil n0
  have K0 : Keep h0 h0 [a0b] := Keep.refl _ _
  refine Go.st (T' := s₁) (f' := (mkF m 0 #[rv a0b, rv a1] [])) (fun _ k => castTop (by first | (simp [entryFrame, mkF, argsToLocals, Value.category]; done) | rfl) k) ?_
  have ⟨S_i_COMPACT_STRINGS, nz_i_COMPACT_STRINGS, S_v_SIOOBE_FORMATTER, r_v_SIOOBE_FORMATTER, S_w_ERROR, E_w_ERROR, S_w_WARNING, E_w_WARNING⟩ := WW
  have lt_w_ERROR := E_w_ERROR.lt
  have lt_w_WARNING := E_w_WARNING.lt
  have lt_a0b := E_a0b.lt
  have ne_w_ERROR_a0b : w_ERROR ≠ a0b := O0.ne lt_w_ERROR g_a0b
  have ne_w_WARNING_a0b : w_WARNING ≠ a0b := O0.ne lt_w_WARNING g_a0b
  have lt_a1 := V_a1.lt
  refine Go.st (f' := (mkF m 1 #[rv a0b, rv a1] [(.ref a0b)])) (fun _ k => XS.aloadN X0.here hx rfl (hb hby d2_0) rfl rfl k) ?_
  refine Go.st (f' := (mkF m 2 #[rv a0b, rv a1] [(.ref a1), (.ref a0b)])) (fun _ k => XS.aloadN X0.here hx rfl (hb hby d2_1) rfl rfl k) ?_
  refine Go.st (f' := (mkF m 3 #[rv a0b, rv a1] [(.int 0), (.ref a1), (.ref a0b)])) (fun _ k => XS.iconst X0.here hx rfl (hb hby d2_2) k) ?_
  refine Go.st (f' := (mkF m 4 #[rv a0b, rv a1] [(.ref a1), (.int 0), (.ref a1), (.ref a0b)])) (fun _ k => XS.aloadN X0.here hx rfl (hb hby d2_3) rfl rfl k) ?_
  obtain ⟨cl1, Ar1, -, S1, Nx1, -, -⟩ := id V_a1
  refine Go.st (T' := s₁) (f' := (mkF m 5 #[rv a0b, rv a1] [(.int 2), (.int 0), (.ref a1), (.ref a0b)])) (fun _ k => X0.arraylength hx (by rw [e0]; exact Ar1.1) (State.isArrayOf_alike hZ.alike Ar1.2.1) (g := (mkF m 4 #[rv a0b, rv a1] [(.ref a1), (.int 0), (.ref a1), (.ref a0b)])) rfl rfl (hb hby d2_4) _ (by rw [len_of S1 Nx1]; exact k)) ?_
  refine Go.st (f' := (mkF m 6 #[rv a0b, rv a1] [.null, (.int 2), (.int 0), (.ref a1), (.ref a0b)])) (fun _ k => XS.aconstNull X0.here hx rfl (hb hby d2_5) k) ?_
  obtain ⟨_, _, ⟨T2, L2, kk2, nn2⟩, -, X2, ⟨Lc2, hQ2, lq2, yq2, zz2⟩, st2⟩ := X0.specialBack hx (y := (⟨"java/lang/String", "<init>", "([CIILjava/lang/Void;)V"⟩ : MethodName)) rfl hown (mvT hZ (ww hw 14 rfl)) (mvT hZ (ww hw 15 rfl)) (mvT hZ (ww hw 17 rfl)) (by decide) (own_back (W := 0) (stv_2 l Z a0 hw [] a0b a1 k1 c0 c1 w_ERROR w_WARNING i_COMPACT_STRINGS v_SIOOBE_FORMATTER h0 n0 O0 hc_c0 hc_c1 g_a0b nb1 E_a0b F_a0b_coder F_a0b_value V_a1 WW) hZ (ww hw 17 rfl) (ww hw 9 rfl) (by decide) (by decide)) (g := (mkF m 6 #[rv a0b, rv a1] [.null, (.int 2), (.int 0), (.ref a1), (.ref a0b)])) rfl (by rw [hml]; rfl) (Steps.refl _) (a := a0b) (argsL := [(.ref a1), (.int (0 : Int32)), (.int (2 : Int32)), .null]) (rest := []) (lenOf pd___CIILjava_lang_Void__V rfl) rfl (by show 2 * 0 + _ ≤ _; exact Nat.le_of_eq rfl) (hb hby d2_6) (fun _ _ => ⟨rfl, e0, (by decide : 0 + 1 ≤ _), (by decide : 0 + 2 ≤ _)⟩)
  dsimp only [Pt.U, Pt.locs, Pt.cells, Pt.slots] at X2 lq2 yq2 zz2 st2 hQ2
  subst lq2 yq2 zz2
  obtain ⟨rfl, Nq2, kq2, eq2, cq2, tt2, kt2, zq2, fq2, vq2⟩ := hQ2
  have N2 := Fr.app N0 Nq2
  have ne_a0b_tt2 : a0b ≠ tt2 := Nat.ne_of_lt (Nat.lt_of_lt_of_le lt_a0b zq2)
  have ne_a1_tt2 : a1 ≠ tt2 := Nat.ne_of_lt (Nat.lt_of_lt_of_le lt_a1 zq2)
  have ne_w_ERROR_tt2 : w_ERROR ≠ tt2 := Nat.ne_of_lt (Nat.lt_of_lt_of_le lt_w_ERROR (Nat.le_trans O0.2.1 zq2))
  have ne_w_WARNING_tt2 : w_WARNING ≠ tt2 := Nat.ne_of_lt (Nat.lt_of_lt_of_le lt_w_WARNING (Nat.le_trans O0.2.1 zq2))
  have g_tt2 : n0 ≤ tt2 := Nat.le_trans (O0.1 ▸ O0.2.1) zq2
  have sz_tt2 : h0.size ≤ tt2 := Nat.le_trans K0.1 zq2
  have O2 : Old Z n0 T2.heap := O0.keep kq2 (allS g_a0b all0)
  have K2 : Keep h0 T2.heap [a0b] := K0.trans kq2 (allS (Or.inl (List.mem_of_getElem? (i := 0) rfl)) all0)
  have lt_tt2 := vq2.lt
  refine Go.tr (f' := (mkF m 9 #[rv a0b, rv a1] [])) st2 ?_
  refine Go.ret0 X2 hlk hx hret (hb hby d2_9) rfl ?_ (by decide) (by decide)
  exact ⟨rfl, N2, K2, eq2, cq2, tt2, kt2, sz_tt2, fq2, vq2⟩
theorem own_neArv {Z : State} {h : Heap} {a b : Addr} {k1 k2 : ClassId} {t1 t2 : FieldType} {z1 z2 : Int32} {v1 v2 : List Value} {d1 d2 : Value} (A : Arv Z h a k1 t1 z1 v1 d1) (B : Arv Z h b k2 t2 z2 v2 d2) (q : t1 ≠ t2) : a ≠ b := fun e => by
  subst e
  obtain ⟨c, ⟨c1, ⟨-, k, c2, comp, c3⟩, -⟩, -⟩ := A
  obtain ⟨c', ⟨d1, ⟨-, k', d2, comp', d3⟩, -⟩, -⟩ := B
  cases c1.symm.trans d1
  cases c2.symm.trans d2
  have := c3.symm.trans d3
  injection this with _ e
  exact q e

theorem d3_8 : decode jdk_42_method_149_code 8 = .ok (.aload_n 0, 1) := by decide +kernel
theorem d3_9 : decode jdk_42_method_149_code 9 = .ok (.ldc 7, 2) := by decide +kernel
theorem d3_11 : decode jdk_42_method_149_code 11 = .ok (.getfield 9, 3) := by decide +kernel
theorem d3_14 : decode jdk_42_method_149_code 14 = .ok (.putfield 9, 3) := by decide +kernel
theorem d3_17 : decode jdk_42_method_149_code 17 = .ok (.aload_n 0, 1) := by decide +kernel
theorem d3_18 : decode jdk_42_method_149_code 18 = .ok (.ldc 7, 2) := by decide +kernel
theorem d3_20 : decode jdk_42_method_149_code 20 = .ok (.getfield 15, 3) := by decide +kernel
theorem d3_23 : decode jdk_42_method_149_code 23 = .ok (.putfield 15, 3) := by decide +kernel
theorem d3_26 : decode jdk_42_method_149_code 26 = .ok (.return_, 1) := by decide +kernel
set_option maxRecDepth 65536 in
set_option maxHeartbeats 40000000 in
theorem sv_0 (l : Launch) (Z : State) (a0 : Array Value) (hw : ∀ d ∈ tables_1, d.before a0 Z = true) (ws : List Jvm.Cond) (a0b : Addr) (a1 : Addr) (w_ERROR : Addr) (w_WARNING : Addr) (i_COMPACT_STRINGS : Int32) (v_SIOOBE_FORMATTER : Value) (h0 : Heap) (n0 : Nat) (O0 : Old Z n0 h0) (g_a0b : n0 ≤ a0b) (E_a0b : Exa Z h0 a0b "java/lang/String") (F_a0b_coder : Fld Z h0 a0b "java/lang/String" "coder" "B" (.int 0)) (F_a0b_value : Fld Z h0 a0b "java/lang/String" "value" "[B" .null) (WW : World1 Z w_ERROR w_WARNING i_COMPACT_STRINGS v_SIOOBE_FORMATTER) :
    ConW l Z EL (⟨"java/lang/String", "<init>", "([CIILjava/lang/Void;)V"⟩ : MethodName) jdk_42_method_149_code 6 none ws ({ frames := 1, cells := 4, slots := 8, locals := 12 } : Room) #[(.ref a0b), (.ref a1), (.int 0), (.int 0), .null] h0 (fun v h L => v = none ∧ Fr n0 L ∧ Keep h0 h [a0b] ∧ Exa Z h a0b "java/lang/String" ∧ Fld Z h a0b "java/lang/String" "coder" "B" (.int 0) ∧ ∃ (t : Addr) (kt : ClassId), Fld Z h a0b "java/lang/String" "value" "[B" (.ref t) ∧ Arv Z h t kt .byte (0 : Int32) [] (.int 0)) := by
  refine own_bodyW (plainFor_of_name pn_java_lang_String) ?_
  intro p e s m below meth c s₁ hx hby hml hZ hown hnm hlk hret X0 e0 hh hS CR0
  have hEL := own_EL hw
  have wS := own_wS hw
  have N0 := Fr.nil n0
  have K0 : Keep h0 h0 [a0b] := Keep.refl _ _
  refine Go.st (T' := s₁) (f' := (mkF m 0 #[rv a0b, rv a1, iv 0, iv 0, .val .null, .unset] [])) (fun _ k => castTop (by first | (simp [entryFrame, mkF, argsToLocals, Value.category]; done) | rfl) k) ?_
  have ⟨S_i_COMPACT_STRINGS, nz_i_COMPACT_STRINGS, S_v_SIOOBE_FORMATTER, r_v_SIOOBE_FORMATTER, S_w_ERROR, E_w_ERROR, S_w_WARNING, E_w_WARNING⟩ := WW
  have lt_w_ERROR := E_w_ERROR.lt
  have lt_w_WARNING := E_w_WARNING.lt
  have lt_a0b := E_a0b.lt
  have ne_w_ERROR_a0b : w_ERROR ≠ a0b := O0.ne lt_w_ERROR g_a0b
  have ne_w_WARNING_a0b : w_WARNING ≠ a0b := O0.ne lt_w_WARNING g_a0b
  have sf_a0b : Safe Z EL s.vm h0 a0b := own_safe0 hZ.alike E_a0b F_a0b_value
  refine Go.st (f' := (mkF m 1 #[rv a0b, rv a1, iv 0, iv 0, .val .null, .unset] [(.ref a0b)])) (fun _ k => XS.aloadN X0.here hx rfl (hb hby d3_0) rfl rfl k) ?_
  obtain ⟨T1, X1, e1, st1⟩ := initO X0 hx hZ hown (ww hw 18 rfl) (ww hw 19 rfl) (ww hw 20 rfl) e0 (g := (mkF m 1 #[rv a0b, rv a1, iv 0, iv 0, .val .null, .unset] [(.ref a0b)])) rfl (by rw [hml]; rfl) rfl (hb hby d3_1) (by decide) (W := 0) (by show 2 * 0 + _ ≤ _; exact Nat.le_of_eq rfl) (by decide)
  refine Go.st (f' := (mkF m 4 #[rv a0b, rv a1, iv 0, iv 0, .val .null, .unset] [])) (fun _ k => st1 _ k) ?_
  refine Go.st (f' := (mkF m 5 #[rv a0b, rv a1, iv 0, iv 0, .val .null, .unset] [(.int 0)])) (fun _ k => XS.iloadN X1.here hx rfl (hb hby d3_4) rfl k) ?_
  refine Go.st (f' := (mkF m 8 #[rv a0b, rv a1, iv 0, iv 0, .val .null, .unset] [])) (fun _ k => XS.ifNo X1.here hx rfl (hb hby d3_5) rfl (by decide) k) ?_
  refine Go.st (f' := (mkF m 9 #[rv a0b, rv a1, iv 0, iv 0, .val .null, .unset] [(.ref a0b)])) (fun _ k => XS.aloadN X1.here hx rfl (hb hby d3_8) rfl rfl k) ?_
  obtain ⟨b2, T2, h2, k12, t2, kt2, X2, e2, E2, hS2, hk2, hZ2, hown2, A2, cq2, fq2, vq2, lt_b2, lt_t2, crw2, -, sfx2, st2⟩ := ldcCH (EL := EL) X1 hx hZ hown (ww hw 21 rfl) wS e1 hS (Nat.zero_le _) hEL (List.mem_of_getElem? (i := 1) rfl) CR0.1 (vs := []) (z := (0 : Int32)) ⟨by decide, by decide⟩ (by decide) rfl (g := (mkF m 9 #[rv a0b, rv a1, iv 0, iv 0, .val .null, .unset] [(.ref a0b)])) rfl (hb hby d3_9) (n := 0) (by decide) (by decide) (by decide) (by decide)
  have O2 : Old Z n0 h2 := O0.ext E2
  have K2 : Keep h0 h2 [a0b] := K0.ext E2
  have sf3 := crw2.safe lt_a0b sf_a0b
  have CR2 := CR0.trans crw2
  refine Go.st (f' := (mkF m 11 #[rv a0b, rv a1, iv 0, iv 0, .val .null, .unset] [(.ref b2), (.ref a0b)])) (fun _ k => st2 _ k) ?_
  obtain ⟨T4, X4, e4, st4⟩ := getF X2 hx hZ2 hown2 (host := "") (Or.inl (ww hw 27 rfl)) Via.refl e2 fq2 (g := (mkF m 11 #[rv a0b, rv a1, iv 0, iv 0, .val .null, .unset] [(.ref b2), (.ref a0b)])) rfl rfl (hb hby d3_11)
  refine Go.st (f' := (mkF m 14 #[rv a0b, rv a1, iv 0, iv 0, .val .null, .unset] [(.ref t2), (.ref a0b)])) (fun _ k => st4 _ k) ?_
  have ft5 := (E_a0b.ext E2)
  have ft6 := (F_a0b_value.ext E2)
  obtain ⟨T7, h7, X7, e7, W7, st7⟩ := putF X4 hx hZ2 hown2 (host := "") (Or.inl (ww hw 27 rfl)) Via.refl e4 ft6 ft5 (Or.inr ⟨(ww hw 23 rfl), rfl, hnm⟩) (ww hw 8 rfl) (ty := (.array .byte)) (by decide) rfl rfl (g := (mkF m 14 #[rv a0b, rv a1, iv 0, iv 0, .val .null, .unset] [(.ref t2), (.ref a0b)])) rfl rfl (hb hby d3_14)
  have N7 := Fr.snoc X7 N0 g_a0b
  have O7 : Old Z n0 h7 := O2.wr W7 g_a0b
  have K7 : Keep h0 h7 [a0b] := K2.wr W7 (Or.inl (List.mem_of_getElem? (i := 0) rfl))
  have CR7 : CHr Z EL s.vm h0 T2.vm h7 := CR2.trans (CHr.wr W7 sf3 CR2.1)
  have Fw7 := ft6.same W7
  refine Go.st (f' := (mkF m 17 #[rv a0b, rv a1, iv 0, iv 0, .val .null, .unset] [])) (fun _ k => st7 _ k) ?_
  refine Go.st (f' := (mkF m 18 #[rv a0b, rv a1, iv 0, iv 0, .val .null, .unset] [(.ref a0b)])) (fun _ k => XS.aloadN X7.here hx rfl (hb hby d3_17) rfl rfl k) ?_
  have ft9 := (Nat.le_trans hk2 (Nat.le_of_eq W7.size.symm))
  obtain ⟨b8, T8, h8, k18, t8, kt8, X8, e8, E8, hS8, hk8, hZ8, hown8, A8, cq8, fq8, vq8, lt_b8, lt_t8, crw8, -, sfx8, st8⟩ := ldcCH (EL := EL) X7 hx hZ2 hown2 (ww hw 21 rfl) wS e7 hS2 ft9 hEL (List.mem_of_getElem? (i := 1) rfl) CR7.1 (vs := []) (z := (0 : Int32)) ⟨by decide, by decide⟩ (by decide) rfl (g := (mkF m 18 #[rv a0b, rv a1, iv 0, iv 0, .val .null, .unset] [(.ref a0b)])) rfl (hb hby d3_18) (n := 0) (by decide) (by decide) (by decide) (by decide)
  have ft10 := (Safe.wr W7 sf3 CR2.1 sf3)
  have ft11 := (Nat.lt_of_lt_of_eq (Nat.lt_of_lt_of_le lt_a0b E2.1) W7.size.symm)
  have O8 : Old Z n0 h8 := O7.ext E8
  have K8 : Keep h0 h8 [a0b] := K7.ext E8
  have sf12 := crw8.safe ft11 ft10
  have CR8 := CR7.trans crw8
  refine Go.st (f' := (mkF m 20 #[rv a0b, rv a1, iv 0, iv 0, .val .null, .unset] [(.ref b8), (.ref a0b)])) (fun _ k => st8 _ k) ?_
  obtain ⟨T13, X13, e13, st13⟩ := getF X8 hx hZ8 hown8 (host := "") (Or.inl (ww hw 28 rfl)) Via.refl e8 cq8 (g := (mkF m 20 #[rv a0b, rv a1, iv 0, iv 0, .val .null, .unset] [(.ref b8), (.ref a0b)])) rfl rfl (hb hby d3_20)
  refine Go.st (f' := (mkF m 23 #[rv a0b, rv a1, iv 0, iv 0, .val .null, .unset] [(.int 0), (.ref a0b)])) (fun _ k => st13 _ k) ?_
  have ft14 := ((ft5.wr W7).ext E8)
  have ft15 := (((F_a0b_coder.ext E2).other W7 (Or.inr (slot_ne (Or.inr (ww hw 24 rfl)) (Or.inr (ww hw 23 rfl)) (by decide) (t := .byte) (t' := (.array .byte)) (by decide) (by decide)))).ext E8)
  obtain ⟨T16, h16, X16, e16, W16, st16⟩ := putFN X13 hx hZ8 hown8 (ww hw 28 rfl) Via.refl e13 ft15 ft14 (Or.inr ⟨(ww hw 24 rfl), rfl, hnm⟩) (ww hw 8 rfl) (ty := .byte) (v' := (.int (0 : Int32))) (by decide) rfl (by decide) (g := (mkF m 23 #[rv a0b, rv a1, iv 0, iv 0, .val .null, .unset] [(.int 0), (.ref a0b)])) rfl rfl (hb hby d3_23)
  have N16 := Fr.snoc X16 N7 g_a0b
  have O16 : Old Z n0 h16 := O8.wr W16 g_a0b
  have K16 : Keep h0 h16 [a0b] := K8.wr W16 (Or.inl (List.mem_of_getElem? (i := 0) rfl))
  have CR16 : CHr Z EL s.vm h0 T8.vm h16 := CR8.trans (CHr.wr W16 sf12 CR8.1)
  have Fw16 := ft15.same W16
  refine Go.st (f' := (mkF m 26 #[rv a0b, rv a1, iv 0, iv 0, .val .null, .unset] [])) (fun _ k => st16 _ k) ?_
  have ft17 := (Nat.le_trans hk8 (Nat.le_of_eq W16.size.symm))
  refine GoW.ret0 X16 hlk hx hret (hb hby d3_26) e16 hS8 ft17 hZ8 hEL CR16 hh ?_ (by decide) (by decide)
  have ft18 := (ft14.wr W16)
  have ft19 := ((Fw7.ext E8).other W16 (Or.inr (slot_ne (Or.inr (ww hw 23 rfl)) (Or.inr (ww hw 24 rfl)) (by decide) (t := (.array .byte)) (t' := .byte) (by decide) (by decide))))
  have ft20 := (((vq2.other W7 (Ne.symm (sfx2 _ sf3).2)).ext E8).other W16 (Ne.symm (sfx2 _ sf3).2))
  exact ⟨rfl, N16, K16, ft18, Fw16, t2, kt2, ft19, ft20⟩
set_option maxRecDepth 65536 in
set_option maxHeartbeats 40000000 in
theorem s1_0 (l : Launch) (Z : State) (a0 : Array Value) (hw : ∀ d ∈ tables_1, d.before a0 Z = true) (ws : List Jvm.Cond) (a0b : Addr) (a1 : Addr) (k1 : ClassId) (w_ERROR : Addr) (w_WARNING : Addr) (i_COMPACT_STRINGS : Int32) (v_SIOOBE_FORMATTER : Value) (h0 : Heap) (n0 : Nat) (O0 : Old Z n0 h0) (g_a0b : n0 ≤ a0b) (E_a0b : Exa Z h0 a0b "java/lang/String") (F_a0b_coder : Fld Z h0 a0b "java/lang/String" "coder" "B" (.int 0)) (F_a0b_value : Fld Z h0 a0b "java/lang/String" "value" "[B" .null) (V_a1 : Arv Z h0 a1 k1 .char (0 : Int32) [] (.int 0)) (WW : World1 Z w_ERROR w_WARNING i_COMPACT_STRINGS v_SIOOBE_FORMATTER) :
    ConW l Z EL (⟨"java/lang/String", "<init>", "([C)V"⟩ : MethodName) jdk_42_method_3_code 2 none ws ({ frames := 2, cells := 4, slots := 8, locals := 29 } : Room) #[(.ref a0b), (.ref a1)] h0 (fun v h L => v = none ∧ Fr n0 L ∧ Keep h0 h [a0b] ∧ Exa Z h a0b "java/lang/String" ∧ Fld Z h a0b "java/lang/String" "coder" "B" (.int 0) ∧ ∃ (t : Addr) (kt : ClassId), Fld Z h a0b "java/lang/String" "value" "[B" (.ref t) ∧ Arv Z h t kt .byte (0 : Int32) [] (.int 0)) := by
  refine own_bodyW (plainFor_of_name pn_java_lang_String) ?_
  intro p e s m below meth c s₁ hx hby hml hZ hown hnm hlk hret X0 e0 hh hS CR0
  have hEL := own_EL hw
  have wS := own_wS hw
  have N0 := Fr.nil n0
  have K0 : Keep h0 h0 [a0b] := Keep.refl _ _
  refine Go.st (T' := s₁) (f' := (mkF m 0 #[rv a0b, rv a1] [])) (fun _ k => castTop (by first | (simp [entryFrame, mkF, argsToLocals, Value.category]; done) | rfl) k) ?_
  have ⟨S_i_COMPACT_STRINGS, nz_i_COMPACT_STRINGS, S_v_SIOOBE_FORMATTER, r_v_SIOOBE_FORMATTER, S_w_ERROR, E_w_ERROR, S_w_WARNING, E_w_WARNING⟩ := WW
  have lt_w_ERROR := E_w_ERROR.lt
  have lt_w_WARNING := E_w_WARNING.lt
  have lt_a0b := E_a0b.lt
  have ne_w_ERROR_a0b : w_ERROR ≠ a0b := O0.ne lt_w_ERROR g_a0b
  have ne_w_WARNING_a0b : w_WARNING ≠ a0b := O0.ne lt_w_WARNING g_a0b
  have sf_a0b : Safe Z EL s.vm h0 a0b := own_safe0 hZ.alike E_a0b F_a0b_value
  have lt_a1 := V_a1.lt
  have nt_a0b_a1 : a0b ≠ a1 := Exa.neArv E_a0b V_a1 (ww hw 8 rfl)
  refine Go.st (f' := (mkF m 1 #[rv a0b, rv a1] [(.ref a0b)])) (fun _ k => XS.aloadN X0.here hx rfl (hb hby d2_0) rfl rfl k) ?_
  refine Go.st (f' := (mkF m 2 #[rv a0b, rv a1] [(.ref a1), (.ref a0b)])) (fun _ k => XS.aloadN X0.here hx rfl (hb hby d2_1) rfl rfl k) ?_
  refine Go.st (f' := (mkF m 3 #[rv a0b, rv a1] [(.int 0), (.ref a1), (.ref a0b)])) (fun _ k => XS.iconst X0.here hx rfl (hb hby d2_2) k) ?_
  refine Go.st (f' := (mkF m 4 #[rv a0b, rv a1] [(.ref a1), (.int 0), (.ref a1), (.ref a0b)])) (fun _ k => XS.aloadN X0.here hx rfl (hb hby d2_3) rfl rfl k) ?_
  obtain ⟨cl1, Ar1, -, S1, Nx1, -, -⟩ := id V_a1
  refine Go.st (T' := s₁) (f' := (mkF m 5 #[rv a0b, rv a1] [(.int 0), (.int 0), (.ref a1), (.ref a0b)])) (fun _ k => X0.arraylength hx (by rw [e0]; exact Ar1.1) (State.isArrayOf_alike hZ.alike Ar1.2.1) (g := (mkF m 4 #[rv a0b, rv a1] [(.ref a1), (.int 0), (.ref a1), (.ref a0b)])) rfl rfl (hb hby d2_4) _ (by rw [len_of S1 Nx1]; exact k)) ?_
  refine Go.st (f' := (mkF m 6 #[rv a0b, rv a1] [.null, (.int 0), (.int 0), (.ref a1), (.ref a0b)])) (fun _ k => XS.aconstNull X0.here hx rfl (hb hby d2_5) k) ?_
  obtain ⟨_, _, ⟨T2, L2, kk2, nn2⟩, -, Xw2, hSw2, hgw2, ⟨Lc2, hQ2, lq2, yq2, zz2, crw2⟩, st2⟩ := X0.specialBackS hx (y := (⟨"java/lang/String", "<init>", "([CIILjava/lang/Void;)V"⟩ : MethodName)) rfl hown (mvT hZ (ww hw 14 rfl)) (mvT hZ (ww hw 15 rfl)) (mvT hZ (ww hw 17 rfl)) (by decide) (own_backW (W := 0) (sv_0 l Z a0 hw [] a0b a1 w_ERROR w_WARNING i_COMPACT_STRINGS v_SIOOBE_FORMATTER h0 n0 O0 g_a0b E_a0b F_a0b_coder F_a0b_value WW) hZ (ww hw 17 rfl) (ww hw 9 rfl) (by decide) (by decide) hEL CR0.1) (g := (mkF m 6 #[rv a0b, rv a1] [.null, (.int 0), (.int 0), (.ref a1), (.ref a0b)])) rfl (by rw [hml]; rfl) (Steps.refl _) (a := a0b) (argsL := [(.ref a1), (.int (0 : Int32)), (.int (0 : Int32)), .null]) (rest := []) (lenOf pd___CIILjava_lang_Void__V rfl) rfl (by show 2 * 0 + _ ≤ _; exact Nat.le_of_eq rfl) (hb hby d2_6) (fun _ _ => ⟨rfl, e0, (by decide : 0 + 4 ≤ _), (by decide : 0 + 8 ≤ _)⟩)
  dsimp only [Pt.U, Pt.locs, Pt.cells, Pt.slots] at Xw2 lq2 yq2 zz2 st2 hQ2 hSw2 hgw2 crw2
  subst lq2 yq2 zz2
  obtain ⟨X2, hS2, hZ2, hown2⟩ := rebS hS (by rw [e0]; exact (Nat.zero_le _)) Xw2 hSw2 hgw2 hZ hown
  obtain ⟨rfl, Nq2, kq2, eq2, cq2, tt2, kt2, fq2, vq2⟩ := hQ2
  have N2 := Fr.app N0 Nq2
  have O2 : Old Z n0 T2.heap := O0.keep kq2 (allS g_a0b all0)
  have K2 : Keep h0 T2.heap [a0b] := K0.trans kq2 (allS (Or.inl (List.mem_of_getElem? (i := 0) rfl)) all0)
  have lt_tt2 := vq2.lt
  have nt_a0b_tt2 : a0b ≠ tt2 := Exa.neArv eq2 vq2 (ww hw 8 rfl)
  have ft3 := (V_a1.keep kq2 (ninS (Ne.symm nt_a0b_a1) nin0))
  have nt_a1_tt2 : a1 ≠ tt2 := own_neArv ft3 vq2 (by decide)
  have hk2 : T2.heap.size ≤ T2.heap.size := Nat.le_refl _
  have sf4 := crw2.safe lt_a0b sf_a0b
  have CR2 := CR0.trans crw2
  refine Go.tr (f' := (mkF m 9 #[rv a0b, rv a1] [])) st2 ?_
  refine GoW.ret0 X2 hlk hx hret (hb hby d2_9) rfl hS2 hk2 hZ2 hEL CR2 hh ?_ (by decide) (by decide)
  exact ⟨rfl, N2, K2, eq2, cq2, tt2, kt2, fq2, vq2⟩
theorem d8_0 : decode jdk_42_method_66_code 0 = .ok (.aload_n 0, 1) := by decide +kernel
theorem d8_1 : decode jdk_42_method_66_code 1 = .ok (.aload_n 1, 1) := by decide +kernel
theorem d8_2 : decode jdk_42_method_66_code 2 = .ok (.if_acmp .ne 5, 3) := by decide +kernel
theorem d8_5 : decode jdk_42_method_66_code 5 = .ok (.iconst 1, 1) := by decide +kernel
theorem d8_6 : decode jdk_42_method_66_code 6 = .ok (.ireturn, 1) := by decide +kernel
set_option maxRecDepth 65536 in
set_option maxHeartbeats 40000000 in
theorem st_eqs (l : Launch) (Z : State) (a0 : Array Value) (hw : ∀ d ∈ tables_1, d.before a0 Z = true) (ws : List Jvm.Cond) (a1 : Addr) (h0 : Heap) (n0 : Nat) (O0 : Old Z n0 h0)  :
    Con l Z (⟨"java/lang/String", "equals", "(Ljava/lang/Object;)Z"⟩ : MethodName) jdk_42_method_66_code 3 (some .boolean) ws ({ frames := 0, cells := 0, slots := 0, locals := 0 } : Room) #[(.ref a1), (.ref a1)] h0 (fun v h L => v = some (.int 1) ∧ Fr n0 L ∧ h = h0) := by
  refine own_body (plainFor_of_name pn_java_lang_String) ?_
  intro p e s m below meth c s₁ hx hby hml hZ hown hnm hlk hret X0 e0
  have N0 := Fr.nil n0
  refine Go.st (T' := s₁) (f' := (mkF m 0 #[rv a1, rv a1, .unset] [])) (fun _ k => castTop (by first | (simp [entryFrame, mkF, argsToLocals, Value.category]; done) | rfl) k) ?_
  refine Go.st (f' := (mkF m 1 #[rv a1, rv a1, .unset] [(.ref a1)])) (fun _ k => XS.aloadN X0.here hx rfl (hb hby d8_0) rfl rfl k) ?_
  refine Go.st (f' := (mkF m 2 #[rv a1, rv a1, .unset] [(.ref a1), (.ref a1)])) (fun _ k => XS.aloadN X0.here hx rfl (hb hby d8_1) rfl rfl k) ?_
  refine Go.st (f' := (mkF m 5 #[rv a1, rv a1, .unset] [])) (fun _ k => Jvm.RoadKit.acmp (g := (mkF m 2 #[rv a1, rv a1, .unset] [(.ref a1), (.ref a1)])) X0 hx rfl rfl rfl (pc0 := 2) (pc' := 5) (same := true) rfl (hb hby d8_2) rfl (decide_eq_true rfl) (by decide) (by decide) k) ?_
  refine Go.st (f' := (mkF m 6 #[rv a1, rv a1, .unset] [(.int 1)])) (fun _ k => XS.iconst X0.here hx rfl (hb hby d8_5) k) ?_
  refine Go.retB X0 hlk hx (t := .boolean) hret (by simp) (hb hby d8_6) e0 ?_ (by decide) (by decide)
  exact ⟨rfl, N0, rfl⟩
theorem own_nf {s : State} {args : Array Value} {C : String} {yp y : MethodName} (hs : (Cond.selects C yp yp).before args s = true) (he : yp.cls = y.cls) : NotFace s y := fun r0 h0 => by
  obtain ⟨c, r, m, -, -, h3, -, mk, h4, h5⟩ := Cond.selects_spec hs
  have f1 := findClass_of_methodNamed h3
  have f2 := findClass_of_methodNamed h0
  rw [he] at f1
  have e := Option.some.inj (f1.symm.trans f2)
  rw [e] at h4
  exact ⟨mk, h4, h5⟩
theorem own_same {Z : State} {a0 : Array Value} {C : String} {yp y : MethodName} (hs : (Cond.selects C yp yp).before a0 Z = true) (hi : (Cond.instanceMethod y).before a0 Z = true) (he : yp.cls = y.cls) (hy : y.cls ≠ "java/lang/invoke/MethodHandle" ∧ y.cls ≠ "java/lang/invoke/VarHandle") : (Cond.sameMethod y.cls y.cls y.name y.desc).before a0 Z = true := by
  obtain ⟨c, r, m, -, -, h3, -, mk, h4, h5⟩ := Cond.selects_spec hs
  obtain ⟨m2, methM, hn, -, -, -⟩ := Cond.instanceMethod_spec hi
  have f1 := findClass_of_methodNamed h3
  have f2 := findClass_of_methodNamed hn
  rw [he] at f1
  have e := Option.some.inj (f1.symm.trans f2)
  rw [e] at h4
  have f3 := State.methodFound?_of_named hn hy
  simp [Cond.before, Cond.holds, Cond.value, f2, f3, show Z.methodNamed? ⟨y.cls, y.name, y.desc⟩ = some m2 from hn, h4, h5]
theorem own_selp {s : State} {args : Array Value} {C : String} {y : MethodName} (h : (Cond.selects C y y).before args s = true) (hp : s.PrivateAt y) (hi : (Cond.instanceMethod y).before args s = true) (hy : y.cls ≠ "java/lang/invoke/MethodHandle" ∧ y.cls ≠ "java/lang/invoke/VarHandle") : (Cond.selects y.cls y y).before args s = true := by
  obtain ⟨c, r, m, -, -, h3, -, mk, h4, h5⟩ := Cond.selects_spec h
  exact Jvm.Stand.selects_self_of_private (findClass_of_methodNamed h3) h4 h5 hp hi hy
theorem own_ishl0 (c : Int32) : c <<< ((0 : Int32) &&& 31) = c := by
  have a := c_ishl c 0 0 (by decide)
  have r := rng32 (c <<< ((0 : Int32) &&& 31))
  have r2 := rng32 c
  rw [← Int32.toInt_inj]; omega
theorem own_ishr0 (c : Int32) : c >>> ((0 : Int32) &&& 31) = c := by
  have a : (c >>> ((0 : Int32) &&& 31)).toInt = c.toInt / (2 ^ 0 : Nat) := c_ishr c 0 0 (by decide)
  rw [← Int32.toInt_inj]; omega
/-- c is the list's length -/
def Ln (c : Int32) (xs : List Value) : Prop := 0 ≤ c.toInt ∧ c.toInt = (xs.length : Int)
theorem ln0 : Ln (0 : Int32) [] := ⟨by decide, by decide⟩
theorem Ln.nn {c : Int32} {xs : List Value} (h : Ln c xs) : ¬ c < (0 : Int32) := by
  rw [Int32.lt_iff_toInt_lt]; have e : (0 : Int32).toInt = 0 := by decide
  have := h.1; omega
theorem Ln.nat {c : Int32} {xs : List Value} (h : Ln c xs) : c.toNatClampNeg = xs.length := by
  simp only [Int32.toNatClampNeg]; have := h.2; omega
theorem Ln.app {c n : Int32} {xs fs : List Value} (a : Ln c xs) (b : Ln n fs) (h : xs.length + fs.length ≤ 1000000) : Ln (c + n) (xs ++ fs) := by
  have q := c_iadd c n
  have r := rng32 (c + n)
  have := a.1; have := a.2; have := b.1; have := b.2
  constructor
  · omega
  · rw [List.length_append]; omega
theorem Ln.eq {c n : Int32} {xs ys : List Value} (a : Ln c xs) (b : Ln n ys) (e : xs.length = ys.length) : c = n := by
  rw [← Int32.toInt_inj, a.2, b.2, e]
theorem Ln.le {c : Int32} {xs : List Value} {m : Nat} (a : Ln c xs) (h : xs.length ≤ m) : c.toNatClampNeg ≤ m := by rw [a.nat]; exact h
def Ints (es : List Value) : Prop := ∀ v ∈ es, ∃ x : Int32, v = .int x
theorem own_at {es : List Value} {n i : Int32} {d : Value} (I : Ints es) (l : Ln n es) (h0 : ¬ i < (0 : Int32)) (h1 : i < n) : ∃ x : Int32, es.getD i.toNatClampNeg d = .int x := by
  rw [Int32.lt_iff_toInt_lt] at h0 h1
  have e0 : (0 : Int32).toInt = 0 := by decide
  have hk : i.toNatClampNeg < es.length := by have := l.2; simp only [Int32.toNatClampNeg]; omega
  have hg : es.getD i.toNatClampNeg d = es[i.toNatClampNeg] := by simp [List.getD, hk]
  obtain ⟨x, hx⟩ := I _ (List.getElem_mem hk)
  exact ⟨x, hg.trans hx⟩
theorem own_mapr {n : Int32} {fs : List Value} {d : Value} (h : n.toNatClampNeg = fs.length) : fs = (List.range n.toNatClampNeg).map fun i => fs.getD ((0 : Int32).toNatClampNeg + i) d := by
  rw [h]
  apply List.ext_getElem
  · simp
  · intro i h1 h2
    have e : (0 : Int32).toNatClampNeg + i = i := by show 0 + i = i; omega
    simp [e, List.getD, h1]
theorem own_padl {c n : Int32} {xs fs : List Value} {d : Value} (a : Ln c xs) (b : Ln n fs) : c.toNatClampNeg + n.toNatClampNeg ≤ (xs ++ List.replicate fs.length d).length := by
  rw [a.nat, b.nat]; simp
theorem own_join {c n : Int32} {xs fs : List Value} {d : Value} (a : c.toNatClampNeg = xs.length) (b : n.toNatClampNeg = fs.length) : (xs ++ List.replicate fs.length d).take c.toNatClampNeg ++ fs ++ (xs ++ List.replicate fs.length d).drop (c.toNatClampNeg + n.toNatClampNeg) = xs ++ fs := by
  rw [a, b]; simp

theorem d14_0 : decode jdk_42_method_152_code 0 = .ok (.getstatic 38, 3) := by decide +kernel
theorem d14_3 : decode jdk_42_method_152_code 3 = .ok (.ifCond .eq 10, 3) := by decide +kernel
theorem d14_6 : decode jdk_42_method_152_code 6 = .ok (.aload_n 0, 1) := by decide +kernel
theorem d14_7 : decode jdk_42_method_152_code 7 = .ok (.getfield 15, 3) := by decide +kernel
theorem d14_10 : decode jdk_42_method_152_code 10 = .ok (.goto 4, 3) := by decide +kernel
theorem d14_14 : decode jdk_42_method_152_code 14 = .ok (.ireturn, 1) := by decide +kernel
set_option maxRecDepth 65536 in
set_option maxHeartbeats 40000000 in
theorem cod (l : Launch) (Z : State) (a0 : Array Value) (hw : ∀ d ∈ tables_1, d.before a0 Z = true) (ws : List Jvm.Cond) (a1 : Addr) (w_ERROR : Addr) (w_WARNING : Addr) (i_COMPACT_STRINGS : Int32) (v_SIOOBE_FORMATTER : Value) (h0 : Heap) (n0 : Nat) (O0 : Old Z n0 h0) (E_a1 : Exa Z h0 a1 "java/lang/String") (F_a1_coder : Fld Z h0 a1 "java/lang/String" "coder" "B" (.int 0)) (WW : World1 Z w_ERROR w_WARNING i_COMPACT_STRINGS v_SIOOBE_FORMATTER) :
    Con l Z (⟨"java/lang/String", "coder", "()B"⟩ : MethodName) jdk_42_method_152_code 1 (some .byte) ws ({ frames := 0, cells := 0, slots := 0, locals := 0 } : Room) #[(.ref a1)] h0 (fun v h L => v = some (.int 0) ∧ Fr n0 L ∧ h = h0) := by
  refine own_body (plainFor_of_name pn_java_lang_String) ?_
  intro p e s m below meth c s₁ hx hby hml hZ hown hnm hlk hret X0 e0
  have N0 := Fr.nil n0
  refine Go.st (T' := s₁) (f' := (mkF m 0 #[rv a1] [])) (fun _ k => castTop (by first | (simp [entryFrame, mkF, argsToLocals, Value.category]; done) | rfl) k) ?_
  have ⟨S_i_COMPACT_STRINGS, nz_i_COMPACT_STRINGS, S_v_SIOOBE_FORMATTER, r_v_SIOOBE_FORMATTER, S_w_ERROR, E_w_ERROR, S_w_WARNING, E_w_WARNING⟩ := WW
  have lt_w_ERROR := E_w_ERROR.lt
  have lt_w_WARNING := E_w_WARNING.lt
  have lt_a1 := E_a1.lt
  obtain ⟨T1, X1, e1, st1⟩ := getS2 X0 hx hZ hown (host := "") (Or.inl (ww hw 97 rfl)) Via.refl e0 (S_i_COMPACT_STRINGS.ext O0.2) (g := (mkF m 0 #[rv a1] [])) rfl (hb hby d14_0)
  refine Go.st (f' := (mkF m 3 #[rv a1] [(.int i_COMPACT_STRINGS)])) (fun _ k => st1 _ k) ?_
  refine Go.st (f' := (mkF m 6 #[rv a1] [])) (fun _ k => XS.ifNo X1.here hx rfl (hb hby d14_3) rfl ((if0 _ _).trans (feq nz_i_COMPACT_STRINGS).1) k) ?_
  refine Go.st (f' := (mkF m 7 #[rv a1] [(.ref a1)])) (fun _ k => XS.aloadN X1.here hx rfl (hb hby d14_6) rfl rfl k) ?_
  obtain ⟨T2, X2, e2, st2⟩ := getF X1 hx hZ hown (host := "") (Or.inl (ww hw 28 rfl)) Via.refl e1 F_a1_coder (g := (mkF m 7 #[rv a1] [(.ref a1)])) rfl rfl (hb hby d14_7)
  refine Go.st (f' := (mkF m 10 #[rv a1] [(.int 0)])) (fun _ k => st2 _ k) ?_
  refine Go.st (f' := (mkF m 14 #[rv a1] [(.int 0)])) (fun _ k => XS.goto X2.here hx rfl (pc0 := 10) (pc' := 14) rfl (hb hby d14_10) (by decide) (by decide) k) ?_
  refine Go.retB X2 hlk hx (t := .byte) hret (by simp) (hb hby d14_14) e2 ?_ (by decide) (by decide)
  exact ⟨rfl, N0, rfl⟩
theorem d32_0 : decode jdk_42_method_154_code 0 = .ok (.getstatic 38, 3) := by decide +kernel
theorem d32_3 : decode jdk_42_method_154_code 3 = .ok (.ifCond .eq 14, 3) := by decide +kernel
theorem d32_6 : decode jdk_42_method_154_code 6 = .ok (.aload_n 0, 1) := by decide +kernel
theorem d32_7 : decode jdk_42_method_154_code 7 = .ok (.getfield 15, 3) := by decide +kernel
theorem d32_10 : decode jdk_42_method_154_code 10 = .ok (.ifCond .ne 7, 3) := by decide +kernel
theorem d32_13 : decode jdk_42_method_154_code 13 = .ok (.iconst 1, 1) := by decide +kernel
theorem d32_14 : decode jdk_42_method_154_code 14 = .ok (.goto 4, 3) := by decide +kernel
theorem d32_18 : decode jdk_42_method_154_code 18 = .ok (.ireturn, 1) := by decide +kernel
set_option maxRecDepth 65536 in
set_option maxHeartbeats 40000000 in
theorem lat (l : Launch) (Z : State) (a0 : Array Value) (hw : ∀ d ∈ tables_1, d.before a0 Z = true) (ws : List Jvm.Cond) (a1 : Addr) (w_ERROR : Addr) (w_WARNING : Addr) (i_COMPACT_STRINGS : Int32) (v_SIOOBE_FORMATTER : Value) (h0 : Heap) (n0 : Nat) (O0 : Old Z n0 h0) (E_a1 : Exa Z h0 a1 "java/lang/String") (F_a1_coder : Fld Z h0 a1 "java/lang/String" "coder" "B" (.int 0)) (WW : World1 Z w_ERROR w_WARNING i_COMPACT_STRINGS v_SIOOBE_FORMATTER) :
    Con l Z (⟨"java/lang/String", "isLatin1", "()Z"⟩ : MethodName) jdk_42_method_154_code 1 (some .boolean) ws ({ frames := 0, cells := 0, slots := 0, locals := 0 } : Room) #[(.ref a1)] h0 (fun v h L => v = some (.int 1) ∧ Fr n0 L ∧ h = h0) := by
  refine own_body (plainFor_of_name pn_java_lang_String) ?_
  intro p e s m below meth c s₁ hx hby hml hZ hown hnm hlk hret X0 e0
  have N0 := Fr.nil n0
  refine Go.st (T' := s₁) (f' := (mkF m 0 #[rv a1] [])) (fun _ k => castTop (by first | (simp [entryFrame, mkF, argsToLocals, Value.category]; done) | rfl) k) ?_
  have ⟨S_i_COMPACT_STRINGS, nz_i_COMPACT_STRINGS, S_v_SIOOBE_FORMATTER, r_v_SIOOBE_FORMATTER, S_w_ERROR, E_w_ERROR, S_w_WARNING, E_w_WARNING⟩ := WW
  have lt_w_ERROR := E_w_ERROR.lt
  have lt_w_WARNING := E_w_WARNING.lt
  have lt_a1 := E_a1.lt
  obtain ⟨T1, X1, e1, st1⟩ := getS2 X0 hx hZ hown (host := "") (Or.inl (ww hw 97 rfl)) Via.refl e0 (S_i_COMPACT_STRINGS.ext O0.2) (g := (mkF m 0 #[rv a1] [])) rfl (hb hby d32_0)
  refine Go.st (f' := (mkF m 3 #[rv a1] [(.int i_COMPACT_STRINGS)])) (fun _ k => st1 _ k) ?_
  refine Go.st (f' := (mkF m 6 #[rv a1] [])) (fun _ k => XS.ifNo X1.here hx rfl (hb hby d32_3) rfl ((if0 _ _).trans (feq nz_i_COMPACT_STRINGS).1) k) ?_
  refine Go.st (f' := (mkF m 7 #[rv a1] [(.ref a1)])) (fun _ k => XS.aloadN X1.here hx rfl (hb hby d32_6) rfl rfl k) ?_
  obtain ⟨T2, X2, e2, st2⟩ := getF X1 hx hZ hown (host := "") (Or.inl (ww hw 28 rfl)) Via.refl e1 F_a1_coder (g := (mkF m 7 #[rv a1] [(.ref a1)])) rfl rfl (hb hby d32_7)
  refine Go.st (f' := (mkF m 10 #[rv a1] [(.int 0)])) (fun _ k => st2 _ k) ?_
  refine Go.st (f' := (mkF m 13 #[rv a1] [])) (fun _ k => XS.ifNo X2.here hx rfl (hb hby d32_10) rfl (by decide) k) ?_
  refine Go.st (f' := (mkF m 14 #[rv a1] [(.int 1)])) (fun _ k => XS.iconst X2.here hx rfl (hb hby d32_13) k) ?_
  refine Go.st (f' := (mkF m 18 #[rv a1] [(.int 1)])) (fun _ k => XS.goto X2.here hx rfl (pc0 := 14) (pc' := 18) rfl (hb hby d32_14) (by decide) (by decide) k) ?_
  refine Go.retB X2 hlk hx (t := .boolean) hret (by simp) (hb hby d32_18) e2 ?_ (by decide) (by decide)
  exact ⟨rfl, N0, rfl⟩
theorem d13_0 : decode jdk_42_method_54_code 0 = .ok (.aload_n 0, 1) := by decide +kernel
theorem d13_1 : decode jdk_42_method_54_code 1 = .ok (.getfield 9, 3) := by decide +kernel
theorem d13_4 : decode jdk_42_method_54_code 4 = .ok (.arraylength, 1) := by decide +kernel
theorem d13_5 : decode jdk_42_method_54_code 5 = .ok (.aload_n 0, 1) := by decide +kernel
theorem d13_6 : decode jdk_42_method_54_code 6 = .ok (.invokevirtual 335, 3) := by decide +kernel
theorem pd___B : parseMethodDescriptor "()B" = some ⟨[], some .byte⟩ := by decide +kernel
theorem d13_9 : decode jdk_42_method_54_code 9 = .ok (.ishr, 1) := by decide +kernel
theorem d13_10 : decode jdk_42_method_54_code 10 = .ok (.ireturn, 1) := by decide +kernel
set_option maxRecDepth 65536 in
set_option maxHeartbeats 40000000 in
theorem slen (l : Launch) (Z : State) (a0 : Array Value) (hw : ∀ d ∈ tables_1, d.before a0 Z = true) (ws : List Jvm.Cond) (a1 : Addr) (t1 : Addr) (k1 : ClassId) (n : Int32) (es : List Value) (w_ERROR : Addr) (w_WARNING : Addr) (i_COMPACT_STRINGS : Int32) (v_SIOOBE_FORMATTER : Value) (h0 : Heap) (n0 : Nat) (O0 : Old Z n0 h0) (E_a1 : Exa Z h0 a1 "java/lang/String") (F_a1_coder : Fld Z h0 a1 "java/lang/String" "coder" "B" (.int 0)) (F_a1_value : Fld Z h0 a1 "java/lang/String" "value" "[B" (.ref t1)) (V_t1 : Arv Z h0 t1 k1 .byte n es (.int 0)) (WW : World1 Z w_ERROR w_WARNING i_COMPACT_STRINGS v_SIOOBE_FORMATTER) :
    Con l Z (⟨"java/lang/String", "length", "()I"⟩ : MethodName) jdk_42_method_54_code 1 (some .int) ws ({ frames := 1, cells := 0, slots := 0, locals := 13 } : Room) #[(.ref a1)] h0 (fun v h L => v = some (.int n) ∧ Fr n0 L ∧ h = h0) := by
  refine own_body (plainFor_of_name pn_java_lang_String) ?_
  intro p e s m below meth c s₁ hx hby hml hZ hown hnm hlk hret X0 e0
  have N0 := Fr.nil n0
  refine Go.st (T' := s₁) (f' := (mkF m 0 #[rv a1] [])) (fun _ k => castTop (by first | (simp [entryFrame, mkF, argsToLocals, Value.category]; done) | rfl) k) ?_
  have ⟨S_i_COMPACT_STRINGS, nz_i_COMPACT_STRINGS, S_v_SIOOBE_FORMATTER, r_v_SIOOBE_FORMATTER, S_w_ERROR, E_w_ERROR, S_w_WARNING, E_w_WARNING⟩ := WW
  have lt_w_ERROR := E_w_ERROR.lt
  have lt_w_WARNING := E_w_WARNING.lt
  have lt_a1 := E_a1.lt
  have lt_t1 := V_t1.lt
  refine Go.st (f' := (mkF m 1 #[rv a1] [(.ref a1)])) (fun _ k => XS.aloadN X0.here hx rfl (hb hby d13_0) rfl rfl k) ?_
  obtain ⟨T1, X1, e1, st1⟩ := getF X0 hx hZ hown (host := "") (Or.inl (ww hw 27 rfl)) Via.refl e0 F_a1_value (g := (mkF m 1 #[rv a1] [(.ref a1)])) rfl rfl (hb hby d13_1)
  refine Go.st (f' := (mkF m 4 #[rv a1] [(.ref t1)])) (fun _ k => st1 _ k) ?_
  obtain ⟨cl2, Ar2, -, S2, Nx2, -, -⟩ := id V_t1
  refine Go.st (T' := T1) (f' := (mkF m 5 #[rv a1] [(.int n)])) (fun _ k => X1.arraylength hx (by rw [e1]; exact Ar2.1) (State.isArrayOf_alike hZ.alike Ar2.2.1) (g := (mkF m 4 #[rv a1] [(.ref t1)])) rfl rfl (hb hby d13_4) _ (by rw [len_of S2 Nx2]; exact k)) ?_
  refine Go.st (f' := (mkF m 6 #[rv a1] [(.ref a1), (.int n)])) (fun _ k => XS.aloadN X1.here hx rfl (hb hby d13_5) rfl rfl k) ?_
  obtain ⟨cq3, kq3, q3a, q3b, q3c⟩ := isOf hZ e1 E_a1
  obtain ⟨_, _, ⟨T3, L3, kk3, nn3⟩, -, X3, ⟨Lc3, hQ3, lq3, yq3, zz3⟩, st3⟩ := X1.virtualBack hx (y := (⟨"java/lang/String", "coder", "()B"⟩ : MethodName)) (z := (⟨"java/lang/String", "coder", "()B"⟩ : MethodName)) hown (mvT hZ (ww hw 92 rfl)) (mvT hZ (ww hw 93 rfl)) (notFace_of_selects (args := #[]) (mvT hZ (ww hw 95 rfl))) (mvT hZ (ww hw 95 rfl)) (mvT hZ (ww hw 94 rfl)) (by decide) (own_back (W := 1) (cod l Z a0 hw [] a1 w_ERROR w_WARNING i_COMPACT_STRINGS v_SIOOBE_FORMATTER h0 n0 O0 E_a1 F_a1_coder WW) hZ (ww hw 96 rfl) (ww hw 9 rfl) (by decide) (by decide)) q3a q3c (g := (mkF m 6 #[rv a1] [(.ref a1), (.int n)])) rfl (by rw [hml]; rfl) (Steps.refl _) (argsL := []) (rest := [(.int n)]) (lenOf pd___B rfl) rfl (by show 2 * 0 + _ ≤ _; exact Nat.le_of_eq rfl) (hb hby d13_6) (fun _ _ => ⟨rfl, e1, (by decide : 0 + 0 ≤ _), (by decide : 0 + 0 ≤ _)⟩)
  dsimp only [Pt.U, Pt.locs, Pt.cells, Pt.slots] at X3 lq3 yq3 zz3 st3 hQ3
  subst lq3 yq3 zz3
  obtain ⟨rfl, Nq3, kq3⟩ := hQ3
  have N3 := Fr.app N0 Nq3
  refine Go.tr (f' := (mkF m 9 #[rv a1] [(.int 0), (.int n)])) st3 ?_
  refine Go.st (f' := (mkF m 10 #[rv a1] [(.int (n >>> ((0 : Int32) &&& 31)))])) (fun _ k => XS.ishr X3.here hx rfl (hb hby d13_9) rfl k) ?_
  rw [own_ishr0 n]
  refine Go.retV X3 hlk hx (t := .int) hret rfl (Or.inl ⟨rfl, Or.inl rfl, _, rfl⟩) (hb hby d13_10) kq3 ?_ (by decide) (by decide)
  exact ⟨rfl, N3, rfl⟩
theorem pn_jdk_internal_util_Preconditions : plainName "jdk/internal/util/Preconditions" = true := by first | (simp [plainName, overriddenIn]; done) | decide +kernel
theorem d35_0 : decode jdk_41_method_11_code 0 = .ok (.iload_n 0, 1) := by decide +kernel
theorem d35_1 : decode jdk_41_method_11_code 1 = .ok (.ifCond .lt 8, 3) := by decide +kernel
theorem d35_4 : decode jdk_41_method_11_code 4 = .ok (.iload_n 0, 1) := by decide +kernel
theorem d35_5 : decode jdk_41_method_11_code 5 = .ok (.iload_n 1, 1) := by decide +kernel
theorem d35_6 : decode jdk_41_method_11_code 6 = .ok (.if_icmp .lt 10, 3) := by decide +kernel
theorem d35_16 : decode jdk_41_method_11_code 16 = .ok (.iload_n 0, 1) := by decide +kernel
theorem d35_17 : decode jdk_41_method_11_code 17 = .ok (.ireturn, 1) := by decide +kernel
set_option maxRecDepth 65536 in
set_option maxHeartbeats 40000000 in
theorem ck_n (l : Launch) (Z : State) (a0 : Array Value) (hw : ∀ d ∈ tables_1, d.before a0 Z = true) (ws : List Jvm.Cond) (i : Int32) (n : Int32) (h0 : Heap) (n0 : Nat) (O0 : Old Z n0 h0) (hlo : ¬ i < (0 : Int32)) (hhi : i < n) :
    Con l Z (⟨"jdk/internal/util/Preconditions", "checkIndex", "(IILjava/util/function/BiFunction;)I"⟩ : MethodName) jdk_41_method_11_code 3 (some .int) ws ({ frames := 0, cells := 0, slots := 0, locals := 0 } : Room) #[(.int i), (.int n), .null] h0 (fun v h L => v = some (.int i) ∧ Fr n0 L ∧ h = h0) := by
  refine own_body (plainFor_of_name pn_jdk_internal_util_Preconditions) ?_
  intro p e s m below meth c s₁ hx hby hml hZ hown hnm hlk hret X0 e0
  have N0 := Fr.nil n0
  refine Go.st (T' := s₁) (f' := (mkF m 0 #[iv i, iv n, .val .null] [])) (fun _ k => castTop (by first | (simp [entryFrame, mkF, argsToLocals, Value.category]; done) | rfl) k) ?_
  refine Go.st (f' := (mkF m 1 #[iv i, iv n, .val .null] [(.int i)])) (fun _ k => XS.iloadN X0.here hx rfl (hb hby d35_0) rfl k) ?_
  refine Go.st (f' := (mkF m 4 #[iv i, iv n, .val .null] [])) (fun _ k => XS.ifNo X0.here hx rfl (hb hby d35_1) rfl ((if0 _ _).trans (flt hlo).1) k) ?_
  refine Go.st (f' := (mkF m 5 #[iv i, iv n, .val .null] [(.int i)])) (fun _ k => XS.iloadN X0.here hx rfl (hb hby d35_4) rfl k) ?_
  refine Go.st (f' := (mkF m 6 #[iv i, iv n, .val .null] [(.int n), (.int i)])) (fun _ k => XS.iloadN X0.here hx rfl (hb hby d35_5) rfl k) ?_
  refine Go.st (f' := (mkF m 16 #[iv i, iv n, .val .null] [])) (fun _ k => XS.icmpYes X0.here hx rfl (pc0 := 6) (pc' := 16) rfl (hb hby d35_6) rfl (tlt hhi).1 (by decide) (by decide) k) ?_
  refine Go.st (f' := (mkF m 17 #[iv i, iv n, .val .null] [(.int i)])) (fun _ k => XS.iloadN X0.here hx rfl (hb hby d35_16) rfl k) ?_
  refine Go.retV X0 hlk hx (t := .int) hret rfl (Or.inl ⟨rfl, Or.inl rfl, _, rfl⟩) (hb hby d35_17) e0 ?_ (by decide) (by decide)
  exact ⟨rfl, N0, rfl⟩
set_option maxRecDepth 65536 in
set_option maxHeartbeats 40000000 in
theorem ck_r (l : Launch) (Z : State) (a0 : Array Value) (hw : ∀ d ∈ tables_1, d.before a0 Z = true) (ws : List Jvm.Cond) (i : Int32) (n : Int32) (a1 : Addr) (h0 : Heap) (n0 : Nat) (O0 : Old Z n0 h0) (hlo : ¬ i < (0 : Int32)) (hhi : i < n) :
    Con l Z (⟨"jdk/internal/util/Preconditions", "checkIndex", "(IILjava/util/function/BiFunction;)I"⟩ : MethodName) jdk_41_method_11_code 3 (some .int) ws ({ frames := 0, cells := 0, slots := 0, locals := 0 } : Room) #[(.int i), (.int n), (.ref a1)] h0 (fun v h L => v = some (.int i) ∧ Fr n0 L ∧ h = h0) := by
  refine own_body (plainFor_of_name pn_jdk_internal_util_Preconditions) ?_
  intro p e s m below meth c s₁ hx hby hml hZ hown hnm hlk hret X0 e0
  have N0 := Fr.nil n0
  refine Go.st (T' := s₁) (f' := (mkF m 0 #[iv i, iv n, rv a1] [])) (fun _ k => castTop (by first | (simp [entryFrame, mkF, argsToLocals, Value.category]; done) | rfl) k) ?_
  refine Go.st (f' := (mkF m 1 #[iv i, iv n, rv a1] [(.int i)])) (fun _ k => XS.iloadN X0.here hx rfl (hb hby d35_0) rfl k) ?_
  refine Go.st (f' := (mkF m 4 #[iv i, iv n, rv a1] [])) (fun _ k => XS.ifNo X0.here hx rfl (hb hby d35_1) rfl ((if0 _ _).trans (flt hlo).1) k) ?_
  refine Go.st (f' := (mkF m 5 #[iv i, iv n, rv a1] [(.int i)])) (fun _ k => XS.iloadN X0.here hx rfl (hb hby d35_4) rfl k) ?_
  refine Go.st (f' := (mkF m 6 #[iv i, iv n, rv a1] [(.int n), (.int i)])) (fun _ k => XS.iloadN X0.here hx rfl (hb hby d35_5) rfl k) ?_
  refine Go.st (f' := (mkF m 16 #[iv i, iv n, rv a1] [])) (fun _ k => XS.icmpYes X0.here hx rfl (pc0 := 6) (pc' := 16) rfl (hb hby d35_6) rfl (tlt hhi).1 (by decide) (by decide) k) ?_
  refine Go.st (f' := (mkF m 17 #[iv i, iv n, rv a1] [(.int i)])) (fun _ k => XS.iloadN X0.here hx rfl (hb hby d35_16) rfl k) ?_
  refine Go.retV X0 hlk hx (t := .int) hret rfl (Or.inl ⟨rfl, Or.inl rfl, _, rfl⟩) (hb hby d35_17) e0 ?_ (by decide) (by decide)
  exact ⟨rfl, N0, rfl⟩
theorem ck_v (l : Launch) (Z : State) (a0 : Array Value) (hw : ∀ d ∈ tables_1, d.before a0 Z = true) (ws : List Jvm.Cond) (i : Int32) (n : Int32) (nv : Value) (h0 : Heap) (n0 : Nat) (O0 : Old Z n0 h0) (hnv : nv.isRef = true) (hlo : ¬ i < (0 : Int32)) (hhi : i < n) :
    Con l Z (⟨"jdk/internal/util/Preconditions", "checkIndex", "(IILjava/util/function/BiFunction;)I"⟩ : MethodName) jdk_41_method_11_code 3 (some .int) ws ({ frames := 0, cells := 0, slots := 0, locals := 0 } : Room) #[(.int i), (.int n), nv] h0 (fun v h L => v = some (.int i) ∧ Fr n0 L ∧ h = h0) := by
  rcases ref_cases hnv with rfl | ⟨a, rfl⟩
  · exact ck_n l Z a0 hw ws i n h0 n0 O0 hlo hhi
  · exact ck_r l Z a0 hw ws i n a h0 n0 O0 hlo hhi
theorem d34_0 : decode jdk_42_method_155_code 0 = .ok (.iload_n 0, 1) := by decide +kernel
theorem d34_1 : decode jdk_42_method_155_code 1 = .ok (.iload_n 1, 1) := by decide +kernel
theorem d34_2 : decode jdk_42_method_155_code 2 = .ok (.getstatic 1053, 3) := by decide +kernel
theorem d34_5 : decode jdk_42_method_155_code 5 = .ok (.invokestatic 1059, 3) := by decide +kernel
theorem pd__IILjava_util_function_BiFunction__I : parseMethodDescriptor "(IILjava/util/function/BiFunction;)I" = some ⟨[.int, .int, (.object "java/util/function/BiFunction")], some .int⟩ := by decide +kernel
theorem d34_8 : decode jdk_42_method_155_code 8 = .ok (.pop, 1) := by decide +kernel
theorem d34_9 : decode jdk_42_method_155_code 9 = .ok (.return_, 1) := by decide +kernel
set_option maxRecDepth 65536 in
set_option maxHeartbeats 40000000 in
theorem ck_s (l : Launch) (Z : State) (a0 : Array Value) (hw : ∀ d ∈ tables_1, d.before a0 Z = true) (ws : List Jvm.Cond) (i : Int32) (n : Int32) (w_ERROR : Addr) (w_WARNING : Addr) (i_COMPACT_STRINGS : Int32) (v_SIOOBE_FORMATTER : Value) (h0 : Heap) (n0 : Nat) (O0 : Old Z n0 h0) (hlo : ¬ i < (0 : Int32)) (hhi : i < n) (WW : World1 Z w_ERROR w_WARNING i_COMPACT_STRINGS v_SIOOBE_FORMATTER) :
    Con l Z (⟨"java/lang/String", "checkIndex", "(II)V"⟩ : MethodName) jdk_42_method_155_code 2 none ws ({ frames := 1, cells := 0, slots := 0, locals := 14 } : Room) #[(.int i), (.int n)] h0 (fun v h L => v = none ∧ Fr n0 L ∧ h = h0) := by
  refine own_body (plainFor_of_name pn_java_lang_String) ?_
  intro p e s m below meth c s₁ hx hby hml hZ hown hnm hlk hret X0 e0
  have N0 := Fr.nil n0
  refine Go.st (T' := s₁) (f' := (mkF m 0 #[iv i, iv n] [])) (fun _ k => castTop (by first | (simp [entryFrame, mkF, argsToLocals, Value.category]; done) | rfl) k) ?_
  have ⟨S_i_COMPACT_STRINGS, nz_i_COMPACT_STRINGS, S_v_SIOOBE_FORMATTER, r_v_SIOOBE_FORMATTER, S_w_ERROR, E_w_ERROR, S_w_WARNING, E_w_WARNING⟩ := WW
  have lt_w_ERROR := E_w_ERROR.lt
  have lt_w_WARNING := E_w_WARNING.lt
  refine Go.st (f' := (mkF m 1 #[iv i, iv n] [(.int i)])) (fun _ k => XS.iloadN X0.here hx rfl (hb hby d34_0) rfl k) ?_
  refine Go.st (f' := (mkF m 2 #[iv i, iv n] [(.int n), (.int i)])) (fun _ k => XS.iloadN X0.here hx rfl (hb hby d34_1) rfl k) ?_
  obtain ⟨T1, X1, e1, st1⟩ := getS2 X0 hx hZ hown (host := "") (Or.inl (ww hw 192 rfl)) Via.refl e0 (S_v_SIOOBE_FORMATTER.ext O0.2) (g := (mkF m 2 #[iv i, iv n] [(.int n), (.int i)])) rfl (hb hby d34_2)
  refine Go.st (f' := (mkF m 5 #[iv i, iv n] [v_SIOOBE_FORMATTER, (.int n), (.int i)])) (fun _ k => st1 _ k) ?_
  obtain ⟨_, _, ⟨T2, L2, kk2, nn2⟩, -, X2, ⟨Lc2, hQ2, lq2, yq2, zz2⟩, st2⟩ := Jvm.LawKit.callS X1 hx (y := (⟨"jdk/internal/util/Preconditions", "checkIndex", "(IILjava/util/function/BiFunction;)I"⟩ : MethodName)) hown (mvT hZ (ww hw 194 rfl)) (mvT hZ (ww hw 195 rfl)) (mvT hZ (ww hw 193 rfl)) (mvT hZ (ww hw 196 rfl)) (by decide) (own_back (W := 0) (ck_v l Z a0 hw [] i n v_SIOOBE_FORMATTER h0 n0 O0 r_v_SIOOBE_FORMATTER hlo hhi) hZ (ww hw 196 rfl) (ww hw 193 rfl) (by decide) (by decide)) (g := (mkF m 5 #[iv i, iv n] [v_SIOOBE_FORMATTER, (.int n), (.int i)])) rfl (by rw [hml]; rfl) (argsL := [(.int i), (.int n), v_SIOOBE_FORMATTER]) (rest := []) (lenOf pd__IILjava_util_function_BiFunction__I rfl) rfl (by show 2 * 0 + _ ≤ _; exact Nat.le_of_eq rfl) (hb hby d34_5) (fun _ _ => ⟨rfl, e1, (by decide : 0 + 0 ≤ _), (by decide : 0 + 0 ≤ _)⟩)
  dsimp only [Pt.U, Pt.locs, Pt.cells, Pt.slots] at X2 lq2 yq2 zz2 st2 hQ2
  subst lq2 yq2 zz2
  obtain ⟨rfl, Nq2, kq2⟩ := hQ2
  have N2 := Fr.app N0 Nq2
  refine Go.st (f' := (mkF m 8 #[iv i, iv n] [(.int i)])) (fun _ k => st2 _ k) ?_
  refine Go.st (f' := (mkF m 9 #[iv i, iv n] [])) (fun _ k => XS.pop X2.here hx rfl (hb hby d34_8) rfl rfl k) ?_
  refine Go.ret0 X2 hlk hx hret (hb hby d34_9) kq2 ?_ (by decide) (by decide)
  exact ⟨rfl, N2, rfl⟩
theorem pn_java_lang_StringLatin1 : plainName "java/lang/StringLatin1" = true := by first | (simp [plainName, overriddenIn]; done) | decide +kernel
theorem d33_0 : decode jdk_43_method_2_code 0 = .ok (.iload_n 1, 1) := by decide +kernel
theorem d33_1 : decode jdk_43_method_2_code 1 = .ok (.aload_n 0, 1) := by decide +kernel
theorem d33_2 : decode jdk_43_method_2_code 2 = .ok (.arraylength, 1) := by decide +kernel
theorem d33_3 : decode jdk_43_method_2_code 3 = .ok (.invokestatic 9, 3) := by decide +kernel
theorem pd__II_V : parseMethodDescriptor "(II)V" = some ⟨[.int, .int], none⟩ := by decide +kernel
theorem d33_6 : decode jdk_43_method_2_code 6 = .ok (.aload_n 0, 1) := by decide +kernel
theorem d33_7 : decode jdk_43_method_2_code 7 = .ok (.iload_n 1, 1) := by decide +kernel
theorem d33_8 : decode jdk_43_method_2_code 8 = .ok (.baload, 1) := by decide +kernel
theorem d33_9 : decode jdk_43_method_2_code 9 = .ok (.sipush 255, 3) := by decide +kernel
theorem d33_12 : decode jdk_43_method_2_code 12 = .ok (.iand, 1) := by decide +kernel
theorem d33_13 : decode jdk_43_method_2_code 13 = .ok (.i2c, 1) := by decide +kernel
theorem d33_14 : decode jdk_43_method_2_code 14 = .ok (.ireturn, 1) := by decide +kernel
def clI (x : Int32) : Int32 := (nar .char ((x &&& (255 : Int32)).toUInt32.toUInt16.toUInt32.toInt32))
set_option maxRecDepth 65536 in
set_option maxHeartbeats 40000000 in
theorem cl1 (l : Launch) (Z : State) (a0 : Array Value) (hw : ∀ d ∈ tables_1, d.before a0 Z = true) (ws : List Jvm.Cond) (t1 : Addr) (k1 : ClassId) (n : Int32) (es : List Value) (i : Int32) (x : Int32) (w_ERROR : Addr) (w_WARNING : Addr) (i_COMPACT_STRINGS : Int32) (v_SIOOBE_FORMATTER : Value) (h0 : Heap) (n0 : Nat) (O0 : Old Z n0 h0) (hlo : ¬ i < (0 : Int32)) (hhi : i < n) (hg : es.getD i.toNatClampNeg (.int 0) = .int x) (V_t1 : Arv Z h0 t1 k1 .byte n es (.int 0)) (WW : World1 Z w_ERROR w_WARNING i_COMPACT_STRINGS v_SIOOBE_FORMATTER) :
    Con l Z (⟨"java/lang/StringLatin1", "charAt", "([BI)C"⟩ : MethodName) jdk_43_method_2_code 2 (some .char) ws ({ frames := 2, cells := 0, slots := 0, locals := 27 } : Room) #[(.ref t1), (.int i)] h0 (fun v h L => v = some (.int (clI x)) ∧ Fr n0 L ∧ h = h0) := by
  refine own_body (plainFor_of_name pn_java_lang_StringLatin1) ?_
  intro p e s m below meth c s₁ hx hby hml hZ hown hnm hlk hret X0 e0
  have N0 := Fr.nil n0
  refine Go.st (T' := s₁) (f' := (mkF m 0 #[rv t1, iv i] [])) (fun _ k => castTop (by first | (simp [entryFrame, mkF, argsToLocals, Value.category]; done) | rfl) k) ?_
  have ⟨S_i_COMPACT_STRINGS, nz_i_COMPACT_STRINGS, S_v_SIOOBE_FORMATTER, r_v_SIOOBE_FORMATTER, S_w_ERROR, E_w_ERROR, S_w_WARNING, E_w_WARNING⟩ := WW
  have lt_w_ERROR := E_w_ERROR.lt
  have lt_w_WARNING := E_w_WARNING.lt
  have lt_t1 := V_t1.lt
  refine Go.st (f' := (mkF m 1 #[rv t1, iv i] [(.int i)])) (fun _ k => XS.iloadN X0.here hx rfl (hb hby d33_0) rfl k) ?_
  refine Go.st (f' := (mkF m 2 #[rv t1, iv i] [(.ref t1), (.int i)])) (fun _ k => XS.aloadN X0.here hx rfl (hb hby d33_1) rfl rfl k) ?_
  obtain ⟨cl1, Ar1, -, S1, Nx1, -, -⟩ := id V_t1
  refine Go.st (T' := s₁) (f' := (mkF m 3 #[rv t1, iv i] [(.int n), (.int i)])) (fun _ k => X0.arraylength hx (by rw [e0]; exact Ar1.1) (State.isArrayOf_alike hZ.alike Ar1.2.1) (g := (mkF m 2 #[rv t1, iv i] [(.ref t1), (.int i)])) rfl rfl (hb hby d33_2) _ (by rw [len_of S1 Nx1]; exact k)) ?_
  obtain ⟨_, _, ⟨T2, L2, kk2, nn2⟩, -, X2, ⟨Lc2, hQ2, lq2, yq2, zz2⟩, st2⟩ := Jvm.LawKit.callS X0 hx (y := (⟨"java/lang/String", "checkIndex", "(II)V"⟩ : MethodName)) hown (mvT hZ (ww hw 189 rfl)) (mvT hZ (ww hw 190 rfl)) (mvT hZ (ww hw 9 rfl)) (mvT hZ (ww hw 191 rfl)) (by decide) (own_back (W := 0) (ck_s l Z a0 hw [] i n w_ERROR w_WARNING i_COMPACT_STRINGS v_SIOOBE_FORMATTER h0 n0 O0 hlo hhi WW) hZ (ww hw 191 rfl) (ww hw 9 rfl) (by decide) (by decide)) (g := (mkF m 3 #[rv t1, iv i] [(.int n), (.int i)])) rfl (by rw [hml]; rfl) (argsL := [(.int i), (.int n)]) (rest := []) (lenOf pd__II_V rfl) rfl (by show 2 * 0 + _ ≤ _; exact Nat.le_of_eq rfl) (hb hby d33_3) (fun _ _ => ⟨rfl, e0, (by decide : 0 + 0 ≤ _), (by decide : 0 + 0 ≤ _)⟩)
  dsimp only [Pt.U, Pt.locs, Pt.cells, Pt.slots] at X2 lq2 yq2 zz2 st2 hQ2
  subst lq2 yq2 zz2
  obtain ⟨rfl, Nq2, kq2⟩ := hQ2
  have N2 := Fr.app N0 Nq2
  refine Go.st (f' := (mkF m 6 #[rv t1, iv i] [])) (fun _ k => st2 _ k) ?_
  refine Go.st (f' := (mkF m 7 #[rv t1, iv i] [(.ref t1)])) (fun _ k => XS.aloadN X2.here hx rfl (hb hby d33_6) rfl rfl k) ?_
  refine Go.st (f' := (mkF m 8 #[rv t1, iv i] [(.int i), (.ref t1)])) (fun _ k => XS.iloadN X2.here hx rfl (hb hby d33_7) rfl k) ?_
  obtain ⟨cl3, Ar3, -, S3, -, H3, -⟩ := id V_t1
  have hin3 : ¬ (i < 0 ∨ cl3.slots.size ≤ (i).toNatClampNeg) := inb_of S3 ⟨hlo, hhi⟩
  have hat3 : cl3.slots[(i).toNatClampNeg]? = some (.int x) := H3.at hin3 hg
  refine Go.st (f' := (mkF m 9 #[rv t1, iv i] [(.int x)])) (fun _ k => X2.baloadBytes hx (j := i) (v := (.int x)) (by rw [kq2]; exact Ar3.1) (State.isArrayOf_alike hZ.alike Ar3.2.1) Ar3.2.2 hin3 hat3 (g := (mkF m 8 #[rv t1, iv i] [(.int i), (.ref t1)])) rfl rfl (hb hby d33_8) _ k) ?_
  refine Go.st (f' := (mkF m 12 #[rv t1, iv i] [(.int 255), (.int x)])) (fun _ k => XS.sipush X2.here hx rfl (hb hby d33_9) k) ?_
  refine Go.st (f' := (mkF m 13 #[rv t1, iv i] [(.int (x &&& (255 : Int32)))])) (fun _ k => XS.iand X2.here hx rfl (hb hby d33_12) rfl k) ?_
  refine Go.st (f' := (mkF m 14 #[rv t1, iv i] [(.int ((x &&& (255 : Int32)).toUInt32.toUInt16.toUInt32.toInt32))])) (fun _ k => XS.i2c X2.here hx rfl (hb hby d33_13) rfl k) ?_
  refine Go.retB X2 hlk hx (t := .char) hret (by simp) (hb hby d33_14) kq2 ?_ (by decide) (by decide)
  show (some (.int (nar .char ((x &&& (255 : Int32)).toUInt32.toUInt16.toUInt32.toInt32))) : Option Value) = some (.int (clI x)) ∧ _
  exact ⟨by rw [clI], N2, rfl⟩
theorem d31_0 : decode jdk_42_method_56_code 0 = .ok (.aload_n 0, 1) := by decide +kernel
theorem d31_1 : decode jdk_42_method_56_code 1 = .ok (.invokevirtual 492, 3) := by decide +kernel
theorem pd___Z : parseMethodDescriptor "()Z" = some ⟨[], some .boolean⟩ := by decide +kernel
theorem d31_4 : decode jdk_42_method_56_code 4 = .ok (.ifCond .eq 12, 3) := by decide +kernel
theorem d31_7 : decode jdk_42_method_56_code 7 = .ok (.aload_n 0, 1) := by decide +kernel
theorem d31_8 : decode jdk_42_method_56_code 8 = .ok (.getfield 9, 3) := by decide +kernel
theorem d31_11 : decode jdk_42_method_56_code 11 = .ok (.iload_n 1, 1) := by decide +kernel
theorem d31_12 : decode jdk_42_method_56_code 12 = .ok (.invokestatic 495, 3) := by decide +kernel
theorem pd___BI_C : parseMethodDescriptor "([BI)C" = some ⟨[(.array .byte), .int], some .char⟩ := by decide +kernel
theorem d31_15 : decode jdk_42_method_56_code 15 = .ok (.ireturn, 1) := by decide +kernel
def caL (x : Int32) : Int32 := (nar .char (clI x))
set_option maxRecDepth 65536 in
set_option maxHeartbeats 40000000 in
theorem ca0 (l : Launch) (Z : State) (a0 : Array Value) (hw : ∀ d ∈ tables_1, d.before a0 Z = true) (ws : List Jvm.Cond) (a1 : Addr) (t1 : Addr) (k1 : ClassId) (n : Int32) (es : List Value) (i : Int32) (x : Int32) (w_ERROR : Addr) (w_WARNING : Addr) (i_COMPACT_STRINGS : Int32) (v_SIOOBE_FORMATTER : Value) (h0 : Heap) (n0 : Nat) (O0 : Old Z n0 h0) (hlo : ¬ i < (0 : Int32)) (hhi : i < n) (hg : es.getD i.toNatClampNeg (.int 0) = .int x) (E_a1 : Exa Z h0 a1 "java/lang/String") (F_a1_coder : Fld Z h0 a1 "java/lang/String" "coder" "B" (.int 0)) (F_a1_value : Fld Z h0 a1 "java/lang/String" "value" "[B" (.ref t1)) (V_t1 : Arv Z h0 t1 k1 .byte n es (.int 0)) (WW : World1 Z w_ERROR w_WARNING i_COMPACT_STRINGS v_SIOOBE_FORMATTER) :
    Con l Z (⟨"java/lang/String", "charAt", "(I)C"⟩ : MethodName) jdk_42_method_56_code 2 (some .char) ws ({ frames := 3, cells := 0, slots := 0, locals := 40 } : Room) #[(.ref a1), (.int i)] h0 (fun v h L => v = some (.int (caL x)) ∧ Fr n0 L ∧ h = h0) := by
  refine own_body (plainFor_of_name pn_java_lang_String) ?_
  intro p e s m below meth c s₁ hx hby hml hZ hown hnm hlk hret X0 e0
  have N0 := Fr.nil n0
  refine Go.st (T' := s₁) (f' := (mkF m 0 #[rv a1, iv i] [])) (fun _ k => castTop (by first | (simp [entryFrame, mkF, argsToLocals, Value.category]; done) | rfl) k) ?_
  have ⟨S_i_COMPACT_STRINGS, nz_i_COMPACT_STRINGS, S_v_SIOOBE_FORMATTER, r_v_SIOOBE_FORMATTER, S_w_ERROR, E_w_ERROR, S_w_WARNING, E_w_WARNING⟩ := WW
  have lt_w_ERROR := E_w_ERROR.lt
  have lt_w_WARNING := E_w_WARNING.lt
  have lt_t1 := V_t1.lt
  have lt_a1 := E_a1.lt
  refine Go.st (f' := (mkF m 1 #[rv a1, iv i] [(.ref a1)])) (fun _ k => XS.aloadN X0.here hx rfl (hb hby d31_0) rfl rfl k) ?_
  obtain ⟨cq1, kq1, q1a, q1b, q1c⟩ := isOf hZ e0 E_a1
  obtain ⟨_, _, ⟨T1, L1, kk1, nn1⟩, -, X1, ⟨Lc1, hQ1, lq1, yq1, zz1⟩, st1⟩ := X0.virtualBack hx (y := (⟨"java/lang/String", "isLatin1", "()Z"⟩ : MethodName)) (z := (⟨"java/lang/String", "isLatin1", "()Z"⟩ : MethodName)) hown (mvT hZ (ww hw 180 rfl)) (mvT hZ (ww hw 181 rfl)) (notFace_of_selects (args := #[]) (mvT hZ (ww hw 183 rfl))) (mvT hZ (ww hw 183 rfl)) (mvT hZ (ww hw 182 rfl)) (by decide) (own_back (W := 0) (lat l Z a0 hw [] a1 w_ERROR w_WARNING i_COMPACT_STRINGS v_SIOOBE_FORMATTER h0 n0 O0 E_a1 F_a1_coder WW) hZ (ww hw 184 rfl) (ww hw 9 rfl) (by decide) (by decide)) q1a q1c (g := (mkF m 1 #[rv a1, iv i] [(.ref a1)])) rfl (by rw [hml]; rfl) (Steps.refl _) (argsL := []) (rest := []) (lenOf pd___Z rfl) rfl (by show 2 * 0 + _ ≤ _; exact Nat.le_of_eq rfl) (hb hby d31_1) (fun _ _ => ⟨rfl, e0, (by decide : 0 + 0 ≤ _), (by decide : 0 + 0 ≤ _)⟩)
  dsimp only [Pt.U, Pt.locs, Pt.cells, Pt.slots] at X1 lq1 yq1 zz1 st1 hQ1
  subst lq1 yq1 zz1
  obtain ⟨rfl, Nq1, kq1⟩ := hQ1
  have N1 := Fr.app N0 Nq1
  refine Go.tr (f' := (mkF m 4 #[rv a1, iv i] [(.int 1)])) st1 ?_
  refine Go.st (f' := (mkF m 7 #[rv a1, iv i] [])) (fun _ k => XS.ifNo X1.here hx rfl (hb hby d31_4) rfl (by decide) k) ?_
  refine Go.st (f' := (mkF m 8 #[rv a1, iv i] [(.ref a1)])) (fun _ k => XS.aloadN X1.here hx rfl (hb hby d31_7) rfl rfl k) ?_
  obtain ⟨T2, X2, e2, st2⟩ := getF X1 hx hZ hown (host := "") (Or.inl (ww hw 27 rfl)) Via.refl kq1 F_a1_value (g := (mkF m 8 #[rv a1, iv i] [(.ref a1)])) rfl rfl (hb hby d31_8)
  refine Go.st (f' := (mkF m 11 #[rv a1, iv i] [(.ref t1)])) (fun _ k => st2 _ k) ?_
  refine Go.st (f' := (mkF m 12 #[rv a1, iv i] [(.int i), (.ref t1)])) (fun _ k => XS.iloadN X2.here hx rfl (hb hby d31_11) rfl k) ?_
  obtain ⟨_, _, ⟨T3, L3, kk3, nn3⟩, -, X3, ⟨Lc3, hQ3, lq3, yq3, zz3⟩, st3⟩ := Jvm.LawKit.callS X2 hx (y := (⟨"java/lang/StringLatin1", "charAt", "([BI)C"⟩ : MethodName)) hown (mvT hZ (ww hw 185 rfl)) (mvT hZ (ww hw 186 rfl)) (mvT hZ (ww hw 187 rfl)) (mvT hZ (ww hw 188 rfl)) (by decide) (own_back (W := 0) (cl1 l Z a0 hw [] t1 k1 n es i x w_ERROR w_WARNING i_COMPACT_STRINGS v_SIOOBE_FORMATTER h0 n0 O0 hlo hhi hg V_t1 WW) hZ (ww hw 188 rfl) (ww hw 187 rfl) (by decide) (by decide)) (g := (mkF m 12 #[rv a1, iv i] [(.int i), (.ref t1)])) rfl (by rw [hml]; rfl) (argsL := [(.ref t1), (.int i)]) (rest := []) (lenOf pd___BI_C rfl) rfl (by show 2 * 0 + _ ≤ _; exact Nat.le_of_eq rfl) (hb hby d31_12) (fun _ _ => ⟨rfl, e2, (by decide : 0 + 0 ≤ _), (by decide : 0 + 0 ≤ _)⟩)
  dsimp only [Pt.U, Pt.locs, Pt.cells, Pt.slots] at X3 lq3 yq3 zz3 st3 hQ3
  subst lq3 yq3 zz3
  obtain ⟨rfl, Nq3, kq3⟩ := hQ3
  have N3 := Fr.app N1 Nq3
  refine Go.st (f' := (mkF m 15 #[rv a1, iv i] [(.int (clI x))])) (fun _ k => st3 _ k) ?_
  refine Go.retB X3 hlk hx (t := .char) hret (by simp) (hb hby d31_15) kq3 ?_ (by decide) (by decide)
  show (some (.int (nar .char (clI x))) : Option Value) = some (.int (caL x)) ∧ _
  exact ⟨by rw [caL], N3, rfl⟩
theorem d18_0 : decode jdk_42_method_147_code 0 = .ok (.aload_n 0, 1) := by decide +kernel
theorem d18_1 : decode jdk_42_method_147_code 1 = .ok (.invokevirtual 335, 3) := by decide +kernel
theorem d18_4 : decode jdk_42_method_147_code 4 = .ok (.iload_n 3, 1) := by decide +kernel
theorem d18_5 : decode jdk_42_method_147_code 5 = .ok (.if_icmp .ne 23, 3) := by decide +kernel
theorem d18_8 : decode jdk_42_method_147_code 8 = .ok (.aload_n 0, 1) := by decide +kernel
theorem d18_9 : decode jdk_42_method_147_code 9 = .ok (.getfield 9, 3) := by decide +kernel
theorem d18_12 : decode jdk_42_method_147_code 12 = .ok (.iconst 0, 1) := by decide +kernel
theorem d18_13 : decode jdk_42_method_147_code 13 = .ok (.aload_n 1, 1) := by decide +kernel
theorem d18_14 : decode jdk_42_method_147_code 14 = .ok (.iload_n 2, 1) := by decide +kernel
theorem d18_15 : decode jdk_42_method_147_code 15 = .ok (.iload_n 3, 1) := by decide +kernel
theorem d18_16 : decode jdk_42_method_147_code 16 = .ok (.ishl, 1) := by decide +kernel
theorem d18_17 : decode jdk_42_method_147_code 17 = .ok (.aload_n 0, 1) := by decide +kernel
theorem d18_18 : decode jdk_42_method_147_code 18 = .ok (.getfield 9, 3) := by decide +kernel
theorem d18_21 : decode jdk_42_method_147_code 21 = .ok (.arraylength, 1) := by decide +kernel
theorem d18_22 : decode jdk_42_method_147_code 22 = .ok (.invokestatic 212, 3) := by decide +kernel
theorem d18_25 : decode jdk_42_method_147_code 25 = .ok (.goto 18, 3) := by decide +kernel
theorem d18_43 : decode jdk_42_method_147_code 43 = .ok (.return_, 1) := by decide +kernel
set_option maxRecDepth 65536 in
set_option maxHeartbeats 40000000 in
theorem sgb (l : Launch) (Z : State) (a0 : Array Value) (hw : ∀ d ∈ tables_1, d.before a0 Z = true) (ws : List Jvm.Cond) (s1 : Addr) (t1 : Addr) (k1 : ClassId) (n : Int32) (fs : List Value) (t2 : Addr) (k2 : ClassId) (c2 : Int32) (xs : List Value) (w_ERROR : Addr) (w_WARNING : Addr) (i_COMPACT_STRINGS : Int32) (v_SIOOBE_FORMATTER : Value) (h0 : Heap) (n0 : Nat) (O0 : Old Z n0 h0) (lc : Ln c2 xs) (ln : Ln n fs) (cap : xs.length + fs.length ≤ 16) (g_t2 : n0 ≤ t2) (E_s1 : Exa Z h0 s1 "java/lang/String") (F_s1_coder : Fld Z h0 s1 "java/lang/String" "coder" "B" (.int 0)) (F_s1_value : Fld Z h0 s1 "java/lang/String" "value" "[B" (.ref t1)) (V_t1 : Arv Z h0 t1 k1 .byte n fs (.int 0)) (V_t2 : Arv Z h0 t2 k2 .byte (16 : Int32) xs (.int 0)) (WW : World1 Z w_ERROR w_WARNING i_COMPACT_STRINGS v_SIOOBE_FORMATTER) :
    Con l Z (⟨"java/lang/String", "getBytes", "([BIB)V"⟩ : MethodName) jdk_42_method_147_code 4 none ws ({ frames := 1, cells := 0, slots := 0, locals := 20 } : Room) #[(.ref s1), (.ref t2), (.int c2), (.int 0)] h0 (fun v h L => v = none ∧ Fr n0 L ∧ Keep h0 h [t2] ∧ Arv Z h t2 k2 .byte (16 : Int32) (xs ++ fs) (.int 0)) := by
  refine own_body (plainFor_of_name pn_java_lang_String) ?_
  intro p e s m below meth c s₁ hx hby hml hZ hown hnm hlk hret X0 e0
  have N0 := Fr.nil n0
  have K0 : Keep h0 h0 [t2] := Keep.refl _ _
  refine Go.st (T' := s₁) (f' := (mkF m 0 #[rv s1, rv t2, iv c2, iv 0] [])) (fun _ k => castTop (by first | (simp [entryFrame, mkF, argsToLocals, Value.category]; done) | rfl) k) ?_
  have ⟨S_i_COMPACT_STRINGS, nz_i_COMPACT_STRINGS, S_v_SIOOBE_FORMATTER, r_v_SIOOBE_FORMATTER, S_w_ERROR, E_w_ERROR, S_w_WARNING, E_w_WARNING⟩ := WW
  have lt_w_ERROR := E_w_ERROR.lt
  have lt_w_WARNING := E_w_WARNING.lt
  have lt_s1 := E_s1.lt
  have lt_t1 := V_t1.lt
  have lt_t2 := V_t2.lt
  have ne_w_ERROR_t2 : w_ERROR ≠ t2 := O0.ne lt_w_ERROR g_t2
  have ne_w_WARNING_t2 : w_WARNING ≠ t2 := O0.ne lt_w_WARNING g_t2
  refine Go.st (f' := (mkF m 1 #[rv s1, rv t2, iv c2, iv 0] [(.ref s1)])) (fun _ k => XS.aloadN X0.here hx rfl (hb hby d18_0) rfl rfl k) ?_
  obtain ⟨cq1, kq1, q1a, q1b, q1c⟩ := isOf hZ e0 E_s1
  obtain ⟨_, _, ⟨T1, L1, kk1, nn1⟩, -, X1, ⟨Lc1, hQ1, lq1, yq1, zz1⟩, st1⟩ := X0.virtualBack hx (y := (⟨"java/lang/String", "coder", "()B"⟩ : MethodName)) (z := (⟨"java/lang/String", "coder", "()B"⟩ : MethodName)) hown (mvT hZ (ww hw 92 rfl)) (mvT hZ (ww hw 93 rfl)) (notFace_of_selects (args := #[]) (mvT hZ (ww hw 95 rfl))) (mvT hZ (ww hw 95 rfl)) (mvT hZ (ww hw 94 rfl)) (by decide) (own_back (W := 0) (cod l Z a0 hw [] s1 w_ERROR w_WARNING i_COMPACT_STRINGS v_SIOOBE_FORMATTER h0 n0 O0 E_s1 F_s1_coder WW) hZ (ww hw 96 rfl) (ww hw 9 rfl) (by decide) (by decide)) q1a q1c (g := (mkF m 1 #[rv s1, rv t2, iv c2, iv 0] [(.ref s1)])) rfl (by rw [hml]; rfl) (Steps.refl _) (argsL := []) (rest := []) (lenOf pd___B rfl) rfl (by show 2 * 0 + _ ≤ _; exact Nat.le_of_eq rfl) (hb hby d18_1) (fun _ _ => ⟨rfl, e0, (by decide : 0 + 0 ≤ _), (by decide : 0 + 0 ≤ _)⟩)
  dsimp only [Pt.U, Pt.locs, Pt.cells, Pt.slots] at X1 lq1 yq1 zz1 st1 hQ1
  subst lq1 yq1 zz1
  obtain ⟨rfl, Nq1, kq1⟩ := hQ1
  have N1 := Fr.app N0 Nq1
  refine Go.tr (f' := (mkF m 4 #[rv s1, rv t2, iv c2, iv 0] [(.int 0)])) st1 ?_
  refine Go.st (f' := (mkF m 5 #[rv s1, rv t2, iv c2, iv 0] [(.int 0), (.int 0)])) (fun _ k => XS.iloadN X1.here hx rfl (hb hby d18_4) rfl k) ?_
  refine Go.st (f' := (mkF m 8 #[rv s1, rv t2, iv c2, iv 0] [])) (fun _ k => XS.icmpNo X1.here hx rfl (hb hby d18_5) rfl (by decide) k) ?_
  refine Go.st (f' := (mkF m 9 #[rv s1, rv t2, iv c2, iv 0] [(.ref s1)])) (fun _ k => XS.aloadN X1.here hx rfl (hb hby d18_8) rfl rfl k) ?_
  obtain ⟨T2, X2, e2, st2⟩ := getF X1 hx hZ hown (host := "") (Or.inl (ww hw 27 rfl)) Via.refl kq1 F_s1_value (g := (mkF m 9 #[rv s1, rv t2, iv c2, iv 0] [(.ref s1)])) rfl rfl (hb hby d18_9)
  refine Go.st (f' := (mkF m 12 #[rv s1, rv t2, iv c2, iv 0] [(.ref t1)])) (fun _ k => st2 _ k) ?_
  refine Go.st (f' := (mkF m 13 #[rv s1, rv t2, iv c2, iv 0] [(.int 0), (.ref t1)])) (fun _ k => XS.iconst X2.here hx rfl (hb hby d18_12) k) ?_
  refine Go.st (f' := (mkF m 14 #[rv s1, rv t2, iv c2, iv 0] [(.ref t2), (.int 0), (.ref t1)])) (fun _ k => XS.aloadN X2.here hx rfl (hb hby d18_13) rfl rfl k) ?_
  refine Go.st (f' := (mkF m 15 #[rv s1, rv t2, iv c2, iv 0] [(.int c2), (.ref t2), (.int 0), (.ref t1)])) (fun _ k => XS.iloadN X2.here hx rfl (hb hby d18_14) rfl k) ?_
  refine Go.st (f' := (mkF m 16 #[rv s1, rv t2, iv c2, iv 0] [(.int 0), (.int c2), (.ref t2), (.int 0), (.ref t1)])) (fun _ k => XS.iloadN X2.here hx rfl (hb hby d18_15) rfl k) ?_
  refine Go.st (f' := (mkF m 17 #[rv s1, rv t2, iv c2, iv 0] [(.int (c2 <<< ((0 : Int32) &&& 31))), (.ref t2), (.int 0), (.ref t1)])) (fun _ k => XS.ishl X2.here hx rfl (hb hby d18_16) rfl k) ?_
  rw [own_ishl0 c2]
  refine Go.st (f' := (mkF m 18 #[rv s1, rv t2, iv c2, iv 0] [(.ref s1), (.int c2), (.ref t2), (.int 0), (.ref t1)])) (fun _ k => XS.aloadN X2.here hx rfl (hb hby d18_17) rfl rfl k) ?_
  obtain ⟨T3, X3, e3, st3⟩ := getF X2 hx hZ hown (host := "") (Or.inl (ww hw 27 rfl)) Via.refl e2 F_s1_value (g := (mkF m 18 #[rv s1, rv t2, iv c2, iv 0] [(.ref s1), (.int c2), (.ref t2), (.int 0), (.ref t1)])) rfl rfl (hb hby d18_18)
  refine Go.st (f' := (mkF m 21 #[rv s1, rv t2, iv c2, iv 0] [(.ref t1), (.int c2), (.ref t2), (.int 0), (.ref t1)])) (fun _ k => st3 _ k) ?_
  obtain ⟨cl4, Ar4, -, S4, Nx4, -, -⟩ := id V_t1
  refine Go.st (T' := T3) (f' := (mkF m 22 #[rv s1, rv t2, iv c2, iv 0] [(.int n), (.int c2), (.ref t2), (.int 0), (.ref t1)])) (fun _ k => X3.arraylength hx (by rw [e3]; exact Ar4.1) (State.isArrayOf_alike hZ.alike Ar4.2.1) (g := (mkF m 21 #[rv s1, rv t2, iv c2, iv 0] [(.ref t1), (.int c2), (.ref t2), (.int 0), (.ref t1)])) rfl rfl (hb hby d18_21) _ (by rw [len_of S4 Nx4]; exact k)) ?_
  have vp6 := Arv.pad V_t2 (pad_rep xs (.int (0 : Int32)) (fs).length)
  obtain ⟨T7, h7, L7, X7, e7, N7, kq7, vq7, st7⟩ := cpA X3 hx hZ hown (ww hw 121 rfl) (ww hw 124 rfl) (ww hw 122 rfl) (ww hw 123 rfl) e3 V_t1 vp6 (us := fs) (Or.inl ⟨rfl, rfl⟩) (by decide) lc.nn ln.nn (by rw [ln.nat]; exact Nat.le_of_eq (by show 0 + _ = _; omega)) (by rw [lc.nat, ln.nat]; exact cap) (own_mapr ln.nat) (own_padl lc ln) N1 g_t2 (g := (mkF m 22 #[rv s1, rv t2, iv c2, iv 0] [(.int n), (.int c2), (.ref t2), (.int 0), (.ref t1)])) rfl (by rw [hml]; rfl) rfl (hb hby d18_22) (by decide) (W := 0) (by show 2 * 0 + _ ≤ _; exact Nat.le_of_eq rfl) (by decide)
  rw [own_join lc.nat ln.nat] at vq7
  have O7 : Old Z n0 h7 := O0.keep kq7 (allS g_t2 all0)
  have K7 : Keep h0 h7 [t2] := K0.trans kq7 (allS (Or.inl (List.mem_of_getElem? (i := 0) rfl)) all0)
  refine Go.st (f' := (mkF m 25 #[rv s1, rv t2, iv c2, iv 0] [])) (fun _ k => st7 _ k) ?_
  refine Go.st (f' := (mkF m 43 #[rv s1, rv t2, iv c2, iv 0] [])) (fun _ k => XS.goto X7.here hx rfl (pc0 := 25) (pc' := 43) rfl (hb hby d18_25) (by decide) (by decide) k) ?_
  refine Go.ret0 X7 hlk hx hret (hb hby d18_43) e7 ?_ (by decide) (by decide)
  exact ⟨rfl, N7, K7, vq7⟩
theorem pn_java_lang_AbstractStringBuilder : plainName "java/lang/AbstractStringBuilder" = true := by first | (simp [plainName, overriddenIn]; done) | decide +kernel
theorem d17_0 : decode jdk_68_method_71_code 0 = .ok (.getstatic 18, 3) := by decide +kernel
theorem d17_3 : decode jdk_68_method_71_code 3 = .ok (.ifCond .eq 18, 3) := by decide +kernel
theorem d17_6 : decode jdk_68_method_71_code 6 = .ok (.aload_n 0, 1) := by decide +kernel
theorem d17_7 : decode jdk_68_method_71_code 7 = .ok (.getfield 22, 3) := by decide +kernel
theorem d17_10 : decode jdk_68_method_71_code 10 = .ok (.aload_n 1, 1) := by decide +kernel
theorem d17_11 : decode jdk_68_method_71_code 11 = .ok (.invokevirtual 40, 3) := by decide +kernel
theorem d17_14 : decode jdk_68_method_71_code 14 = .ok (.if_icmp .eq 7, 3) := by decide +kernel
theorem d17_21 : decode jdk_68_method_71_code 21 = .ok (.return_, 1) := by decide +kernel
set_option maxRecDepth 65536 in
set_option maxHeartbeats 40000000 in
theorem sbi (l : Launch) (Z : State) (a0 : Array Value) (hw : ∀ d ∈ tables_1, d.before a0 Z = true) (ws : List Jvm.Cond) (sb : Addr) (s1 : Addr) (w_ERROR : Addr) (w_WARNING : Addr) (i_COMPACT_STRINGS : Int32) (v_SIOOBE_FORMATTER : Value) (h0 : Heap) (n0 : Nat) (O0 : Old Z n0 h0) (E_sb : Exa Z h0 sb "java/lang/StringBuilder") (F_sb_coder : Fld Z h0 sb "java/lang/AbstractStringBuilder" "coder" "B" (.int 0)) (E_s1 : Exa Z h0 s1 "java/lang/String") (F_s1_coder : Fld Z h0 s1 "java/lang/String" "coder" "B" (.int 0)) (WW : World1 Z w_ERROR w_WARNING i_COMPACT_STRINGS v_SIOOBE_FORMATTER) :
    Con l Z (⟨"java/lang/AbstractStringBuilder", "inflateIfNeededFor", "(Ljava/lang/String;)V"⟩ : MethodName) jdk_68_method_71_code 2 none ws ({ frames := 1, cells := 0, slots := 0, locals := 13 } : Room) #[(.ref sb), (.ref s1)] h0 (fun v h L => v = none ∧ Fr n0 L ∧ h = h0) := by
  refine own_body (plainFor_of_name pn_java_lang_AbstractStringBuilder) ?_
  intro p e s m below meth c s₁ hx hby hml hZ hown hnm hlk hret X0 e0
  have N0 := Fr.nil n0
  refine Go.st (T' := s₁) (f' := (mkF m 0 #[rv sb, rv s1] [])) (fun _ k => castTop (by first | (simp [entryFrame, mkF, argsToLocals, Value.category]; done) | rfl) k) ?_
  have ⟨S_i_COMPACT_STRINGS, nz_i_COMPACT_STRINGS, S_v_SIOOBE_FORMATTER, r_v_SIOOBE_FORMATTER, S_w_ERROR, E_w_ERROR, S_w_WARNING, E_w_WARNING⟩ := WW
  have lt_w_ERROR := E_w_ERROR.lt
  have lt_w_WARNING := E_w_WARNING.lt
  have lt_sb := E_sb.lt
  have lt_s1 := E_s1.lt
  obtain ⟨T1, X1, e1, st1⟩ := getS2 X0 hx hZ hown (host := "") (Or.inl (ww hw 72 rfl)) Via.refl e0 (S_i_COMPACT_STRINGS.ext O0.2) (g := (mkF m 0 #[rv sb, rv s1] [])) rfl (hb hby d17_0)
  refine Go.st (f' := (mkF m 3 #[rv sb, rv s1] [(.int i_COMPACT_STRINGS)])) (fun _ k => st1 _ k) ?_
  refine Go.st (f' := (mkF m 6 #[rv sb, rv s1] [])) (fun _ k => XS.ifNo X1.here hx rfl (hb hby d17_3) rfl ((if0 _ _).trans (feq nz_i_COMPACT_STRINGS).1) k) ?_
  refine Go.st (f' := (mkF m 7 #[rv sb, rv s1] [(.ref sb)])) (fun _ k => XS.aloadN X1.here hx rfl (hb hby d17_6) rfl rfl k) ?_
  obtain ⟨T2, X2, e2, st2⟩ := getF X1 hx hZ hown (host := "") (Or.inl (ww hw 75 rfl)) Via.refl e1 F_sb_coder (g := (mkF m 7 #[rv sb, rv s1] [(.ref sb)])) rfl rfl (hb hby d17_7)
  refine Go.st (f' := (mkF m 10 #[rv sb, rv s1] [(.int 0)])) (fun _ k => st2 _ k) ?_
  refine Go.st (f' := (mkF m 11 #[rv sb, rv s1] [(.ref s1), (.int 0)])) (fun _ k => XS.aloadN X2.here hx rfl (hb hby d17_10) rfl rfl k) ?_
  obtain ⟨cq3, kq3, q3a, q3b, q3c⟩ := isOf hZ e2 E_s1
  obtain ⟨_, _, ⟨T3, L3, kk3, nn3⟩, -, X3, ⟨Lc3, hQ3, lq3, yq3, zz3⟩, st3⟩ := X2.virtualBack hx (y := (⟨"java/lang/String", "coder", "()B"⟩ : MethodName)) (z := (⟨"java/lang/String", "coder", "()B"⟩ : MethodName)) hown (mvT hZ (ww hw 115 rfl)) (mvT hZ (ww hw 93 rfl)) (notFace_of_selects (args := #[]) (mvT hZ (ww hw 95 rfl))) (mvT hZ (ww hw 95 rfl)) (mvT hZ (ww hw 94 rfl)) (by decide) (own_back (W := 1) (cod l Z a0 hw [] s1 w_ERROR w_WARNING i_COMPACT_STRINGS v_SIOOBE_FORMATTER h0 n0 O0 E_s1 F_s1_coder WW) hZ (ww hw 96 rfl) (ww hw 9 rfl) (by decide) (by decide)) q3a q3c (g := (mkF m 11 #[rv sb, rv s1] [(.ref s1), (.int 0)])) rfl (by rw [hml]; rfl) (Steps.refl _) (argsL := []) (rest := [(.int (0 : Int32))]) (lenOf pd___B rfl) rfl (by show 2 * 0 + _ ≤ _; exact Nat.le_of_eq rfl) (hb hby d17_11) (fun _ _ => ⟨rfl, e2, (by decide : 0 + 0 ≤ _), (by decide : 0 + 0 ≤ _)⟩)
  dsimp only [Pt.U, Pt.locs, Pt.cells, Pt.slots] at X3 lq3 yq3 zz3 st3 hQ3
  subst lq3 yq3 zz3
  obtain ⟨rfl, Nq3, kq3⟩ := hQ3
  have N3 := Fr.app N0 Nq3
  refine Go.tr (f' := (mkF m 14 #[rv sb, rv s1] [(.int 0), (.int 0)])) st3 ?_
  refine Go.st (f' := (mkF m 21 #[rv sb, rv s1] [])) (fun _ k => XS.icmpYes X3.here hx rfl (pc0 := 14) (pc' := 21) rfl (hb hby d17_14) rfl (by decide) (by decide) (by decide) k) ?_
  refine Go.ret0 X3 hlk hx hret (hb hby d17_21) kq3 ?_ (by decide) (by decide)
  exact ⟨rfl, N3, rfl⟩
theorem d15_0 : decode jdk_68_method_9_code 0 = .ok (.aload_n 0, 1) := by decide +kernel
theorem d15_1 : decode jdk_68_method_9_code 1 = .ok (.getfield 15, 3) := by decide +kernel
theorem d15_4 : decode jdk_68_method_9_code 4 = .ok (.arraylength, 1) := by decide +kernel
theorem d15_5 : decode jdk_68_method_9_code 5 = .ok (.aload_n 0, 1) := by decide +kernel
theorem d15_6 : decode jdk_68_method_9_code 6 = .ok (.getfield 22, 3) := by decide +kernel
theorem d15_9 : decode jdk_68_method_9_code 9 = .ok (.ishr, 1) := by decide +kernel
theorem d15_10 : decode jdk_68_method_9_code 10 = .ok (.istore_n 2, 1) := by decide +kernel
theorem d15_11 : decode jdk_68_method_9_code 11 = .ok (.iload_n 1, 1) := by decide +kernel
theorem d15_12 : decode jdk_68_method_9_code 12 = .ok (.iload_n 2, 1) := by decide +kernel
theorem d15_13 : decode jdk_68_method_9_code 13 = .ok (.isub, 1) := by decide +kernel
theorem d15_14 : decode jdk_68_method_9_code 14 = .ok (.ifCond .le 24, 3) := by decide +kernel
theorem d15_38 : decode jdk_68_method_9_code 38 = .ok (.return_, 1) := by decide +kernel
set_option maxRecDepth 65536 in
set_option maxHeartbeats 40000000 in
theorem sbe (l : Launch) (Z : State) (a0 : Array Value) (hw : ∀ d ∈ tables_1, d.before a0 Z = true) (ws : List Jvm.Cond) (sb : Addr) (q1 : Int32) (t2 : Addr) (k2 : ClassId) (xs : List Value) (w_ERROR : Addr) (w_WARNING : Addr) (i_COMPACT_STRINGS : Int32) (v_SIOOBE_FORMATTER : Value) (h0 : Heap) (n0 : Nat) (O0 : Old Z n0 h0) (hq : ¬ (0 : Int32) < (q1 - (16 : Int32))) (E_sb : Exa Z h0 sb "java/lang/StringBuilder") (F_sb_coder : Fld Z h0 sb "java/lang/AbstractStringBuilder" "coder" "B" (.int 0)) (F_sb_value : Fld Z h0 sb "java/lang/AbstractStringBuilder" "value" "[B" (.ref t2)) (V_t2 : Arv Z h0 t2 k2 .byte (16 : Int32) xs (.int 0)) (WW : World1 Z w_ERROR w_WARNING i_COMPACT_STRINGS v_SIOOBE_FORMATTER) :
    Con l Z (⟨"java/lang/AbstractStringBuilder", "ensureCapacityInternal", "(I)V"⟩ : MethodName) jdk_68_method_9_code 3 none ws ({ frames := 0, cells := 0, slots := 0, locals := 0 } : Room) #[(.ref sb), (.int q1)] h0 (fun v h L => v = none ∧ Fr n0 L ∧ h = h0) := by
  refine own_body (plainFor_of_name pn_java_lang_AbstractStringBuilder) ?_
  intro p e s m below meth c s₁ hx hby hml hZ hown hnm hlk hret X0 e0
  have N0 := Fr.nil n0
  refine Go.st (T' := s₁) (f' := (mkF m 0 #[rv sb, iv q1, .unset] [])) (fun _ k => castTop (by first | (simp [entryFrame, mkF, argsToLocals, Value.category]; done) | rfl) k) ?_
  have ⟨S_i_COMPACT_STRINGS, nz_i_COMPACT_STRINGS, S_v_SIOOBE_FORMATTER, r_v_SIOOBE_FORMATTER, S_w_ERROR, E_w_ERROR, S_w_WARNING, E_w_WARNING⟩ := WW
  have lt_w_ERROR := E_w_ERROR.lt
  have lt_w_WARNING := E_w_WARNING.lt
  have lt_sb := E_sb.lt
  have lt_t2 := V_t2.lt
  refine Go.st (f' := (mkF m 1 #[rv sb, iv q1, .unset] [(.ref sb)])) (fun _ k => XS.aloadN X0.here hx rfl (hb hby d15_0) rfl rfl k) ?_
  obtain ⟨T1, X1, e1, st1⟩ := getF X0 hx hZ hown (host := "") (Or.inl (ww hw 73 rfl)) Via.refl e0 F_sb_value (g := (mkF m 1 #[rv sb, iv q1, .unset] [(.ref sb)])) rfl rfl (hb hby d15_1)
  refine Go.st (f' := (mkF m 4 #[rv sb, iv q1, .unset] [(.ref t2)])) (fun _ k => st1 _ k) ?_
  obtain ⟨cl2, Ar2, -, S2, Nx2, -, -⟩ := id V_t2
  refine Go.st (T' := T1) (f' := (mkF m 5 #[rv sb, iv q1, .unset] [(.int 16)])) (fun _ k => X1.arraylength hx (by rw [e1]; exact Ar2.1) (State.isArrayOf_alike hZ.alike Ar2.2.1) (g := (mkF m 4 #[rv sb, iv q1, .unset] [(.ref t2)])) rfl rfl (hb hby d15_4) _ (by rw [len_of S2 Nx2]; exact k)) ?_
  refine Go.st (f' := (mkF m 6 #[rv sb, iv q1, .unset] [(.ref sb), (.int 16)])) (fun _ k => XS.aloadN X1.here hx rfl (hb hby d15_5) rfl rfl k) ?_
  obtain ⟨T3, X3, e3, st3⟩ := getF X1 hx hZ hown (host := "") (Or.inl (ww hw 75 rfl)) Via.refl e1 F_sb_coder (g := (mkF m 6 #[rv sb, iv q1, .unset] [(.ref sb), (.int 16)])) rfl rfl (hb hby d15_6)
  refine Go.st (f' := (mkF m 9 #[rv sb, iv q1, .unset] [(.int 0), (.int 16)])) (fun _ k => st3 _ k) ?_
  refine Go.st (f' := (mkF m 10 #[rv sb, iv q1, .unset] [(.int 16)])) (fun _ k => XS.ishr X3.here hx rfl (hb hby d15_9) rfl k) ?_
  refine Go.st (f' := (mkF m 11 #[rv sb, iv q1, iv 16] [])) (fun _ k => XS.istoreN X3.here hx rfl (hb hby d15_10) rfl (l' := #[rv sb, iv q1, iv 16]) rfl k) ?_
  refine Go.st (f' := (mkF m 12 #[rv sb, iv q1, iv 16] [(.int q1)])) (fun _ k => XS.iloadN X3.here hx rfl (hb hby d15_11) rfl k) ?_
  refine Go.st (f' := (mkF m 13 #[rv sb, iv q1, iv 16] [(.int 16), (.int q1)])) (fun _ k => XS.iloadN X3.here hx rfl (hb hby d15_12) rfl k) ?_
  refine Go.st (f' := (mkF m 14 #[rv sb, iv q1, iv 16] [(.int (q1 - (16 : Int32)))])) (fun _ k => XS.isub X3.here hx rfl (hb hby d15_13) rfl k) ?_
  refine Go.st (f' := (mkF m 38 #[rv sb, iv q1, iv 16] [])) (fun _ k => XS.ifYes X3.here hx rfl (pc0 := 14) (pc' := 38) rfl (hb hby d15_14) rfl ((if0 _ _).trans (flt hq).2.2.2) (by decide) (by decide) k) ?_
  refine Go.ret0 X3 hlk hx hret (hb hby d15_38) e3 ?_ (by decide) (by decide)
  exact ⟨rfl, N0, rfl⟩
theorem own_cap {c n : Int32} {xs fs : List Value} (a : Ln c xs) (b : Ln n fs) (h : xs.length + fs.length ≤ 16) : ¬ (0 : Int32) < ((c + n) - (16 : Int32)) := by
  have q := (a.app b (by omega)).2
  rw [List.length_append] at q
  have s := c_isub (c + n) 16
  have r := rng32 ((c + n) - 16)
  have e16 : (16 : Int32).toInt = 16 := by decide
  have e0 : (0 : Int32).toInt = 0 := by decide
  rw [Int32.lt_iff_toInt_lt]
  have := a.1; have := b.1
  omega
theorem d16_0 : decode jdk_68_method_73_code 0 = .ok (.aload_n 0, 1) := by decide +kernel
theorem d16_1 : decode jdk_68_method_73_code 1 = .ok (.aload_n 2, 1) := by decide +kernel
theorem d16_2 : decode jdk_68_method_73_code 2 = .ok (.invokevirtual 397, 3) := by decide +kernel
theorem pd__Ljava_lang_String__V : parseMethodDescriptor "(Ljava/lang/String;)V" = some ⟨[(.object "java/lang/String")], none⟩ := by decide +kernel
theorem d16_5 : decode jdk_68_method_73_code 5 = .ok (.aload_n 2, 1) := by decide +kernel
theorem d16_6 : decode jdk_68_method_73_code 6 = .ok (.aload_n 0, 1) := by decide +kernel
theorem d16_7 : decode jdk_68_method_73_code 7 = .ok (.getfield 15, 3) := by decide +kernel
theorem d16_10 : decode jdk_68_method_73_code 10 = .ok (.iload_n 1, 1) := by decide +kernel
theorem d16_11 : decode jdk_68_method_73_code 11 = .ok (.aload_n 0, 1) := by decide +kernel
theorem d16_12 : decode jdk_68_method_73_code 12 = .ok (.getfield 22, 3) := by decide +kernel
theorem d16_15 : decode jdk_68_method_73_code 15 = .ok (.invokevirtual 399, 3) := by decide +kernel
theorem pd___BIB_V : parseMethodDescriptor "([BIB)V" = some ⟨[(.array .byte), .int, .byte], none⟩ := by decide +kernel
theorem d16_18 : decode jdk_68_method_73_code 18 = .ok (.return_, 1) := by decide +kernel
set_option maxRecDepth 65536 in
set_option maxHeartbeats 40000000 in
theorem sbp (l : Launch) (Z : State) (a0 : Array Value) (hw : ∀ d ∈ tables_1, d.before a0 Z = true) (ws : List Jvm.Cond) (sb : Addr) (s1 : Addr) (t1 : Addr) (k1 : ClassId) (n : Int32) (fs : List Value) (t2 : Addr) (k2 : ClassId) (c2 : Int32) (xs : List Value) (w_ERROR : Addr) (w_WARNING : Addr) (i_COMPACT_STRINGS : Int32) (v_SIOOBE_FORMATTER : Value) (h0 : Heap) (n0 : Nat) (O0 : Old Z n0 h0) (lc : Ln c2 xs) (ln : Ln n fs) (cap : xs.length + fs.length ≤ 16) (g_t2 : n0 ≤ t2) (E_sb : Exa Z h0 sb "java/lang/StringBuilder") (F_sb_coder : Fld Z h0 sb "java/lang/AbstractStringBuilder" "coder" "B" (.int 0)) (F_sb_value : Fld Z h0 sb "java/lang/AbstractStringBuilder" "value" "[B" (.ref t2)) (E_s1 : Exa Z h0 s1 "java/lang/String") (F_s1_coder : Fld Z h0 s1 "java/lang/String" "coder" "B" (.int 0)) (F_s1_value : Fld Z h0 s1 "java/lang/String" "value" "[B" (.ref t1)) (V_t1 : Arv Z h0 t1 k1 .byte n fs (.int 0)) (V_t2 : Arv Z h0 t2 k2 .byte (16 : Int32) xs (.int 0)) (WW : World1 Z w_ERROR w_WARNING i_COMPACT_STRINGS v_SIOOBE_FORMATTER) :
    Con l Z (⟨"java/lang/AbstractStringBuilder", "putStringAt", "(ILjava/lang/String;)V"⟩ : MethodName) jdk_68_method_73_code 3 none ws ({ frames := 2, cells := 0, slots := 0, locals := 35 } : Room) #[(.ref sb), (.int c2), (.ref s1)] h0 (fun v h L => v = none ∧ Fr n0 L ∧ Keep h0 h [t2] ∧ Arv Z h t2 k2 .byte (16 : Int32) (xs ++ fs) (.int 0)) := by
  refine own_body (plainFor_of_name pn_java_lang_AbstractStringBuilder) ?_
  intro p e s m below meth c s₁ hx hby hml hZ hown hnm hlk hret X0 e0
  have N0 := Fr.nil n0
  have K0 : Keep h0 h0 [t2] := Keep.refl _ _
  refine Go.st (T' := s₁) (f' := (mkF m 0 #[rv sb, iv c2, rv s1] [])) (fun _ k => castTop (by first | (simp [entryFrame, mkF, argsToLocals, Value.category]; done) | rfl) k) ?_
  have ⟨S_i_COMPACT_STRINGS, nz_i_COMPACT_STRINGS, S_v_SIOOBE_FORMATTER, r_v_SIOOBE_FORMATTER, S_w_ERROR, E_w_ERROR, S_w_WARNING, E_w_WARNING⟩ := WW
  have lt_w_ERROR := E_w_ERROR.lt
  have lt_w_WARNING := E_w_WARNING.lt
  have lt_sb := E_sb.lt
  have lt_s1 := E_s1.lt
  have lt_t1 := V_t1.lt
  have lt_t2 := V_t2.lt
  have ne_w_ERROR_t2 : w_ERROR ≠ t2 := O0.ne lt_w_ERROR g_t2
  have ne_w_WARNING_t2 : w_WARNING ≠ t2 := O0.ne lt_w_WARNING g_t2
  have nt_sb_t2 : sb ≠ t2 := Exa.neArv E_sb V_t2 (ww hw 60 rfl)
  have nt_s1_t2 : s1 ≠ t2 := Exa.neArv E_s1 V_t2 (ww hw 8 rfl)
  refine Go.st (f' := (mkF m 1 #[rv sb, iv c2, rv s1] [(.ref sb)])) (fun _ k => XS.aloadN X0.here hx rfl (hb hby d16_0) rfl rfl k) ?_
  refine Go.st (f' := (mkF m 2 #[rv sb, iv c2, rv s1] [(.ref s1), (.ref sb)])) (fun _ k => XS.aloadN X0.here hx rfl (hb hby d16_1) rfl rfl k) ?_
  obtain ⟨cq1, q1, q1'⟩ := E_sb.cell
  obtain ⟨_, _, ⟨T1, L1, kk1, nn1⟩, -, X1, ⟨Lc1, hQ1, lq1, yq1, zz1⟩, st1⟩ := X0.privateBack hx (y := (⟨"java/lang/AbstractStringBuilder", "inflateIfNeededFor", "(Ljava/lang/String;)V"⟩ : MethodName)) hown (mvT hZ (ww hw 110 rfl)) (mvT hZ (ww hw 111 rfl)) (own_selp (mvT hZ (ww hw 113 rfl)) (Cond.privateMethod_at (mvP hZ (ww hw 112 rfl) (args := #[]))) (mvT hZ (ww hw 111 rfl)) (by decide)) (Cond.privateMethod_at (mvP hZ (ww hw 112 rfl) (args := #[]))) (mvT hZ (ww hw 114 rfl)) (by decide) (own_back (W := 0) (sbi l Z a0 hw [] sb s1 w_ERROR w_WARNING i_COMPACT_STRINGS v_SIOOBE_FORMATTER h0 n0 O0 E_sb F_sb_coder E_s1 F_s1_coder WW) hZ (ww hw 114 rfl) (ww hw 69 rfl) (by decide) (by decide)) (g := (mkF m 2 #[rv sb, iv c2, rv s1] [(.ref s1), (.ref sb)])) rfl (by rw [hml]; rfl) (Steps.refl _) (a := sb) (by rw [e0]; exact q1) q1' (argsL := [(.ref s1)]) (rest := []) (lenOf pd__Ljava_lang_String__V rfl) rfl (by show 2 * 0 + _ ≤ _; exact Nat.le_of_eq rfl) (hb hby d16_2) (fun _ _ => ⟨rfl, e0, (by decide : 0 + 0 ≤ _), (by decide : 0 + 0 ≤ _)⟩)
  dsimp only [Pt.U, Pt.locs, Pt.cells, Pt.slots] at X1 lq1 yq1 zz1 st1 hQ1
  subst lq1 yq1 zz1
  obtain ⟨rfl, Nq1, kq1⟩ := hQ1
  have N1 := Fr.app N0 Nq1
  refine Go.tr (f' := (mkF m 5 #[rv sb, iv c2, rv s1] [])) st1 ?_
  refine Go.st (f' := (mkF m 6 #[rv sb, iv c2, rv s1] [(.ref s1)])) (fun _ k => XS.aloadN X1.here hx rfl (hb hby d16_5) rfl rfl k) ?_
  refine Go.st (f' := (mkF m 7 #[rv sb, iv c2, rv s1] [(.ref sb), (.ref s1)])) (fun _ k => XS.aloadN X1.here hx rfl (hb hby d16_6) rfl rfl k) ?_
  obtain ⟨T2, X2, e2, st2⟩ := getF X1 hx hZ hown (host := "") (Or.inl (ww hw 73 rfl)) Via.refl kq1 F_sb_value (g := (mkF m 7 #[rv sb, iv c2, rv s1] [(.ref sb), (.ref s1)])) rfl rfl (hb hby d16_7)
  refine Go.st (f' := (mkF m 10 #[rv sb, iv c2, rv s1] [(.ref t2), (.ref s1)])) (fun _ k => st2 _ k) ?_
  refine Go.st (f' := (mkF m 11 #[rv sb, iv c2, rv s1] [(.int c2), (.ref t2), (.ref s1)])) (fun _ k => XS.iloadN X2.here hx rfl (hb hby d16_10) rfl k) ?_
  refine Go.st (f' := (mkF m 12 #[rv sb, iv c2, rv s1] [(.ref sb), (.int c2), (.ref t2), (.ref s1)])) (fun _ k => XS.aloadN X2.here hx rfl (hb hby d16_11) rfl rfl k) ?_
  obtain ⟨T3, X3, e3, st3⟩ := getF X2 hx hZ hown (host := "") (Or.inl (ww hw 75 rfl)) Via.refl e2 F_sb_coder (g := (mkF m 12 #[rv sb, iv c2, rv s1] [(.ref sb), (.int c2), (.ref t2), (.ref s1)])) rfl rfl (hb hby d16_12)
  refine Go.st (f' := (mkF m 15 #[rv sb, iv c2, rv s1] [(.int 0), (.int c2), (.ref t2), (.ref s1)])) (fun _ k => st3 _ k) ?_
  obtain ⟨cq4, kq4, q4a, q4b, q4c⟩ := isOf hZ e3 E_s1
  obtain ⟨_, _, ⟨T4, L4, kk4, nn4⟩, -, X4, ⟨Lc4, hQ4, lq4, yq4, zz4⟩, st4⟩ := X3.virtualBack hx (y := (⟨"java/lang/String", "getBytes", "([BIB)V"⟩ : MethodName)) (z := (⟨"java/lang/String", "getBytes", "([BIB)V"⟩ : MethodName)) hown (mvT hZ (ww hw 116 rfl)) (mvT hZ (ww hw 117 rfl)) (notFace_of_selects (args := #[]) (mvT hZ (ww hw 119 rfl))) (mvT hZ (ww hw 119 rfl)) (mvT hZ (ww hw 118 rfl)) (by decide) (own_back (W := 0) (sgb l Z a0 hw [] s1 t1 k1 n fs t2 k2 c2 xs w_ERROR w_WARNING i_COMPACT_STRINGS v_SIOOBE_FORMATTER h0 n0 O0 lc ln cap g_t2 E_s1 F_s1_coder F_s1_value V_t1 V_t2 WW) hZ (ww hw 120 rfl) (ww hw 9 rfl) (by decide) (by decide)) q4a q4c (g := (mkF m 15 #[rv sb, iv c2, rv s1] [(.int 0), (.int c2), (.ref t2), (.ref s1)])) rfl (by rw [hml]; rfl) (Steps.refl _) (argsL := [(.ref t2), (.int c2), (.int (0 : Int32))]) (rest := []) (lenOf pd___BIB_V rfl) rfl (by show 2 * 0 + _ ≤ _; exact Nat.le_of_eq rfl) (hb hby d16_15) (fun _ _ => ⟨rfl, e3, (by decide : 0 + 0 ≤ _), (by decide : 0 + 0 ≤ _)⟩)
  dsimp only [Pt.U, Pt.locs, Pt.cells, Pt.slots] at X4 lq4 yq4 zz4 st4 hQ4
  subst lq4 yq4 zz4
  obtain ⟨rfl, Nq4, kq4, vq4⟩ := hQ4
  have N4 := Fr.app N1 Nq4
  have O4 : Old Z n0 T4.heap := O0.keep kq4 (allS g_t2 all0)
  have K4 : Keep h0 T4.heap [t2] := K0.trans kq4 (allS (Or.inl (List.mem_of_getElem? (i := 0) rfl)) all0)
  refine Go.tr (f' := (mkF m 18 #[rv sb, iv c2, rv s1] [])) st4 ?_
  refine Go.ret0 X4 hlk hx hret (hb hby d16_18) rfl ?_ (by decide) (by decide)
  exact ⟨rfl, N4, K4, vq4⟩
theorem d12_0 : decode jdk_68_method_22_code 0 = .ok (.aload_n 1, 1) := by decide +kernel
theorem d12_1 : decode jdk_68_method_22_code 1 = .ok (.ifnonnull 8, 3) := by decide +kernel
theorem d12_9 : decode jdk_68_method_22_code 9 = .ok (.aload_n 1, 1) := by decide +kernel
theorem d12_10 : decode jdk_68_method_22_code 10 = .ok (.invokevirtual 32, 3) := by decide +kernel
theorem pd___I : parseMethodDescriptor "()I" = some ⟨[], some .int⟩ := by decide +kernel
theorem d12_13 : decode jdk_68_method_22_code 13 = .ok (.istore_n 2, 1) := by decide +kernel
theorem d12_14 : decode jdk_68_method_22_code 14 = .ok (.aload_n 0, 1) := by decide +kernel
theorem d12_15 : decode jdk_68_method_22_code 15 = .ok (.aload_n 0, 1) := by decide +kernel
theorem d12_16 : decode jdk_68_method_22_code 16 = .ok (.getfield 79, 3) := by decide +kernel
theorem d12_19 : decode jdk_68_method_22_code 19 = .ok (.iload_n 2, 1) := by decide +kernel
theorem d12_20 : decode jdk_68_method_22_code 20 = .ok (.iadd, 1) := by decide +kernel
theorem d12_21 : decode jdk_68_method_22_code 21 = .ok (.invokevirtual 100, 3) := by decide +kernel
theorem pd__I_V : parseMethodDescriptor "(I)V" = some ⟨[.int], none⟩ := by decide +kernel
theorem d12_24 : decode jdk_68_method_22_code 24 = .ok (.aload_n 0, 1) := by decide +kernel
theorem d12_25 : decode jdk_68_method_22_code 25 = .ok (.aload_n 0, 1) := by decide +kernel
theorem d12_26 : decode jdk_68_method_22_code 26 = .ok (.getfield 79, 3) := by decide +kernel
theorem d12_29 : decode jdk_68_method_22_code 29 = .ok (.aload_n 1, 1) := by decide +kernel
theorem d12_30 : decode jdk_68_method_22_code 30 = .ok (.invokevirtual 208, 3) := by decide +kernel
theorem pd__ILjava_lang_String__V : parseMethodDescriptor "(ILjava/lang/String;)V" = some ⟨[.int, (.object "java/lang/String")], none⟩ := by decide +kernel
theorem d12_33 : decode jdk_68_method_22_code 33 = .ok (.aload_n 0, 1) := by decide +kernel
theorem d12_34 : decode jdk_68_method_22_code 34 = .ok (.dup, 1) := by decide +kernel
theorem d12_35 : decode jdk_68_method_22_code 35 = .ok (.getfield 79, 3) := by decide +kernel
theorem d12_38 : decode jdk_68_method_22_code 38 = .ok (.iload_n 2, 1) := by decide +kernel
theorem d12_39 : decode jdk_68_method_22_code 39 = .ok (.iadd, 1) := by decide +kernel
theorem d12_40 : decode jdk_68_method_22_code 40 = .ok (.putfield 79, 3) := by decide +kernel
theorem d12_43 : decode jdk_68_method_22_code 43 = .ok (.aload_n 0, 1) := by decide +kernel
theorem d12_44 : decode jdk_68_method_22_code 44 = .ok (.areturn, 1) := by decide +kernel
set_option maxRecDepth 65536 in
set_option maxHeartbeats 40000000 in
theorem sba (l : Launch) (Z : State) (a0 : Array Value) (hw : ∀ d ∈ tables_1, d.before a0 Z = true) (ws : List Jvm.Cond) (sb : Addr) (s1 : Addr) (t1 : Addr) (k1 : ClassId) (n : Int32) (fs : List Value) (t2 : Addr) (k2 : ClassId) (c2 : Int32) (xs : List Value) (w_ERROR : Addr) (w_WARNING : Addr) (i_COMPACT_STRINGS : Int32) (v_SIOOBE_FORMATTER : Value) (h0 : Heap) (n0 : Nat) (O0 : Old Z n0 h0) (lc : Ln c2 xs) (ln : Ln n fs) (cap : xs.length + fs.length ≤ 16) (g_sb : n0 ≤ sb) (g_t2 : n0 ≤ t2) (E_sb : Exa Z h0 sb "java/lang/StringBuilder") (F_sb_coder : Fld Z h0 sb "java/lang/AbstractStringBuilder" "coder" "B" (.int 0)) (F_sb_value : Fld Z h0 sb "java/lang/AbstractStringBuilder" "value" "[B" (.ref t2)) (F_sb_count : Fld Z h0 sb "java/lang/AbstractStringBuilder" "count" "I" (.int c2)) (E_s1 : Exa Z h0 s1 "java/lang/String") (F_s1_coder : Fld Z h0 s1 "java/lang/String" "coder" "B" (.int 0)) (F_s1_value : Fld Z h0 s1 "java/lang/String" "value" "[B" (.ref t1)) (V_t1 : Arv Z h0 t1 k1 .byte n fs (.int 0)) (V_t2 : Arv Z h0 t2 k2 .byte (16 : Int32) xs (.int 0)) (WW : World1 Z w_ERROR w_WARNING i_COMPACT_STRINGS v_SIOOBE_FORMATTER) :
    Con l Z (⟨"java/lang/AbstractStringBuilder", "append", "(Ljava/lang/String;)Ljava/lang/AbstractStringBuilder;"⟩ : MethodName) jdk_68_method_22_code 3 (some (.object "java/lang/AbstractStringBuilder")) ws ({ frames := 3, cells := 0, slots := 0, locals := 49 } : Room) #[(.ref sb), (.ref s1)] h0 (fun v h L => v = some (.ref sb) ∧ Fr n0 L ∧ Keep h0 h [sb, t2] ∧ Exa Z h sb "java/lang/StringBuilder" ∧ Fld Z h sb "java/lang/AbstractStringBuilder" "coder" "B" (.int 0) ∧ Fld Z h sb "java/lang/AbstractStringBuilder" "value" "[B" (.ref t2) ∧ Fld Z h sb "java/lang/AbstractStringBuilder" "count" "I" (.int (c2 + n)) ∧ Arv Z h t2 k2 .byte (16 : Int32) (xs ++ fs) (.int 0)) := by
  refine own_body (plainFor_of_name pn_java_lang_AbstractStringBuilder) ?_
  intro p e s m below meth c s₁ hx hby hml hZ hown hnm hlk hret X0 e0
  have N0 := Fr.nil n0
  have K0 : Keep h0 h0 [sb, t2] := Keep.refl _ _
  refine Go.st (T' := s₁) (f' := (mkF m 0 #[rv sb, rv s1, .unset] [])) (fun _ k => castTop (by first | (simp [entryFrame, mkF, argsToLocals, Value.category]; done) | rfl) k) ?_
  have ⟨S_i_COMPACT_STRINGS, nz_i_COMPACT_STRINGS, S_v_SIOOBE_FORMATTER, r_v_SIOOBE_FORMATTER, S_w_ERROR, E_w_ERROR, S_w_WARNING, E_w_WARNING⟩ := WW
  have lt_w_ERROR := E_w_ERROR.lt
  have lt_w_WARNING := E_w_WARNING.lt
  have lt_sb := E_sb.lt
  have ne_w_ERROR_sb : w_ERROR ≠ sb := O0.ne lt_w_ERROR g_sb
  have ne_w_WARNING_sb : w_WARNING ≠ sb := O0.ne lt_w_WARNING g_sb
  have lt_s1 := E_s1.lt
  have lt_t1 := V_t1.lt
  have lt_t2 := V_t2.lt
  have ne_w_ERROR_t2 : w_ERROR ≠ t2 := O0.ne lt_w_ERROR g_t2
  have ne_w_WARNING_t2 : w_WARNING ≠ t2 := O0.ne lt_w_WARNING g_t2
  have nt_sb_t2 : sb ≠ t2 := Exa.neArv E_sb V_t2 (ww hw 60 rfl)
  have nt_s1_t2 : s1 ≠ t2 := Exa.neArv E_s1 V_t2 (ww hw 8 rfl)
  refine Go.st (f' := (mkF m 1 #[rv sb, rv s1, .unset] [(.ref s1)])) (fun _ k => XS.aloadN X0.here hx rfl (hb hby d12_0) rfl rfl k) ?_
  refine Go.st (f' := (mkF m 9 #[rv sb, rv s1, .unset] [])) (fun _ k => XS.ifnonnullYes X0.here hx rfl (pc0 := 1) (pc' := 9) rfl (hb hby d12_1) rfl (by decide) (by decide) k) ?_
  refine Go.st (f' := (mkF m 10 #[rv sb, rv s1, .unset] [(.ref s1)])) (fun _ k => XS.aloadN X0.here hx rfl (hb hby d12_9) rfl rfl k) ?_
  obtain ⟨cq1, kq1, q1a, q1b, q1c⟩ := isOf hZ e0 E_s1
  obtain ⟨_, _, ⟨T1, L1, kk1, nn1⟩, -, X1, ⟨Lc1, hQ1, lq1, yq1, zz1⟩, st1⟩ := X0.virtualBack hx (y := (⟨"java/lang/String", "length", "()I"⟩ : MethodName)) (z := (⟨"java/lang/String", "length", "()I"⟩ : MethodName)) hown (mvT hZ (ww hw 87 rfl)) (mvT hZ (ww hw 88 rfl)) (notFace_of_selects (args := #[]) (mvT hZ (ww hw 90 rfl))) (mvT hZ (ww hw 90 rfl)) (mvT hZ (ww hw 89 rfl)) (by decide) (own_back (W := 0) (slen l Z a0 hw [] s1 t1 k1 n fs w_ERROR w_WARNING i_COMPACT_STRINGS v_SIOOBE_FORMATTER h0 n0 O0 E_s1 F_s1_coder F_s1_value V_t1 WW) hZ (ww hw 91 rfl) (ww hw 9 rfl) (by decide) (by decide)) q1a q1c (g := (mkF m 10 #[rv sb, rv s1, .unset] [(.ref s1)])) rfl (by rw [hml]; rfl) (Steps.refl _) (argsL := []) (rest := []) (lenOf pd___I rfl) rfl (by show 2 * 0 + _ ≤ _; exact Nat.le_of_eq rfl) (hb hby d12_10) (fun _ _ => ⟨rfl, e0, (by decide : 0 + 0 ≤ _), (by decide : 0 + 0 ≤ _)⟩)
  dsimp only [Pt.U, Pt.locs, Pt.cells, Pt.slots] at X1 lq1 yq1 zz1 st1 hQ1
  subst lq1 yq1 zz1
  obtain ⟨rfl, Nq1, kq1⟩ := hQ1
  have N1 := Fr.app N0 Nq1
  refine Go.tr (f' := (mkF m 13 #[rv sb, rv s1, .unset] [(.int n)])) st1 ?_
  refine Go.st (f' := (mkF m 14 #[rv sb, rv s1, iv n] [])) (fun _ k => XS.istoreN X1.here hx rfl (hb hby d12_13) rfl (l' := #[rv sb, rv s1, iv n]) rfl k) ?_
  refine Go.st (f' := (mkF m 15 #[rv sb, rv s1, iv n] [(.ref sb)])) (fun _ k => XS.aloadN X1.here hx rfl (hb hby d12_14) rfl rfl k) ?_
  refine Go.st (f' := (mkF m 16 #[rv sb, rv s1, iv n] [(.ref sb), (.ref sb)])) (fun _ k => XS.aloadN X1.here hx rfl (hb hby d12_15) rfl rfl k) ?_
  obtain ⟨T2, X2, e2, st2⟩ := getF X1 hx hZ hown (host := "") (Or.inl (ww hw 98 rfl)) Via.refl kq1 F_sb_count (g := (mkF m 16 #[rv sb, rv s1, iv n] [(.ref sb), (.ref sb)])) rfl rfl (hb hby d12_16)
  refine Go.st (f' := (mkF m 19 #[rv sb, rv s1, iv n] [(.int c2), (.ref sb)])) (fun _ k => st2 _ k) ?_
  refine Go.st (f' := (mkF m 20 #[rv sb, rv s1, iv n] [(.int n), (.int c2), (.ref sb)])) (fun _ k => XS.iloadN X2.here hx rfl (hb hby d12_19) rfl k) ?_
  refine Go.st (f' := (mkF m 21 #[rv sb, rv s1, iv n] [(.int (c2 + n)), (.ref sb)])) (fun _ k => XS.iadd X2.here hx rfl (hb hby d12_20) rfl k) ?_
  obtain ⟨cq3, q3, q3'⟩ := E_sb.cell
  obtain ⟨_, _, ⟨T3, L3, kk3, nn3⟩, -, X3, ⟨Lc3, hQ3, lq3, yq3, zz3⟩, st3⟩ := X2.privateBack hx (y := (⟨"java/lang/AbstractStringBuilder", "ensureCapacityInternal", "(I)V"⟩ : MethodName)) hown (mvT hZ (ww hw 100 rfl)) (mvT hZ (ww hw 101 rfl)) (own_selp (mvT hZ (ww hw 103 rfl)) (Cond.privateMethod_at (mvP hZ (ww hw 102 rfl) (args := #[]))) (mvT hZ (ww hw 101 rfl)) (by decide)) (Cond.privateMethod_at (mvP hZ (ww hw 102 rfl) (args := #[]))) (mvT hZ (ww hw 104 rfl)) (by decide) (own_back (W := 0) (sbe l Z a0 hw [] sb (c2 + n) t2 k2 xs w_ERROR w_WARNING i_COMPACT_STRINGS v_SIOOBE_FORMATTER h0 n0 O0 (own_cap lc ln cap) E_sb F_sb_coder F_sb_value V_t2 WW) hZ (ww hw 104 rfl) (ww hw 69 rfl) (by decide) (by decide)) (g := (mkF m 21 #[rv sb, rv s1, iv n] [(.int (c2 + n)), (.ref sb)])) rfl (by rw [hml]; rfl) (Steps.refl _) (a := sb) (by rw [e2]; exact q3) q3' (argsL := [(.int (c2 + n))]) (rest := []) (lenOf pd__I_V rfl) rfl (by show 2 * 0 + _ ≤ _; exact Nat.le_of_eq rfl) (hb hby d12_21) (fun _ _ => ⟨rfl, e2, (by decide : 0 + 0 ≤ _), (by decide : 0 + 0 ≤ _)⟩)
  dsimp only [Pt.U, Pt.locs, Pt.cells, Pt.slots] at X3 lq3 yq3 zz3 st3 hQ3
  subst lq3 yq3 zz3
  obtain ⟨rfl, Nq3, kq3⟩ := hQ3
  have N3 := Fr.app N1 Nq3
  refine Go.tr (f' := (mkF m 24 #[rv sb, rv s1, iv n] [])) st3 ?_
  refine Go.st (f' := (mkF m 25 #[rv sb, rv s1, iv n] [(.ref sb)])) (fun _ k => XS.aloadN X3.here hx rfl (hb hby d12_24) rfl rfl k) ?_
  refine Go.st (f' := (mkF m 26 #[rv sb, rv s1, iv n] [(.ref sb), (.ref sb)])) (fun _ k => XS.aloadN X3.here hx rfl (hb hby d12_25) rfl rfl k) ?_
  obtain ⟨T4, X4, e4, st4⟩ := getF X3 hx hZ hown (host := "") (Or.inl (ww hw 98 rfl)) Via.refl kq3 F_sb_count (g := (mkF m 26 #[rv sb, rv s1, iv n] [(.ref sb), (.ref sb)])) rfl rfl (hb hby d12_26)
  refine Go.st (f' := (mkF m 29 #[rv sb, rv s1, iv n] [(.int c2), (.ref sb)])) (fun _ k => st4 _ k) ?_
  refine Go.st (f' := (mkF m 30 #[rv sb, rv s1, iv n] [(.ref s1), (.int c2), (.ref sb)])) (fun _ k => XS.aloadN X4.here hx rfl (hb hby d12_29) rfl rfl k) ?_
  obtain ⟨cq5, q5, q5'⟩ := E_sb.cell
  obtain ⟨_, _, ⟨T5, L5, kk5, nn5⟩, -, X5, ⟨Lc5, hQ5, lq5, yq5, zz5⟩, st5⟩ := X4.privateBack hx (y := (⟨"java/lang/AbstractStringBuilder", "putStringAt", "(ILjava/lang/String;)V"⟩ : MethodName)) hown (mvT hZ (ww hw 105 rfl)) (mvT hZ (ww hw 106 rfl)) (own_selp (mvT hZ (ww hw 108 rfl)) (Cond.privateMethod_at (mvP hZ (ww hw 107 rfl) (args := #[]))) (mvT hZ (ww hw 106 rfl)) (by decide)) (Cond.privateMethod_at (mvP hZ (ww hw 107 rfl) (args := #[]))) (mvT hZ (ww hw 109 rfl)) (by decide) (own_back (W := 0) (sbp l Z a0 hw [] sb s1 t1 k1 n fs t2 k2 c2 xs w_ERROR w_WARNING i_COMPACT_STRINGS v_SIOOBE_FORMATTER h0 n0 O0 lc ln cap g_t2 E_sb F_sb_coder F_sb_value E_s1 F_s1_coder F_s1_value V_t1 V_t2 WW) hZ (ww hw 109 rfl) (ww hw 69 rfl) (by decide) (by decide)) (g := (mkF m 30 #[rv sb, rv s1, iv n] [(.ref s1), (.int c2), (.ref sb)])) rfl (by rw [hml]; rfl) (Steps.refl _) (a := sb) (by rw [e4]; exact q5) q5' (argsL := [(.int c2), (.ref s1)]) (rest := []) (lenOf pd__ILjava_lang_String__V rfl) rfl (by show 2 * 0 + _ ≤ _; exact Nat.le_of_eq rfl) (hb hby d12_30) (fun _ _ => ⟨rfl, e4, (by decide : 0 + 0 ≤ _), (by decide : 0 + 0 ≤ _)⟩)
  dsimp only [Pt.U, Pt.locs, Pt.cells, Pt.slots] at X5 lq5 yq5 zz5 st5 hQ5
  subst lq5 yq5 zz5
  obtain ⟨rfl, Nq5, kq5, vq5⟩ := hQ5
  have N5 := Fr.app N3 Nq5
  have O5 : Old Z n0 T5.heap := O0.keep kq5 (allS g_t2 all0)
  have K5 : Keep h0 T5.heap [sb, t2] := K0.trans kq5 (allS (Or.inl (List.mem_of_getElem? (i := 1) rfl)) all0)
  refine Go.tr (f' := (mkF m 33 #[rv sb, rv s1, iv n] [])) st5 ?_
  refine Go.st (f' := (mkF m 34 #[rv sb, rv s1, iv n] [(.ref sb)])) (fun _ k => XS.aloadN X5.here hx rfl (hb hby d12_33) rfl rfl k) ?_
  refine Go.st (f' := (mkF m 35 #[rv sb, rv s1, iv n] [(.ref sb), (.ref sb)])) (fun _ k => XS.dup X5.here hx rfl (hb hby d12_34) rfl rfl k) ?_
  have ft6 := (F_sb_count.keep kq5 (ninS nt_sb_t2 nin0))
  obtain ⟨T7, X7, e7, st7⟩ := getF X5 hx hZ hown (host := "") (Or.inl (ww hw 98 rfl)) Via.refl rfl ft6 (g := (mkF m 35 #[rv sb, rv s1, iv n] [(.ref sb), (.ref sb)])) rfl rfl (hb hby d12_35)
  refine Go.st (f' := (mkF m 38 #[rv sb, rv s1, iv n] [(.int c2), (.ref sb)])) (fun _ k => st7 _ k) ?_
  refine Go.st (f' := (mkF m 39 #[rv sb, rv s1, iv n] [(.int n), (.int c2), (.ref sb)])) (fun _ k => XS.iloadN X7.here hx rfl (hb hby d12_38) rfl k) ?_
  refine Go.st (f' := (mkF m 40 #[rv sb, rv s1, iv n] [(.int (c2 + n)), (.ref sb)])) (fun _ k => XS.iadd X7.here hx rfl (hb hby d12_39) rfl k) ?_
  have ft8 := (E_sb.keep kq5)
  obtain ⟨T9, h9, X9, e9, W9, st9⟩ := putF X7 hx hZ hown (host := "") (Or.inl (ww hw 98 rfl)) Via.refl e7 ft6 ft8 (Or.inl (ww hw 99 rfl)) (ww hw 60 rfl) (ty := .int) (by decide) rfl rfl (g := (mkF m 40 #[rv sb, rv s1, iv n] [(.int (c2 + n)), (.ref sb)])) rfl rfl (hb hby d12_40)
  have N9 := Fr.snoc X9 N5 g_sb
  have O9 : Old Z n0 h9 := O5.wr W9 g_sb
  have K9 : Keep h0 h9 [sb, t2] := K5.wr W9 (Or.inl (List.mem_of_getElem? (i := 0) rfl))
  have Fw9 := ft6.same W9
  refine Go.st (f' := (mkF m 43 #[rv sb, rv s1, iv n] [])) (fun _ k => st9 _ k) ?_
  refine Go.st (f' := (mkF m 44 #[rv sb, rv s1, iv n] [(.ref sb)])) (fun _ k => XS.aloadN X9.here hx rfl (hb hby d12_43) rfl rfl k) ?_
  refine Go.retV X9 hlk hx (t := (.object "java/lang/AbstractStringBuilder")) hret rfl (Or.inr (Or.inr (Or.inr (Or.inr ⟨rfl, rfl, rfl⟩)))) (hb hby d12_44) e9 ?_ (by decide) (by decide)
  have ft10 := (ft8.wr W9)
  have ft11 := ((F_sb_coder.keep kq5 (ninS nt_sb_t2 nin0)).other W9 (Or.inr (slot_ne (Or.inl (ww hw 76 rfl)) (Or.inl (ww hw 99 rfl)) (by decide) (t := .byte) (t' := .int) (by decide) (by decide))))
  have ft12 := ((F_sb_value.keep kq5 (ninS nt_sb_t2 nin0)).other W9 (Or.inr (slot_ne (Or.inl (ww hw 74 rfl)) (Or.inl (ww hw 99 rfl)) (by decide) (t := (.array .byte)) (t' := .int) (by decide) (by decide))))
  have ft13 := (vq5.other W9 (Ne.symm nt_sb_t2))
  exact ⟨rfl, N9, K9, ft10, ft11, ft12, Fw9, ft13⟩
theorem pn_java_lang_StringBuilder : plainName "java/lang/StringBuilder" = true := by first | (simp [plainName, overriddenIn]; done) | decide +kernel
theorem d11_0 : decode jdk_67_method_7_code 0 = .ok (.aload_n 0, 1) := by decide +kernel
theorem d11_1 : decode jdk_67_method_7_code 1 = .ok (.aload_n 1, 1) := by decide +kernel
theorem d11_2 : decode jdk_67_method_7_code 2 = .ok (.invokespecial 29, 3) := by decide +kernel
theorem pd__Ljava_lang_String__Ljava_lang_AbstractStringBuilder_ : parseMethodDescriptor "(Ljava/lang/String;)Ljava/lang/AbstractStringBuilder;" = some ⟨[(.object "java/lang/String")], some (.object "java/lang/AbstractStringBuilder")⟩ := by decide +kernel
theorem d11_5 : decode jdk_67_method_7_code 5 = .ok (.pop, 1) := by decide +kernel
theorem d11_6 : decode jdk_67_method_7_code 6 = .ok (.aload_n 0, 1) := by decide +kernel
theorem d11_7 : decode jdk_67_method_7_code 7 = .ok (.areturn, 1) := by decide +kernel
set_option maxRecDepth 65536 in
set_option maxHeartbeats 40000000 in
theorem sbb (l : Launch) (Z : State) (a0 : Array Value) (hw : ∀ d ∈ tables_1, d.before a0 Z = true) (ws : List Jvm.Cond) (sb : Addr) (s1 : Addr) (t1 : Addr) (k1 : ClassId) (n : Int32) (fs : List Value) (t2 : Addr) (k2 : ClassId) (c2 : Int32) (xs : List Value) (w_ERROR : Addr) (w_WARNING : Addr) (i_COMPACT_STRINGS : Int32) (v_SIOOBE_FORMATTER : Value) (h0 : Heap) (n0 : Nat) (O0 : Old Z n0 h0) (lc : Ln c2 xs) (ln : Ln n fs) (cap : xs.length + fs.length ≤ 16) (g_sb : n0 ≤ sb) (g_t2 : n0 ≤ t2) (E_sb : Exa Z h0 sb "java/lang/StringBuilder") (F_sb_coder : Fld Z h0 sb "java/lang/AbstractStringBuilder" "coder" "B" (.int 0)) (F_sb_value : Fld Z h0 sb "java/lang/AbstractStringBuilder" "value" "[B" (.ref t2)) (F_sb_count : Fld Z h0 sb "java/lang/AbstractStringBuilder" "count" "I" (.int c2)) (E_s1 : Exa Z h0 s1 "java/lang/String") (F_s1_coder : Fld Z h0 s1 "java/lang/String" "coder" "B" (.int 0)) (F_s1_value : Fld Z h0 s1 "java/lang/String" "value" "[B" (.ref t1)) (V_t1 : Arv Z h0 t1 k1 .byte n fs (.int 0)) (V_t2 : Arv Z h0 t2 k2 .byte (16 : Int32) xs (.int 0)) (WW : World1 Z w_ERROR w_WARNING i_COMPACT_STRINGS v_SIOOBE_FORMATTER) :
    Con l Z (⟨"java/lang/StringBuilder", "append", "(Ljava/lang/String;)Ljava/lang/StringBuilder;"⟩ : MethodName) jdk_67_method_7_code 2 (some (.object "java/lang/StringBuilder")) ws ({ frames := 4, cells := 0, slots := 0, locals := 63 } : Room) #[(.ref sb), (.ref s1)] h0 (fun v h L => v = some (.ref sb) ∧ Fr n0 L ∧ Keep h0 h [sb, t2] ∧ Exa Z h sb "java/lang/StringBuilder" ∧ Fld Z h sb "java/lang/AbstractStringBuilder" "coder" "B" (.int 0) ∧ Fld Z h sb "java/lang/AbstractStringBuilder" "value" "[B" (.ref t2) ∧ Fld Z h sb "java/lang/AbstractStringBuilder" "count" "I" (.int (c2 + n)) ∧ Arv Z h t2 k2 .byte (16 : Int32) (xs ++ fs) (.int 0)) := by
  refine own_body (plainFor_of_name pn_java_lang_StringBuilder) ?_
  intro p e s m below meth c s₁ hx hby hml hZ hown hnm hlk hret X0 e0
  have N0 := Fr.nil n0
  have K0 : Keep h0 h0 [sb, t2] := Keep.refl _ _
  refine Go.st (T' := s₁) (f' := (mkF m 0 #[rv sb, rv s1] [])) (fun _ k => castTop (by first | (simp [entryFrame, mkF, argsToLocals, Value.category]; done) | rfl) k) ?_
  have ⟨S_i_COMPACT_STRINGS, nz_i_COMPACT_STRINGS, S_v_SIOOBE_FORMATTER, r_v_SIOOBE_FORMATTER, S_w_ERROR, E_w_ERROR, S_w_WARNING, E_w_WARNING⟩ := WW
  have lt_w_ERROR := E_w_ERROR.lt
  have lt_w_WARNING := E_w_WARNING.lt
  have lt_sb := E_sb.lt
  have ne_w_ERROR_sb : w_ERROR ≠ sb := O0.ne lt_w_ERROR g_sb
  have ne_w_WARNING_sb : w_WARNING ≠ sb := O0.ne lt_w_WARNING g_sb
  have lt_s1 := E_s1.lt
  have lt_t1 := V_t1.lt
  have lt_t2 := V_t2.lt
  have ne_w_ERROR_t2 : w_ERROR ≠ t2 := O0.ne lt_w_ERROR g_t2
  have ne_w_WARNING_t2 : w_WARNING ≠ t2 := O0.ne lt_w_WARNING g_t2
  have nt_sb_t2 : sb ≠ t2 := Exa.neArv E_sb V_t2 (ww hw 60 rfl)
  have nt_s1_t2 : s1 ≠ t2 := Exa.neArv E_s1 V_t2 (ww hw 8 rfl)
  refine Go.st (f' := (mkF m 1 #[rv sb, rv s1] [(.ref sb)])) (fun _ k => XS.aloadN X0.here hx rfl (hb hby d11_0) rfl rfl k) ?_
  refine Go.st (f' := (mkF m 2 #[rv sb, rv s1] [(.ref s1), (.ref sb)])) (fun _ k => XS.aloadN X0.here hx rfl (hb hby d11_1) rfl rfl k) ?_
  obtain ⟨_, _, ⟨T1, L1, kk1, nn1⟩, -, X1, ⟨Lc1, hQ1, lq1, yq1, zz1⟩, st1⟩ := superBack X0 hx hZ (y := (⟨"java/lang/AbstractStringBuilder", "append", "(Ljava/lang/String;)Ljava/lang/AbstractStringBuilder;"⟩ : MethodName)) hown (ww hw 82 rfl) (own_same (ww hw 103 rfl) (ww hw 83 rfl) rfl (by decide)) (ww hw 83 rfl) (ww hw 84 rfl) (by decide) (own_back (W := 0) (sba l Z a0 hw [] sb s1 t1 k1 n fs t2 k2 c2 xs w_ERROR w_WARNING i_COMPACT_STRINGS v_SIOOBE_FORMATTER h0 n0 O0 lc ln cap g_sb g_t2 E_sb F_sb_coder F_sb_value F_sb_count E_s1 F_s1_coder F_s1_value V_t1 V_t2 WW) hZ (ww hw 86 rfl) (ww hw 69 rfl) (by decide) (by decide)) e0 (Ins.self E_sb) (g := (mkF m 2 #[rv sb, rv s1] [(.ref s1), (.ref sb)])) rfl (by rw [hml]; rfl) (ww hw 86 rfl) (argsL := [(.ref s1)]) (rest := []) (lenOf pd__Ljava_lang_String__Ljava_lang_AbstractStringBuilder_ rfl) rfl (by show 2 * 0 + _ ≤ _; exact Nat.le_of_eq rfl) (hb hby d11_2) (fun _ _ => ⟨rfl, e0, (by decide : 0 + 0 ≤ _), (by decide : 0 + 0 ≤ _)⟩)
  dsimp only [Pt.U, Pt.locs, Pt.cells, Pt.slots] at X1 lq1 yq1 zz1 st1 hQ1
  subst lq1 yq1 zz1
  obtain ⟨rfl, Nq1, kq1, eq1, cq1, fq1, nq1, vq1⟩ := hQ1
  have N1 := Fr.app N0 Nq1
  have O1 : Old Z n0 T1.heap := O0.keep kq1 (allS g_sb (allS g_t2 all0))
  have K1 : Keep h0 T1.heap [sb, t2] := K0.trans kq1 (allS (Or.inl (List.mem_of_getElem? (i := 0) rfl)) (allS (Or.inl (List.mem_of_getElem? (i := 1) rfl)) all0))
  have ln1 := Ln.app lc ln (Nat.le_trans (show _ ≤ 16 from cap) (by decide))
  refine Go.tr (f' := (mkF m 5 #[rv sb, rv s1] [(.ref sb)])) st1 ?_
  refine Go.st (f' := (mkF m 6 #[rv sb, rv s1] [])) (fun _ k => XS.pop X1.here hx rfl (hb hby d11_5) rfl rfl k) ?_
  refine Go.st (f' := (mkF m 7 #[rv sb, rv s1] [(.ref sb)])) (fun _ k => XS.aloadN X1.here hx rfl (hb hby d11_6) rfl rfl k) ?_
  refine Go.retV X1 hlk hx (t := (.object "java/lang/StringBuilder")) hret rfl (Or.inr (Or.inr (Or.inr (Or.inr ⟨rfl, rfl, rfl⟩)))) (hb hby d11_7) rfl ?_ (by decide) (by decide)
  exact ⟨rfl, N1, K1, eq1, cq1, fq1, nq1, vq1⟩
theorem d10_0 : decode jdk_68_method_2_code 0 = .ok (.aload_n 0, 1) := by decide +kernel
theorem d10_1 : decode jdk_68_method_2_code 1 = .ok (.invokespecial 3, 3) := by decide +kernel
theorem d10_4 : decode jdk_68_method_2_code 4 = .ok (.getstatic 18, 3) := by decide +kernel
theorem d10_7 : decode jdk_68_method_2_code 7 = .ok (.ifCond .eq 18, 3) := by decide +kernel
theorem d10_10 : decode jdk_68_method_2_code 10 = .ok (.aload_n 0, 1) := by decide +kernel
theorem d10_11 : decode jdk_68_method_2_code 11 = .ok (.iload_n 1, 1) := by decide +kernel
theorem d10_12 : decode jdk_68_method_2_code 12 = .ok (.newarray .byte, 2) := by decide +kernel
theorem d10_14 : decode jdk_68_method_2_code 14 = .ok (.putfield 15, 3) := by decide +kernel
theorem d10_17 : decode jdk_68_method_2_code 17 = .ok (.aload_n 0, 1) := by decide +kernel
theorem d10_18 : decode jdk_68_method_2_code 18 = .ok (.iconst 0, 1) := by decide +kernel
theorem d10_19 : decode jdk_68_method_2_code 19 = .ok (.putfield 22, 3) := by decide +kernel
theorem d10_22 : decode jdk_68_method_2_code 22 = .ok (.goto 16, 3) := by decide +kernel
theorem d10_38 : decode jdk_68_method_2_code 38 = .ok (.return_, 1) := by decide +kernel
set_option maxRecDepth 65536 in
set_option maxHeartbeats 40000000 in
theorem sbc (l : Launch) (Z : State) (a0 : Array Value) (hw : ∀ d ∈ tables_1, d.before a0 Z = true) (ws : List Jvm.Cond) (sb : Addr) (w_ERROR : Addr) (w_WARNING : Addr) (i_COMPACT_STRINGS : Int32) (v_SIOOBE_FORMATTER : Value) (h0 : Heap) (n0 : Nat) (O0 : Old Z n0 h0) (g_sb : n0 ≤ sb) (E_sb : Exa Z h0 sb "java/lang/StringBuilder") (F_sb_coder : Fld Z h0 sb "java/lang/AbstractStringBuilder" "coder" "B" (.int 0)) (F_sb_value : Fld Z h0 sb "java/lang/AbstractStringBuilder" "value" "[B" .null) (F_sb_count : Fld Z h0 sb "java/lang/AbstractStringBuilder" "count" "I" (.int 0)) (WW : World1 Z w_ERROR w_WARNING i_COMPACT_STRINGS v_SIOOBE_FORMATTER) :
    Con l Z (⟨"java/lang/AbstractStringBuilder", "<init>", "(I)V"⟩ : MethodName) jdk_68_method_2_code 2 none ws ({ frames := 1, cells := 1, slots := 16, locals := 12 } : Room) #[(.ref sb), (.int 16)] h0 (fun v h L => v = none ∧ Fr n0 L ∧ Keep h0 h [sb] ∧ Exa Z h sb "java/lang/StringBuilder" ∧ Fld Z h sb "java/lang/AbstractStringBuilder" "coder" "B" (.int 0) ∧ Fld Z h sb "java/lang/AbstractStringBuilder" "count" "I" (.int 0) ∧ ∃ (t : Addr) (kt : ClassId), h0.size ≤ t ∧ Fld Z h sb "java/lang/AbstractStringBuilder" "value" "[B" (.ref t) ∧ Arv Z h t kt .byte (16 : Int32) [] (.int 0)) := by
  refine own_body (plainFor_of_name pn_java_lang_AbstractStringBuilder) ?_
  intro p e s m below meth c s₁ hx hby hml hZ hown hnm hlk hret X0 e0
  have N0 := Fr.nil n0
  have K0 : Keep h0 h0 [sb] := Keep.refl _ _
  refine Go.st (T' := s₁) (f' := (mkF m 0 #[rv sb, iv 16] [])) (fun _ k => castTop (by first | (simp [entryFrame, mkF, argsToLocals, Value.category]; done) | rfl) k) ?_
  have ⟨S_i_COMPACT_STRINGS, nz_i_COMPACT_STRINGS, S_v_SIOOBE_FORMATTER, r_v_SIOOBE_FORMATTER, S_w_ERROR, E_w_ERROR, S_w_WARNING, E_w_WARNING⟩ := WW
  have lt_w_ERROR := E_w_ERROR.lt
  have lt_w_WARNING := E_w_WARNING.lt
  have lt_sb := E_sb.lt
  have ne_w_ERROR_sb : w_ERROR ≠ sb := O0.ne lt_w_ERROR g_sb
  have ne_w_WARNING_sb : w_WARNING ≠ sb := O0.ne lt_w_WARNING g_sb
  refine Go.st (f' := (mkF m 1 #[rv sb, iv 16] [(.ref sb)])) (fun _ k => XS.aloadN X0.here hx rfl (hb hby d10_0) rfl rfl k) ?_
  obtain ⟨T1, X1, e1, st1⟩ := initO X0 hx hZ hown (ww hw 71 rfl) (ww hw 19 rfl) (ww hw 20 rfl) e0 (g := (mkF m 1 #[rv sb, iv 16] [(.ref sb)])) rfl (by rw [hml]; rfl) rfl (hb hby d10_1) (by decide) (W := 0) (by show 2 * 0 + _ ≤ _; exact Nat.le_of_eq rfl) (by decide)
  refine Go.st (f' := (mkF m 4 #[rv sb, iv 16] [])) (fun _ k => st1 _ k) ?_
  obtain ⟨T2, X2, e2, st2⟩ := getS2 X1 hx hZ hown (host := "") (Or.inl (ww hw 72 rfl)) Via.refl e1 (S_i_COMPACT_STRINGS.ext O0.2) (g := (mkF m 4 #[rv sb, iv 16] [])) rfl (hb hby d10_4)
  refine Go.st (f' := (mkF m 7 #[rv sb, iv 16] [(.int i_COMPACT_STRINGS)])) (fun _ k => st2 _ k) ?_
  refine Go.st (f' := (mkF m 10 #[rv sb, iv 16] [])) (fun _ k => XS.ifNo X2.here hx rfl (hb hby d10_7) rfl ((if0 _ _).trans (feq nz_i_COMPACT_STRINGS).1) k) ?_
  refine Go.st (f' := (mkF m 11 #[rv sb, iv 16] [(.ref sb)])) (fun _ k => XS.aloadN X2.here hx rfl (hb hby d10_10) rfl rfl k) ?_
  refine Go.st (f' := (mkF m 12 #[rv sb, iv 16] [(.int 16), (.ref sb)])) (fun _ k => XS.iloadN X2.here hx rfl (hb hby d10_11) rfl k) ?_
  obtain ⟨T3, h3, kc3, X3, e3, E3, A3, st3⟩ := newP X2 hx hZ (ww hw 22 rfl) e2 (g := (mkF m 12 #[rv sb, iv 16] [(.int 16), (.ref sb)])) rfl (hb hby d10_12) rfl (by decide) (cap := 16) (by decide) (by decide) (by decide) (by decide)
  obtain ⟨b3, g3⟩ : ∃ z, z = h0.size := ⟨_, rfl⟩
  rw [← g3] at A3 st3
  have ne_sb_b3 : sb ≠ b3 := Nat.ne_of_lt (Nat.lt_of_lt_of_eq lt_sb g3.symm)
  have ne_w_ERROR_b3 : w_ERROR ≠ b3 := Nat.ne_of_lt (Nat.lt_of_lt_of_le lt_w_ERROR (Nat.le_trans O0.2.1 (Nat.le_of_eq g3.symm)))
  have ne_w_WARNING_b3 : w_WARNING ≠ b3 := Nat.ne_of_lt (Nat.lt_of_lt_of_le lt_w_WARNING (Nat.le_trans O0.2.1 (Nat.le_of_eq g3.symm)))
  have g_b3 : n0 ≤ b3 := Nat.le_trans (O0.1 ▸ O0.2.1) (Nat.le_of_eq g3.symm)
  have O3 : Old Z n0 h3 := O0.ext E3
  have sz_b3 : h0.size ≤ b3 := Nat.le_trans K0.1 (Nat.le_of_eq g3.symm)
  have K3 : Keep h0 h3 [sb] := K0.ext E3
  have V_b3 : Arv Z h3 b3 kc3 .byte (16 : Int32) [] (.int (0 : Int32)) := Arv.new A3 (by decide)
  have lt_b3 := V_b3.lt
  refine Go.st (f' := (mkF m 14 #[rv sb, iv 16] [(.ref b3), (.ref sb)])) (fun _ k => st3 _ k) ?_
  have ft4 := (E_sb.ext E3)
  have ft5 := (F_sb_value.ext E3)
  obtain ⟨T6, h6, X6, e6, W6, st6⟩ := putF X3 hx hZ hown (host := "") (Or.inl (ww hw 73 rfl)) Via.refl e3 ft5 ft4 (Or.inl (ww hw 74 rfl)) (ww hw 60 rfl) (ty := (.array .byte)) (by decide) rfl rfl (g := (mkF m 14 #[rv sb, iv 16] [(.ref b3), (.ref sb)])) rfl rfl (hb hby d10_14)
  have N6 := Fr.snoc X6 N0 g_sb
  have O6 : Old Z n0 h6 := O3.wr W6 g_sb
  have K6 : Keep h0 h6 [sb] := K3.wr W6 (Or.inl (List.mem_of_getElem? (i := 0) rfl))
  have Fw6 := ft5.same W6
  refine Go.st (f' := (mkF m 17 #[rv sb, iv 16] [])) (fun _ k => st6 _ k) ?_
  refine Go.st (f' := (mkF m 18 #[rv sb, iv 16] [(.ref sb)])) (fun _ k => XS.aloadN X6.here hx rfl (hb hby d10_17) rfl rfl k) ?_
  refine Go.st (f' := (mkF m 19 #[rv sb, iv 16] [(.int 0), (.ref sb)])) (fun _ k => XS.iconst X6.here hx rfl (hb hby d10_18) k) ?_
  have ft7 := (ft4.wr W6)
  have ft8 := ((F_sb_coder.ext E3).other W6 (Or.inr (slot_ne (Or.inl (ww hw 76 rfl)) (Or.inl (ww hw 74 rfl)) (by decide) (t := .byte) (t' := (.array .byte)) (by decide) (by decide))))
  obtain ⟨T9, h9, X9, e9, W9, st9⟩ := putFN X6 hx hZ hown (ww hw 75 rfl) Via.refl e6 ft8 ft7 (Or.inl (ww hw 76 rfl)) (ww hw 60 rfl) (ty := .byte) (v' := (.int (0 : Int32))) (by decide) rfl (by decide) (g := (mkF m 19 #[rv sb, iv 16] [(.int 0), (.ref sb)])) rfl rfl (hb hby d10_19)
  have N9 := Fr.snoc X9 N6 g_sb
  have O9 : Old Z n0 h9 := O6.wr W9 g_sb
  have K9 : Keep h0 h9 [sb] := K6.wr W9 (Or.inl (List.mem_of_getElem? (i := 0) rfl))
  have Fw9 := ft8.same W9
  refine Go.st (f' := (mkF m 22 #[rv sb, iv 16] [])) (fun _ k => st9 _ k) ?_
  refine Go.st (f' := (mkF m 38 #[rv sb, iv 16] [])) (fun _ k => XS.goto X9.here hx rfl (pc0 := 22) (pc' := 38) rfl (hb hby d10_22) (by decide) (by decide) k) ?_
  refine Go.ret0 X9 hlk hx hret (hb hby d10_38) e9 ?_ (by decide) (by decide)
  have ft10 := (ft7.wr W9)
  have ft11 := (((F_sb_count.ext E3).other W6 (Or.inr (slot_ne (Or.inl (ww hw 99 rfl)) (Or.inl (ww hw 74 rfl)) (by decide) (t := .int) (t' := (.array .byte)) (by decide) (by decide)))).other W9 (Or.inr (slot_ne (Or.inl (ww hw 99 rfl)) (Or.inl (ww hw 76 rfl)) (by decide) (t := .int) (t' := .byte) (by decide) (by decide))))
  have ft12 := (Fw6.other W9 (Or.inr (slot_ne (Or.inl (ww hw 74 rfl)) (Or.inl (ww hw 76 rfl)) (by decide) (t := (.array .byte)) (t' := .byte) (by decide) (by decide))))
  have ft13 := ((V_b3.other W6 (Ne.symm ne_sb_b3)).other W9 (Ne.symm ne_sb_b3))
  exact ⟨rfl, N9, K9, ft10, Fw9, ft11, b3, kc3, sz_b3, ft12, ft13⟩
theorem d9_0 : decode jdk_67_method_1_code 0 = .ok (.aload_n 0, 1) := by decide +kernel
theorem d9_1 : decode jdk_67_method_1_code 1 = .ok (.bipush 16, 2) := by decide +kernel
theorem d9_3 : decode jdk_67_method_1_code 3 = .ok (.invokespecial 1, 3) := by decide +kernel
theorem d9_6 : decode jdk_67_method_1_code 6 = .ok (.return_, 1) := by decide +kernel
set_option maxRecDepth 65536 in
set_option maxHeartbeats 40000000 in
theorem sbd (l : Launch) (Z : State) (a0 : Array Value) (hw : ∀ d ∈ tables_1, d.before a0 Z = true) (ws : List Jvm.Cond) (sb : Addr) (w_ERROR : Addr) (w_WARNING : Addr) (i_COMPACT_STRINGS : Int32) (v_SIOOBE_FORMATTER : Value) (h0 : Heap) (n0 : Nat) (O0 : Old Z n0 h0) (g_sb : n0 ≤ sb) (E_sb : Exa Z h0 sb "java/lang/StringBuilder") (F_sb_coder : Fld Z h0 sb "java/lang/AbstractStringBuilder" "coder" "B" (.int 0)) (F_sb_value : Fld Z h0 sb "java/lang/AbstractStringBuilder" "value" "[B" .null) (F_sb_count : Fld Z h0 sb "java/lang/AbstractStringBuilder" "count" "I" (.int 0)) (WW : World1 Z w_ERROR w_WARNING i_COMPACT_STRINGS v_SIOOBE_FORMATTER) :
    Con l Z (⟨"java/lang/StringBuilder", "<init>", "()V"⟩ : MethodName) jdk_67_method_1_code 1 none ws ({ frames := 2, cells := 1, slots := 16, locals := 25 } : Room) #[(.ref sb)] h0 (fun v h L => v = none ∧ Fr n0 L ∧ Keep h0 h [sb] ∧ Exa Z h sb "java/lang/StringBuilder" ∧ Fld Z h sb "java/lang/AbstractStringBuilder" "coder" "B" (.int 0) ∧ Fld Z h sb "java/lang/AbstractStringBuilder" "count" "I" (.int 0) ∧ ∃ (t : Addr) (kt : ClassId), h0.size ≤ t ∧ Fld Z h sb "java/lang/AbstractStringBuilder" "value" "[B" (.ref t) ∧ Arv Z h t kt .byte (16 : Int32) [] (.int 0)) := by
  refine own_body (plainFor_of_name pn_java_lang_StringBuilder) ?_
  intro p e s m below meth c s₁ hx hby hml hZ hown hnm hlk hret X0 e0
  have N0 := Fr.nil n0
  have K0 : Keep h0 h0 [sb] := Keep.refl _ _
  refine Go.st (T' := s₁) (f' := (mkF m 0 #[rv sb] [])) (fun _ k => castTop (by first | (simp [entryFrame, mkF, argsToLocals, Value.category]; done) | rfl) k) ?_
  have ⟨S_i_COMPACT_STRINGS, nz_i_COMPACT_STRINGS, S_v_SIOOBE_FORMATTER, r_v_SIOOBE_FORMATTER, S_w_ERROR, E_w_ERROR, S_w_WARNING, E_w_WARNING⟩ := WW
  have lt_w_ERROR := E_w_ERROR.lt
  have lt_w_WARNING := E_w_WARNING.lt
  have lt_sb := E_sb.lt
  have ne_w_ERROR_sb : w_ERROR ≠ sb := O0.ne lt_w_ERROR g_sb
  have ne_w_WARNING_sb : w_WARNING ≠ sb := O0.ne lt_w_WARNING g_sb
  refine Go.st (f' := (mkF m 1 #[rv sb] [(.ref sb)])) (fun _ k => XS.aloadN X0.here hx rfl (hb hby d9_0) rfl rfl k) ?_
  refine Go.st (f' := (mkF m 3 #[rv sb] [(.int 16), (.ref sb)])) (fun _ k => XS.bipush X0.here hx rfl (hb hby d9_1) k) ?_
  obtain ⟨_, _, ⟨T1, L1, kk1, nn1⟩, -, X1, ⟨Lc1, hQ1, lq1, yq1, zz1⟩, st1⟩ := X0.specialBack hx (y := (⟨"java/lang/AbstractStringBuilder", "<init>", "(I)V"⟩ : MethodName)) rfl hown (mvT hZ (ww hw 65 rfl)) (mvT hZ (ww hw 66 rfl)) (mvT hZ (ww hw 70 rfl)) (by decide) (own_back (W := 0) (sbc l Z a0 hw [] sb w_ERROR w_WARNING i_COMPACT_STRINGS v_SIOOBE_FORMATTER h0 n0 O0 g_sb E_sb F_sb_coder F_sb_value F_sb_count WW) hZ (ww hw 70 rfl) (ww hw 69 rfl) (by decide) (by decide)) (g := (mkF m 3 #[rv sb] [(.int 16), (.ref sb)])) rfl (by rw [hml]; rfl) (Steps.refl _) (a := sb) (argsL := [(.int (16 : Int32))]) (rest := []) (lenOf pd__I_V rfl) rfl (by show 2 * 0 + _ ≤ _; exact Nat.le_of_eq rfl) (hb hby d9_3) (fun _ _ => ⟨rfl, e0, (by decide : 0 + 1 ≤ _), (by decide : 0 + 16 ≤ _)⟩)
  dsimp only [Pt.U, Pt.locs, Pt.cells, Pt.slots] at X1 lq1 yq1 zz1 st1 hQ1
  subst lq1 yq1 zz1
  obtain ⟨rfl, Nq1, kq1, eq1, cq1, nq1, tt1, kt1, zq1, fq1, vq1⟩ := hQ1
  have N1 := Fr.app N0 Nq1
  have ne_sb_tt1 : sb ≠ tt1 := Nat.ne_of_lt (Nat.lt_of_lt_of_le lt_sb zq1)
  have ne_w_ERROR_tt1 : w_ERROR ≠ tt1 := Nat.ne_of_lt (Nat.lt_of_lt_of_le lt_w_ERROR (Nat.le_trans O0.2.1 zq1))
  have ne_w_WARNING_tt1 : w_WARNING ≠ tt1 := Nat.ne_of_lt (Nat.lt_of_lt_of_le lt_w_WARNING (Nat.le_trans O0.2.1 zq1))
  have g_tt1 : n0 ≤ tt1 := Nat.le_trans (O0.1 ▸ O0.2.1) zq1
  have sz_tt1 : h0.size ≤ tt1 := Nat.le_trans K0.1 zq1
  have O1 : Old Z n0 T1.heap := O0.keep kq1 (allS g_sb all0)
  have K1 : Keep h0 T1.heap [sb] := K0.trans kq1 (allS (Or.inl (List.mem_of_getElem? (i := 0) rfl)) all0)
  have lt_tt1 := vq1.lt
  have ln1 : Ln (0 : Int32) [] := ⟨by decide, by decide⟩
  refine Go.tr (f' := (mkF m 6 #[rv sb] [])) st1 ?_
  refine Go.ret0 X1 hlk hx hret (hb hby d9_6) rfl ?_ (by decide) (by decide)
  exact ⟨rfl, N1, K1, eq1, cq1, nq1, tt1, kt1, sz_tt1, fq1, vq1⟩
theorem d22_0 : decode jdk_68_method_64_code 0 = .ok (.aload_n 0, 1) := by decide +kernel
theorem d22_1 : decode jdk_68_method_64_code 1 = .ok (.getfield 15, 3) := by decide +kernel
theorem d22_4 : decode jdk_68_method_64_code 4 = .ok (.areturn, 1) := by decide +kernel
set_option maxRecDepth 65536 in
set_option maxHeartbeats 40000000 in
theorem sbv (l : Launch) (Z : State) (a0 : Array Value) (hw : ∀ d ∈ tables_1, d.before a0 Z = true) (ws : List Jvm.Cond) (sb : Addr) (t2 : Addr) (h0 : Heap) (n0 : Nat) (O0 : Old Z n0 h0) (E_sb : Exa Z h0 sb "java/lang/StringBuilder") (F_sb_value : Fld Z h0 sb "java/lang/AbstractStringBuilder" "value" "[B" (.ref t2)) :
    Con l Z (⟨"java/lang/AbstractStringBuilder", "getValue", "()[B"⟩ : MethodName) jdk_68_method_64_code 1 (some (.array .byte)) ws ({ frames := 0, cells := 0, slots := 0, locals := 0 } : Room) #[(.ref sb)] h0 (fun v h L => v = some (.ref t2) ∧ Fr n0 L ∧ h = h0) := by
  refine own_body (plainFor_of_name pn_java_lang_AbstractStringBuilder) ?_
  intro p e s m below meth c s₁ hx hby hml hZ hown hnm hlk hret X0 e0
  have N0 := Fr.nil n0
  refine Go.st (T' := s₁) (f' := (mkF m 0 #[rv sb] [])) (fun _ k => castTop (by first | (simp [entryFrame, mkF, argsToLocals, Value.category]; done) | rfl) k) ?_
  have lt_sb := E_sb.lt
  refine Go.st (f' := (mkF m 1 #[rv sb] [(.ref sb)])) (fun _ k => XS.aloadN X0.here hx rfl (hb hby d22_0) rfl rfl k) ?_
  obtain ⟨T1, X1, e1, st1⟩ := getF X0 hx hZ hown (host := "") (Or.inl (ww hw 73 rfl)) Via.refl e0 F_sb_value (g := (mkF m 1 #[rv sb] [(.ref sb)])) rfl rfl (hb hby d22_1)
  refine Go.st (f' := (mkF m 4 #[rv sb] [(.ref t2)])) (fun _ k => st1 _ k) ?_
  refine Go.retV X1 hlk hx (t := (.array .byte)) hret rfl (Or.inr (Or.inr (Or.inr (Or.inr ⟨rfl, rfl, rfl⟩)))) (hb hby d22_4) e1 ?_ (by decide) (by decide)
  exact ⟨rfl, N0, rfl⟩
theorem d24_0 : decode jdk_68_method_6_code 0 = .ok (.aload_n 0, 1) := by decide +kernel
theorem d24_1 : decode jdk_68_method_6_code 1 = .ok (.getfield 79, 3) := by decide +kernel
theorem d24_4 : decode jdk_68_method_6_code 4 = .ok (.ireturn, 1) := by decide +kernel
set_option maxRecDepth 65536 in
set_option maxHeartbeats 40000000 in
theorem sbl (l : Launch) (Z : State) (a0 : Array Value) (hw : ∀ d ∈ tables_1, d.before a0 Z = true) (ws : List Jvm.Cond) (sb : Addr) (c2 : Int32) (h0 : Heap) (n0 : Nat) (O0 : Old Z n0 h0) (E_sb : Exa Z h0 sb "java/lang/StringBuilder") (F_sb_count : Fld Z h0 sb "java/lang/AbstractStringBuilder" "count" "I" (.int c2)) :
    Con l Z (⟨"java/lang/AbstractStringBuilder", "length", "()I"⟩ : MethodName) jdk_68_method_6_code 1 (some .int) ws ({ frames := 0, cells := 0, slots := 0, locals := 0 } : Room) #[(.ref sb)] h0 (fun v h L => v = some (.int c2) ∧ Fr n0 L ∧ h = h0) := by
  refine own_body (plainFor_of_name pn_java_lang_AbstractStringBuilder) ?_
  intro p e s m below meth c s₁ hx hby hml hZ hown hnm hlk hret X0 e0
  have N0 := Fr.nil n0
  refine Go.st (T' := s₁) (f' := (mkF m 0 #[rv sb] [])) (fun _ k => castTop (by first | (simp [entryFrame, mkF, argsToLocals, Value.category]; done) | rfl) k) ?_
  have lt_sb := E_sb.lt
  refine Go.st (f' := (mkF m 1 #[rv sb] [(.ref sb)])) (fun _ k => XS.aloadN X0.here hx rfl (hb hby d24_0) rfl rfl k) ?_
  obtain ⟨T1, X1, e1, st1⟩ := getF X0 hx hZ hown (host := "") (Or.inl (ww hw 98 rfl)) Via.refl e0 F_sb_count (g := (mkF m 1 #[rv sb] [(.ref sb)])) rfl rfl (hb hby d24_1)
  refine Go.st (f' := (mkF m 4 #[rv sb] [(.int c2)])) (fun _ k => st1 _ k) ?_
  refine Go.retV X1 hlk hx (t := .int) hret rfl (Or.inl ⟨rfl, Or.inl rfl, _, rfl⟩) (hb hby d24_4) e1 ?_ (by decide) (by decide)
  exact ⟨rfl, N0, rfl⟩
theorem d23_0 : decode jdk_67_method_93_code 0 = .ok (.aload_n 0, 1) := by decide +kernel
theorem d23_1 : decode jdk_67_method_93_code 1 = .ok (.invokespecial 343, 3) := by decide +kernel
theorem d23_4 : decode jdk_67_method_93_code 4 = .ok (.ireturn, 1) := by decide +kernel
set_option maxRecDepth 65536 in
set_option maxHeartbeats 40000000 in
theorem sbm (l : Launch) (Z : State) (a0 : Array Value) (hw : ∀ d ∈ tables_1, d.before a0 Z = true) (ws : List Jvm.Cond) (sb : Addr) (c2 : Int32) (h0 : Heap) (n0 : Nat) (O0 : Old Z n0 h0) (E_sb : Exa Z h0 sb "java/lang/StringBuilder") (F_sb_count : Fld Z h0 sb "java/lang/AbstractStringBuilder" "count" "I" (.int c2)) :
    Con l Z (⟨"java/lang/StringBuilder", "length", "()I"⟩ : MethodName) jdk_67_method_93_code 1 (some .int) ws ({ frames := 1, cells := 0, slots := 0, locals := 12 } : Room) #[(.ref sb)] h0 (fun v h L => v = some (.int c2) ∧ Fr n0 L ∧ h = h0) := by
  refine own_body (plainFor_of_name pn_java_lang_StringBuilder) ?_
  intro p e s m below meth c s₁ hx hby hml hZ hown hnm hlk hret X0 e0
  have N0 := Fr.nil n0
  refine Go.st (T' := s₁) (f' := (mkF m 0 #[rv sb] [])) (fun _ k => castTop (by first | (simp [entryFrame, mkF, argsToLocals, Value.category]; done) | rfl) k) ?_
  have lt_sb := E_sb.lt
  refine Go.st (f' := (mkF m 1 #[rv sb] [(.ref sb)])) (fun _ k => XS.aloadN X0.here hx rfl (hb hby d23_0) rfl rfl k) ?_
  obtain ⟨_, _, ⟨T1, L1, kk1, nn1⟩, -, X1, ⟨Lc1, hQ1, lq1, yq1, zz1⟩, st1⟩ := superBack X0 hx hZ (y := (⟨"java/lang/AbstractStringBuilder", "length", "()I"⟩ : MethodName)) hown (ww hw 149 rfl) (own_same (ww hw 103 rfl) (ww hw 145 rfl) rfl (by decide)) (ww hw 145 rfl) (ww hw 84 rfl) (by decide) (own_back (W := 0) (sbl l Z a0 hw [] sb c2 h0 n0 O0 E_sb F_sb_count) hZ (ww hw 150 rfl) (ww hw 69 rfl) (by decide) (by decide)) e0 (Ins.self E_sb) (g := (mkF m 1 #[rv sb] [(.ref sb)])) rfl (by rw [hml]; rfl) (ww hw 150 rfl) (argsL := []) (rest := []) (lenOf pd___I rfl) rfl (by show 2 * 0 + _ ≤ _; exact Nat.le_of_eq rfl) (hb hby d23_1) (fun _ _ => ⟨rfl, e0, (by decide : 0 + 0 ≤ _), (by decide : 0 + 0 ≤ _)⟩)
  dsimp only [Pt.U, Pt.locs, Pt.cells, Pt.slots] at X1 lq1 yq1 zz1 st1 hQ1
  subst lq1 yq1 zz1
  obtain ⟨rfl, Nq1, kq1⟩ := hQ1
  have N1 := Fr.app N0 Nq1
  refine Go.tr (f' := (mkF m 4 #[rv sb] [(.int c2)])) st1 ?_
  refine Go.retV X1 hlk hx (t := .int) hret rfl (Or.inl ⟨rfl, Or.inl rfl, _, rfl⟩) (hb hby d23_4) kq1 ?_ (by decide) (by decide)
  exact ⟨rfl, N1, rfl⟩
theorem d25_0 : decode jdk_68_method_68_code 0 = .ok (.getstatic 18, 3) := by decide +kernel
theorem d25_3 : decode jdk_68_method_68_code 3 = .ok (.ifCond .eq 14, 3) := by decide +kernel
theorem d25_6 : decode jdk_68_method_68_code 6 = .ok (.aload_n 0, 1) := by decide +kernel
theorem d25_7 : decode jdk_68_method_68_code 7 = .ok (.getfield 22, 3) := by decide +kernel
theorem d25_10 : decode jdk_68_method_68_code 10 = .ok (.ifCond .ne 7, 3) := by decide +kernel
theorem d25_13 : decode jdk_68_method_68_code 13 = .ok (.iconst 1, 1) := by decide +kernel
theorem d25_14 : decode jdk_68_method_68_code 14 = .ok (.goto 4, 3) := by decide +kernel
theorem d25_18 : decode jdk_68_method_68_code 18 = .ok (.ireturn, 1) := by decide +kernel
set_option maxRecDepth 65536 in
set_option maxHeartbeats 40000000 in
theorem sbq (l : Launch) (Z : State) (a0 : Array Value) (hw : ∀ d ∈ tables_1, d.before a0 Z = true) (ws : List Jvm.Cond) (sb : Addr) (w_ERROR : Addr) (w_WARNING : Addr) (i_COMPACT_STRINGS : Int32) (v_SIOOBE_FORMATTER : Value) (h0 : Heap) (n0 : Nat) (O0 : Old Z n0 h0) (E_sb : Exa Z h0 sb "java/lang/StringBuilder") (F_sb_coder : Fld Z h0 sb "java/lang/AbstractStringBuilder" "coder" "B" (.int 0)) (WW : World1 Z w_ERROR w_WARNING i_COMPACT_STRINGS v_SIOOBE_FORMATTER) :
    Con l Z (⟨"java/lang/AbstractStringBuilder", "isLatin1", "()Z"⟩ : MethodName) jdk_68_method_68_code 1 (some .boolean) ws ({ frames := 0, cells := 0, slots := 0, locals := 0 } : Room) #[(.ref sb)] h0 (fun v h L => v = some (.int 1) ∧ Fr n0 L ∧ h = h0) := by
  refine own_body (plainFor_of_name pn_java_lang_AbstractStringBuilder) ?_
  intro p e s m below meth c s₁ hx hby hml hZ hown hnm hlk hret X0 e0
  have N0 := Fr.nil n0
  refine Go.st (T' := s₁) (f' := (mkF m 0 #[rv sb] [])) (fun _ k => castTop (by first | (simp [entryFrame, mkF, argsToLocals, Value.category]; done) | rfl) k) ?_
  have ⟨S_i_COMPACT_STRINGS, nz_i_COMPACT_STRINGS, S_v_SIOOBE_FORMATTER, r_v_SIOOBE_FORMATTER, S_w_ERROR, E_w_ERROR, S_w_WARNING, E_w_WARNING⟩ := WW
  have lt_w_ERROR := E_w_ERROR.lt
  have lt_w_WARNING := E_w_WARNING.lt
  have lt_sb := E_sb.lt
  obtain ⟨T1, X1, e1, st1⟩ := getS2 X0 hx hZ hown (host := "") (Or.inl (ww hw 72 rfl)) Via.refl e0 (S_i_COMPACT_STRINGS.ext O0.2) (g := (mkF m 0 #[rv sb] [])) rfl (hb hby d25_0)
  refine Go.st (f' := (mkF m 3 #[rv sb] [(.int i_COMPACT_STRINGS)])) (fun _ k => st1 _ k) ?_
  refine Go.st (f' := (mkF m 6 #[rv sb] [])) (fun _ k => XS.ifNo X1.here hx rfl (hb hby d25_3) rfl ((if0 _ _).trans (feq nz_i_COMPACT_STRINGS).1) k) ?_
  refine Go.st (f' := (mkF m 7 #[rv sb] [(.ref sb)])) (fun _ k => XS.aloadN X1.here hx rfl (hb hby d25_6) rfl rfl k) ?_
  obtain ⟨T2, X2, e2, st2⟩ := getF X1 hx hZ hown (host := "") (Or.inl (ww hw 75 rfl)) Via.refl e1 F_sb_coder (g := (mkF m 7 #[rv sb] [(.ref sb)])) rfl rfl (hb hby d25_7)
  refine Go.st (f' := (mkF m 10 #[rv sb] [(.int 0)])) (fun _ k => st2 _ k) ?_
  refine Go.st (f' := (mkF m 13 #[rv sb] [])) (fun _ k => XS.ifNo X2.here hx rfl (hb hby d25_10) rfl (by decide) k) ?_
  refine Go.st (f' := (mkF m 14 #[rv sb] [(.int 1)])) (fun _ k => XS.iconst X2.here hx rfl (hb hby d25_13) k) ?_
  refine Go.st (f' := (mkF m 18 #[rv sb] [(.int 1)])) (fun _ k => XS.goto X2.here hx rfl (pc0 := 14) (pc' := 18) rfl (hb hby d25_14) (by decide) (by decide) k) ?_
  refine Go.retB X2 hlk hx (t := .boolean) hret (by simp) (hb hby d25_18) e2 ?_ (by decide) (by decide)
  exact ⟨rfl, N0, rfl⟩
theorem pn_java_util_Arrays : plainName "java/util/Arrays" = true := by first | (simp [plainName, overriddenIn]; done) | decide +kernel
theorem d28_0 : decode jdk_65_method_131_code 0 = .ok (.iload_n 1, 1) := by decide +kernel
theorem d28_1 : decode jdk_65_method_131_code 1 = .ok (.iload_n 0, 1) := by decide +kernel
theorem d28_2 : decode jdk_65_method_131_code 2 = .ok (.if_icmp .ge 35, 3) := by decide +kernel
theorem d28_37 : decode jdk_65_method_131_code 37 = .ok (.return_, 1) := by decide +kernel
set_option maxRecDepth 65536 in
set_option maxHeartbeats 40000000 in
theorem ark (l : Launch) (Z : State) (a0 : Array Value) (hw : ∀ d ∈ tables_1, d.before a0 Z = true) (ws : List Jvm.Cond) (c2 : Int32) (h0 : Heap) (n0 : Nat) (O0 : Old Z n0 h0) (hlo : ¬ c2 < (0 : Int32)) :
    Con l Z (⟨"java/util/Arrays", "checkLength", "(II)V"⟩ : MethodName) jdk_65_method_131_code 2 none ws ({ frames := 0, cells := 0, slots := 0, locals := 0 } : Room) #[(.int 0), (.int c2)] h0 (fun v h L => v = none ∧ Fr n0 L ∧ h = h0) := by
  refine own_body (plainFor_of_name pn_java_util_Arrays) ?_
  intro p e s m below meth c s₁ hx hby hml hZ hown hnm hlk hret X0 e0
  have N0 := Fr.nil n0
  refine Go.st (T' := s₁) (f' := (mkF m 0 #[iv 0, iv c2] [])) (fun _ k => castTop (by first | (simp [entryFrame, mkF, argsToLocals, Value.category]; done) | rfl) k) ?_
  refine Go.st (f' := (mkF m 1 #[iv 0, iv c2] [(.int c2)])) (fun _ k => XS.iloadN X0.here hx rfl (hb hby d28_0) rfl k) ?_
  refine Go.st (f' := (mkF m 2 #[iv 0, iv c2] [(.int 0), (.int c2)])) (fun _ k => XS.iloadN X0.here hx rfl (hb hby d28_1) rfl k) ?_
  refine Go.st (f' := (mkF m 37 #[iv 0, iv c2] [])) (fun _ k => XS.icmpYes X0.here hx rfl (pc0 := 2) (pc' := 37) rfl (hb hby d28_2) rfl (flt hlo).2.1 (by decide) (by decide) k) ?_
  refine Go.ret0 X0 hlk hx hret (hb hby d28_37) e0 ?_ (by decide) (by decide)
  exact ⟨rfl, N0, rfl⟩
theorem d29_0 : decode jdk_29_method_69_code 0 = .ok (.iload_n 0, 1) := by decide +kernel
theorem d29_1 : decode jdk_29_method_69_code 1 = .ok (.iload_n 1, 1) := by decide +kernel
theorem d29_2 : decode jdk_29_method_69_code 2 = .ok (.if_icmp .gt 7, 3) := by decide +kernel
theorem d29_9 : decode jdk_29_method_69_code 9 = .ok (.iload_n 1, 1) := by decide +kernel
theorem d29_10 : decode jdk_29_method_69_code 10 = .ok (.ireturn, 1) := by decide +kernel
set_option maxRecDepth 65536 in
set_option maxHeartbeats 40000000 in
theorem arm (l : Launch) (Z : State) (a0 : Array Value) (hw : ∀ d ∈ tables_1, d.before a0 Z = true) (ws : List Jvm.Cond) (c2 : Int32) (h0 : Heap) (n0 : Nat) (O0 : Old Z n0 h0) (hlt : c2 < (16 : Int32)) :
    Con l Z (⟨"java/lang/Math", "min", "(II)I"⟩ : MethodName) jdk_29_method_69_code 2 (some .int) ws ({ frames := 0, cells := 0, slots := 0, locals := 0 } : Room) #[(.int 16), (.int c2)] h0 (fun v h L => v = some (.int c2) ∧ Fr n0 L ∧ h = h0) := by
  refine own_body (Jvm.Free.JP.mathPlain rfl (by decide +kernel)) ?_
  intro p e s m below meth c s₁ hx hby hml hZ hown hnm hlk hret X0 e0
  have N0 := Fr.nil n0
  refine Go.st (T' := s₁) (f' := (mkF m 0 #[iv 16, iv c2] [])) (fun _ k => castTop (by first | (simp [entryFrame, mkF, argsToLocals, Value.category]; done) | rfl) k) ?_
  refine Go.st (f' := (mkF m 1 #[iv 16, iv c2] [(.int 16)])) (fun _ k => XS.iloadN X0.here hx rfl (hb hby d29_0) rfl k) ?_
  refine Go.st (f' := (mkF m 2 #[iv 16, iv c2] [(.int c2), (.int 16)])) (fun _ k => XS.iloadN X0.here hx rfl (hb hby d29_1) rfl k) ?_
  refine Go.st (f' := (mkF m 9 #[iv 16, iv c2] [])) (fun _ k => XS.icmpYes X0.here hx rfl (pc0 := 2) (pc' := 9) rfl (hb hby d29_2) rfl (tlt hlt).2.2.1 (by decide) (by decide) k) ?_
  refine Go.st (f' := (mkF m 10 #[iv 16, iv c2] [(.int c2)])) (fun _ k => XS.iloadN X0.here hx rfl (hb hby d29_9) rfl k) ?_
  refine Go.retV X0 hlk hx (t := .int) hret rfl (Or.inl ⟨rfl, Or.inl rfl, _, rfl⟩) (hb hby d29_10) e0 ?_ (by decide) (by decide)
  exact ⟨rfl, N0, rfl⟩
theorem d27_0 : decode jdk_65_method_133_code 0 = .ok (.iload_n 1, 1) := by decide +kernel
theorem d27_1 : decode jdk_65_method_133_code 1 = .ok (.iload_n 2, 1) := by decide +kernel
theorem d27_2 : decode jdk_65_method_133_code 2 = .ok (.invokestatic 343, 3) := by decide +kernel
theorem d27_5 : decode jdk_65_method_133_code 5 = .ok (.iload_n 2, 1) := by decide +kernel
theorem d27_6 : decode jdk_65_method_133_code 6 = .ok (.iload_n 1, 1) := by decide +kernel
theorem d27_7 : decode jdk_65_method_133_code 7 = .ok (.isub, 1) := by decide +kernel
theorem d27_8 : decode jdk_65_method_133_code 8 = .ok (.istore_n 3, 1) := by decide +kernel
theorem d27_9 : decode jdk_65_method_133_code 9 = .ok (.iload_n 3, 1) := by decide +kernel
theorem d27_10 : decode jdk_65_method_133_code 10 = .ok (.newarray .byte, 2) := by decide +kernel
theorem d27_12 : decode jdk_65_method_133_code 12 = .ok (.astore 4, 2) := by decide +kernel
theorem d27_14 : decode jdk_65_method_133_code 14 = .ok (.aload_n 0, 1) := by decide +kernel
theorem d27_15 : decode jdk_65_method_133_code 15 = .ok (.iload_n 1, 1) := by decide +kernel
theorem d27_16 : decode jdk_65_method_133_code 16 = .ok (.aload 4, 2) := by decide +kernel
theorem d27_18 : decode jdk_65_method_133_code 18 = .ok (.iconst 0, 1) := by decide +kernel
theorem d27_19 : decode jdk_65_method_133_code 19 = .ok (.aload_n 0, 1) := by decide +kernel
theorem d27_20 : decode jdk_65_method_133_code 20 = .ok (.arraylength, 1) := by decide +kernel
theorem d27_21 : decode jdk_65_method_133_code 21 = .ok (.iload_n 1, 1) := by decide +kernel
theorem d27_22 : decode jdk_65_method_133_code 22 = .ok (.isub, 1) := by decide +kernel
theorem d27_23 : decode jdk_65_method_133_code 23 = .ok (.iload_n 3, 1) := by decide +kernel
theorem d27_24 : decode jdk_65_method_133_code 24 = .ok (.invokestatic 304, 3) := by decide +kernel
theorem pd__II_I : parseMethodDescriptor "(II)I" = some ⟨[.int, .int], some .int⟩ := by decide +kernel
theorem d27_27 : decode jdk_65_method_133_code 27 = .ok (.invokestatic 150, 3) := by decide +kernel
theorem d27_30 : decode jdk_65_method_133_code 30 = .ok (.aload 4, 2) := by decide +kernel
theorem d27_32 : decode jdk_65_method_133_code 32 = .ok (.areturn, 1) := by decide +kernel
set_option maxRecDepth 65536 in
set_option maxHeartbeats 40000000 in
theorem arb (l : Launch) (Z : State) (a0 : Array Value) (hw : ∀ d ∈ tables_1, d.before a0 Z = true) (ws : List Jvm.Cond) (t2 : Addr) (k2 : ClassId) (c2 : Int32) (xs : List Value) (w_ERROR : Addr) (w_WARNING : Addr) (i_COMPACT_STRINGS : Int32) (v_SIOOBE_FORMATTER : Value) (h0 : Heap) (n0 : Nat) (O0 : Old Z n0 h0) (lc : Ln c2 xs) (hlt : c2 < (16 : Int32)) (hcap : xs.length ≤ 6) (V_t2 : Arv Z h0 t2 k2 .byte (16 : Int32) xs (.int 0)) (WW : World1 Z w_ERROR w_WARNING i_COMPACT_STRINGS v_SIOOBE_FORMATTER) :
    Con l Z (⟨"java/util/Arrays", "copyOfRangeByte", "([BII)[B"⟩ : MethodName) jdk_65_method_133_code 5 (some (.array .byte)) ws ({ frames := 1, cells := 1, slots := 6, locals := 20 } : Room) #[(.ref t2), (.int 0), (.int c2)] h0 (fun v h L => ∃ (b : Addr) (kb : ClassId), v = some (.ref b) ∧ Fr n0 L ∧ h0.size ≤ b ∧ Keep h0 h [] ∧ Arv Z h b kb .byte c2 xs (.int 0)) := by
  refine own_body (plainFor_of_name pn_java_util_Arrays) ?_
  intro p e s m below meth c s₁ hx hby hml hZ hown hnm hlk hret X0 e0
  have N0 := Fr.nil n0
  have K0 : Keep h0 h0 [] := Keep.refl _ _
  refine Go.st (T' := s₁) (f' := (mkF m 0 #[rv t2, iv 0, iv c2, .unset, .unset] [])) (fun _ k => castTop (by first | (simp [entryFrame, mkF, argsToLocals, Value.category]; done) | rfl) k) ?_
  have ⟨S_i_COMPACT_STRINGS, nz_i_COMPACT_STRINGS, S_v_SIOOBE_FORMATTER, r_v_SIOOBE_FORMATTER, S_w_ERROR, E_w_ERROR, S_w_WARNING, E_w_WARNING⟩ := WW
  have lt_w_ERROR := E_w_ERROR.lt
  have lt_w_WARNING := E_w_WARNING.lt
  have lt_t2 := V_t2.lt
  refine Go.st (f' := (mkF m 1 #[rv t2, iv 0, iv c2, .unset, .unset] [(.int 0)])) (fun _ k => XS.iloadN X0.here hx rfl (hb hby d27_0) rfl k) ?_
  refine Go.st (f' := (mkF m 2 #[rv t2, iv 0, iv c2, .unset, .unset] [(.int c2), (.int 0)])) (fun _ k => XS.iloadN X0.here hx rfl (hb hby d27_1) rfl k) ?_
  obtain ⟨_, _, ⟨T1, L1, kk1, nn1⟩, -, X1, ⟨Lc1, hQ1, lq1, yq1, zz1⟩, st1⟩ := Jvm.LawKit.callS X0 hx (y := (⟨"java/util/Arrays", "checkLength", "(II)V"⟩ : MethodName)) hown (mvT hZ (ww hw 163 rfl)) (mvT hZ (ww hw 164 rfl)) (mvT hZ (ww hw 158 rfl)) (mvT hZ (ww hw 165 rfl)) (by decide) (own_back (W := 0) (ark l Z a0 hw [] c2 h0 n0 O0 lc.nn) hZ (ww hw 165 rfl) (ww hw 158 rfl) (by decide) (by decide)) (g := (mkF m 2 #[rv t2, iv 0, iv c2, .unset, .unset] [(.int c2), (.int 0)])) rfl (by rw [hml]; rfl) (argsL := [(.int (0 : Int32)), (.int c2)]) (rest := []) (lenOf pd__II_V rfl) rfl (by show 2 * 0 + _ ≤ _; exact Nat.le_of_eq rfl) (hb hby d27_2) (fun _ _ => ⟨rfl, e0, (by decide : 0 + 0 ≤ _), (by decide : 0 + 0 ≤ _)⟩)
  dsimp only [Pt.U, Pt.locs, Pt.cells, Pt.slots] at X1 lq1 yq1 zz1 st1 hQ1
  subst lq1 yq1 zz1
  obtain ⟨rfl, Nq1, kq1⟩ := hQ1
  have N1 := Fr.app N0 Nq1
  refine Go.st (f' := (mkF m 5 #[rv t2, iv 0, iv c2, .unset, .unset] [])) (fun _ k => st1 _ k) ?_
  refine Go.st (f' := (mkF m 6 #[rv t2, iv 0, iv c2, .unset, .unset] [(.int c2)])) (fun _ k => XS.iloadN X1.here hx rfl (hb hby d27_5) rfl k) ?_
  refine Go.st (f' := (mkF m 7 #[rv t2, iv 0, iv c2, .unset, .unset] [(.int 0), (.int c2)])) (fun _ k => XS.iloadN X1.here hx rfl (hb hby d27_6) rfl k) ?_
  refine Go.st (f' := (mkF m 8 #[rv t2, iv 0, iv c2, .unset, .unset] [(.int (c2 - (0 : Int32)))])) (fun _ k => XS.isub X1.here hx rfl (hb hby d27_7) rfl k) ?_
  rw [Int32.sub_zero c2]
  refine Go.st (f' := (mkF m 9 #[rv t2, iv 0, iv c2, iv c2, .unset] [])) (fun _ k => XS.istoreN X1.here hx rfl (hb hby d27_8) rfl (l' := #[rv t2, iv 0, iv c2, iv c2, .unset]) rfl k) ?_
  refine Go.st (f' := (mkF m 10 #[rv t2, iv 0, iv c2, iv c2, .unset] [(.int c2)])) (fun _ k => XS.iloadN X1.here hx rfl (hb hby d27_9) rfl k) ?_
  obtain ⟨T2, h2, kc2, X2, e2, E2, A2, st2⟩ := newP X1 hx hZ (ww hw 22 rfl) kq1 (g := (mkF m 10 #[rv t2, iv 0, iv c2, iv c2, .unset] [(.int c2)])) rfl (hb hby d27_10) rfl lc.nn (cap := 6) (lc.le hcap) (by decide) (by decide) (by decide)
  obtain ⟨b2, g2⟩ : ∃ z, z = h0.size := ⟨_, rfl⟩
  rw [← g2] at A2 st2
  have ne_t2_b2 : t2 ≠ b2 := Nat.ne_of_lt (Nat.lt_of_lt_of_eq lt_t2 g2.symm)
  have ne_w_ERROR_b2 : w_ERROR ≠ b2 := Nat.ne_of_lt (Nat.lt_of_lt_of_le lt_w_ERROR (Nat.le_trans O0.2.1 (Nat.le_of_eq g2.symm)))
  have ne_w_WARNING_b2 : w_WARNING ≠ b2 := Nat.ne_of_lt (Nat.lt_of_lt_of_le lt_w_WARNING (Nat.le_trans O0.2.1 (Nat.le_of_eq g2.symm)))
  have g_b2 : n0 ≤ b2 := Nat.le_trans (O0.1 ▸ O0.2.1) (Nat.le_of_eq g2.symm)
  have O2 : Old Z n0 h2 := O0.ext E2
  have sz_b2 : h0.size ≤ b2 := Nat.le_trans K0.1 (Nat.le_of_eq g2.symm)
  have K2 : Keep h0 h2 [] := K0.ext E2
  have V_b2 : Arv Z h2 b2 kc2 .byte c2 [] (.int (0 : Int32)) := Arv.new A2 lc.nn
  have lt_b2 := A2.lt
  refine Go.st (f' := (mkF m 12 #[rv t2, iv 0, iv c2, iv c2, .unset] [(.ref b2)])) (fun _ k => st2 _ k) ?_
  refine Go.st (f' := (mkF m 14 #[rv t2, iv 0, iv c2, iv c2, rv b2] [])) (fun _ k => XS.astore X2.here hx rfl (hb hby d27_12) rfl rfl (l' := #[rv t2, iv 0, iv c2, iv c2, rv b2]) rfl k) ?_
  refine Go.st (f' := (mkF m 15 #[rv t2, iv 0, iv c2, iv c2, rv b2] [(.ref t2)])) (fun _ k => XS.aloadN X2.here hx rfl (hb hby d27_14) rfl rfl k) ?_
  refine Go.st (f' := (mkF m 16 #[rv t2, iv 0, iv c2, iv c2, rv b2] [(.int 0), (.ref t2)])) (fun _ k => XS.iloadN X2.here hx rfl (hb hby d27_15) rfl k) ?_
  refine Go.st (f' := (mkF m 18 #[rv t2, iv 0, iv c2, iv c2, rv b2] [(.ref b2), (.int 0), (.ref t2)])) (fun _ k => XS.aload X2.here hx rfl (hb hby d27_16) rfl rfl k) ?_
  refine Go.st (f' := (mkF m 19 #[rv t2, iv 0, iv c2, iv c2, rv b2] [(.int 0), (.ref b2), (.int 0), (.ref t2)])) (fun _ k => XS.iconst X2.here hx rfl (hb hby d27_18) k) ?_
  refine Go.st (f' := (mkF m 20 #[rv t2, iv 0, iv c2, iv c2, rv b2] [(.ref t2), (.int 0), (.ref b2), (.int 0), (.ref t2)])) (fun _ k => XS.aloadN X2.here hx rfl (hb hby d27_19) rfl rfl k) ?_
  have ft4 := (V_t2.ext E2)
  obtain ⟨cl3, Ar3, -, S3, Nx3, -, -⟩ := id ft4
  refine Go.st (T' := T2) (f' := (mkF m 21 #[rv t2, iv 0, iv c2, iv c2, rv b2] [(.int 16), (.int 0), (.ref b2), (.int 0), (.ref t2)])) (fun _ k => X2.arraylength hx (by rw [e2]; exact Ar3.1) (State.isArrayOf_alike hZ.alike Ar3.2.1) (g := (mkF m 20 #[rv t2, iv 0, iv c2, iv c2, rv b2] [(.ref t2), (.int 0), (.ref b2), (.int 0), (.ref t2)])) rfl rfl (hb hby d27_20) _ (by rw [len_of S3 Nx3]; exact k)) ?_
  refine Go.st (f' := (mkF m 22 #[rv t2, iv 0, iv c2, iv c2, rv b2] [(.int 0), (.int 16), (.int 0), (.ref b2), (.int 0), (.ref t2)])) (fun _ k => XS.iloadN X2.here hx rfl (hb hby d27_21) rfl k) ?_
  refine Go.st (f' := (mkF m 23 #[rv t2, iv 0, iv c2, iv c2, rv b2] [(.int 16), (.int 0), (.ref b2), (.int 0), (.ref t2)])) (fun _ k => XS.isub X2.here hx rfl (hb hby d27_22) rfl k) ?_
  refine Go.st (f' := (mkF m 24 #[rv t2, iv 0, iv c2, iv c2, rv b2] [(.int c2), (.int 16), (.int 0), (.ref b2), (.int 0), (.ref t2)])) (fun _ k => XS.iloadN X2.here hx rfl (hb hby d27_23) rfl k) ?_
  obtain ⟨_, _, ⟨T5, L5, kk5, nn5⟩, -, X5, ⟨Lc5, hQ5, lq5, yq5, zz5⟩, st5⟩ := Jvm.LawKit.callS X2 hx (y := (⟨"java/lang/Math", "min", "(II)I"⟩ : MethodName)) hown (mvT hZ (ww hw 166 rfl)) (mvT hZ (ww hw 167 rfl)) (mvT hZ (ww hw 168 rfl)) (mvT hZ (ww hw 169 rfl)) (by decide) (own_back (W := 4) (arm l Z a0 hw [] c2 h2 n0 O2 hlt) hZ (ww hw 169 rfl) (ww hw 168 rfl) (by decide) (by decide)) (g := (mkF m 24 #[rv t2, iv 0, iv c2, iv c2, rv b2] [(.int c2), (.int 16), (.int 0), (.ref b2), (.int 0), (.ref t2)])) rfl (by rw [hml]; rfl) (argsL := [(.int (16 : Int32)), (.int c2)]) (rest := [(.int (0 : Int32)), (.ref b2), (.int (0 : Int32)), (.ref t2)]) (lenOf pd__II_I rfl) rfl (by show 2 * 0 + _ ≤ _; exact Nat.le_of_eq rfl) (hb hby d27_24) (fun _ _ => ⟨rfl, e2, (by decide : 1 + 0 ≤ _), (by decide : 6 + 0 ≤ _)⟩)
  dsimp only [Pt.U, Pt.locs, Pt.cells, Pt.slots] at X5 lq5 yq5 zz5 st5 hQ5
  subst lq5 yq5 zz5
  obtain ⟨rfl, Nq5, kq5⟩ := hQ5
  have N5 := Fr.app N1 Nq5
  refine Go.st (f' := (mkF m 27 #[rv t2, iv 0, iv c2, iv c2, rv b2] [(.int c2), (.int 0), (.ref b2), (.int 0), (.ref t2)])) (fun _ k => st5 _ k) ?_
  have vp7 := Arv.pad V_b2 (pad_rep [] (.int (0 : Int32)) (xs).length)
  obtain ⟨T8, h8, L8, X8, e8, N8, kq8, vq8, st8⟩ := cpA X5 hx hZ hown (ww hw 170 rfl) (ww hw 124 rfl) (ww hw 122 rfl) (ww hw 123 rfl) kq5 ft4 vp7 (us := xs) (Or.inl ⟨rfl, rfl⟩) (by decide) ln0.nn lc.nn (by rw [lc.nat]; show 0 + _ ≤ 16; omega) (by show 0 + _ ≤ _; omega) (own_mapr lc.nat) (own_padl ln0 lc) N5 g_b2 (g := (mkF m 27 #[rv t2, iv 0, iv c2, iv c2, rv b2] [(.int c2), (.int 0), (.ref b2), (.int 0), (.ref t2)])) rfl (by rw [hml]; rfl) rfl (hb hby d27_27) (by decide) (W := 0) (by show 2 * 0 + _ ≤ _; exact Nat.le_of_eq rfl) (by decide)
  rw [own_join ln0.nat lc.nat] at vq8
  have O8 : Old Z n0 h8 := O2.keep kq8 (allS g_b2 all0)
  have K8 : Keep h0 h8 [] := K2.trans kq8 (allS (Or.inr sz_b2) all0)
  refine Go.st (f' := (mkF m 30 #[rv t2, iv 0, iv c2, iv c2, rv b2] [])) (fun _ k => st8 _ k) ?_
  refine Go.st (f' := (mkF m 32 #[rv t2, iv 0, iv c2, iv c2, rv b2] [(.ref b2)])) (fun _ k => XS.aload X8.here hx rfl (hb hby d27_30) rfl rfl k) ?_
  refine Go.retV X8 hlk hx (t := (.array .byte)) hret rfl (Or.inr (Or.inr (Or.inr (Or.inr ⟨rfl, rfl, rfl⟩)))) (hb hby d27_32) e8 ?_ (by decide) (by decide)
  exact ⟨b2, kc2, rfl, N8, sz_b2, K8, vq8⟩
theorem d26_0 : decode jdk_65_method_132_code 0 = .ok (.iload_n 1, 1) := by decide +kernel
theorem d26_1 : decode jdk_65_method_132_code 1 = .ok (.ifCond .ne 9, 3) := by decide +kernel
theorem d26_4 : decode jdk_65_method_132_code 4 = .ok (.iload_n 2, 1) := by decide +kernel
theorem d26_5 : decode jdk_65_method_132_code 5 = .ok (.aload_n 0, 1) := by decide +kernel
theorem d26_6 : decode jdk_65_method_132_code 6 = .ok (.arraylength, 1) := by decide +kernel
theorem d26_7 : decode jdk_65_method_132_code 7 = .ok (.if_icmp .eq 10, 3) := by decide +kernel
theorem d26_10 : decode jdk_65_method_132_code 10 = .ok (.aload_n 0, 1) := by decide +kernel
theorem d26_11 : decode jdk_65_method_132_code 11 = .ok (.iload_n 1, 1) := by decide +kernel
theorem d26_12 : decode jdk_65_method_132_code 12 = .ok (.iload_n 2, 1) := by decide +kernel
theorem d26_13 : decode jdk_65_method_132_code 13 = .ok (.invokestatic 339, 3) := by decide +kernel
theorem pd___BII__B : parseMethodDescriptor "([BII)[B" = some ⟨[(.array .byte), .int, .int], some (.array .byte)⟩ := by decide +kernel
theorem d26_16 : decode jdk_65_method_132_code 16 = .ok (.areturn, 1) := by decide +kernel
set_option maxRecDepth 65536 in
set_option maxHeartbeats 40000000 in
theorem arc (l : Launch) (Z : State) (a0 : Array Value) (hw : ∀ d ∈ tables_1, d.before a0 Z = true) (ws : List Jvm.Cond) (t2 : Addr) (k2 : ClassId) (c2 : Int32) (xs : List Value) (w_ERROR : Addr) (w_WARNING : Addr) (i_COMPACT_STRINGS : Int32) (v_SIOOBE_FORMATTER : Value) (h0 : Heap) (n0 : Nat) (O0 : Old Z n0 h0) (lc : Ln c2 xs) (hlt : c2 < (16 : Int32)) (hcap : xs.length ≤ 6) (V_t2 : Arv Z h0 t2 k2 .byte (16 : Int32) xs (.int 0)) (WW : World1 Z w_ERROR w_WARNING i_COMPACT_STRINGS v_SIOOBE_FORMATTER) :
    Con l Z (⟨"java/util/Arrays", "copyOfRange", "([BII)[B"⟩ : MethodName) jdk_65_method_132_code 3 (some (.array .byte)) ws ({ frames := 2, cells := 1, slots := 6, locals := 36 } : Room) #[(.ref t2), (.int 0), (.int c2)] h0 (fun v h L => ∃ (b : Addr) (kb : ClassId), v = some (.ref b) ∧ Fr n0 L ∧ h0.size ≤ b ∧ Keep h0 h [] ∧ Arv Z h b kb .byte c2 xs (.int 0)) := by
  refine own_body (plainFor_of_name pn_java_util_Arrays) ?_
  intro p e s m below meth c s₁ hx hby hml hZ hown hnm hlk hret X0 e0
  have N0 := Fr.nil n0
  have K0 : Keep h0 h0 [] := Keep.refl _ _
  refine Go.st (T' := s₁) (f' := (mkF m 0 #[rv t2, iv 0, iv c2] [])) (fun _ k => castTop (by first | (simp [entryFrame, mkF, argsToLocals, Value.category]; done) | rfl) k) ?_
  have ⟨S_i_COMPACT_STRINGS, nz_i_COMPACT_STRINGS, S_v_SIOOBE_FORMATTER, r_v_SIOOBE_FORMATTER, S_w_ERROR, E_w_ERROR, S_w_WARNING, E_w_WARNING⟩ := WW
  have lt_w_ERROR := E_w_ERROR.lt
  have lt_w_WARNING := E_w_WARNING.lt
  have lt_t2 := V_t2.lt
  refine Go.st (f' := (mkF m 1 #[rv t2, iv 0, iv c2] [(.int 0)])) (fun _ k => XS.iloadN X0.here hx rfl (hb hby d26_0) rfl k) ?_
  refine Go.st (f' := (mkF m 4 #[rv t2, iv 0, iv c2] [])) (fun _ k => XS.ifNo X0.here hx rfl (hb hby d26_1) rfl (by decide) k) ?_
  refine Go.st (f' := (mkF m 5 #[rv t2, iv 0, iv c2] [(.int c2)])) (fun _ k => XS.iloadN X0.here hx rfl (hb hby d26_4) rfl k) ?_
  refine Go.st (f' := (mkF m 6 #[rv t2, iv 0, iv c2] [(.ref t2), (.int c2)])) (fun _ k => XS.aloadN X0.here hx rfl (hb hby d26_5) rfl rfl k) ?_
  obtain ⟨cl1, Ar1, -, S1, Nx1, -, -⟩ := id V_t2
  refine Go.st (T' := s₁) (f' := (mkF m 7 #[rv t2, iv 0, iv c2] [(.int 16), (.int c2)])) (fun _ k => X0.arraylength hx (by rw [e0]; exact Ar1.1) (State.isArrayOf_alike hZ.alike Ar1.2.1) (g := (mkF m 6 #[rv t2, iv 0, iv c2] [(.ref t2), (.int c2)])) rfl rfl (hb hby d26_6) _ (by rw [len_of S1 Nx1]; exact k)) ?_
  refine Go.st (f' := (mkF m 10 #[rv t2, iv 0, iv c2] [])) (fun _ k => XS.icmpNo X0.here hx rfl (hb hby d26_7) rfl (feq (fun q => absurd (q ▸ hlt) (by decide))).1 k) ?_
  refine Go.st (f' := (mkF m 11 #[rv t2, iv 0, iv c2] [(.ref t2)])) (fun _ k => XS.aloadN X0.here hx rfl (hb hby d26_10) rfl rfl k) ?_
  refine Go.st (f' := (mkF m 12 #[rv t2, iv 0, iv c2] [(.int 0), (.ref t2)])) (fun _ k => XS.iloadN X0.here hx rfl (hb hby d26_11) rfl k) ?_
  refine Go.st (f' := (mkF m 13 #[rv t2, iv 0, iv c2] [(.int c2), (.int 0), (.ref t2)])) (fun _ k => XS.iloadN X0.here hx rfl (hb hby d26_12) rfl k) ?_
  obtain ⟨_, _, ⟨T2, L2, kk2, nn2⟩, -, X2, ⟨Lc2, hQ2, lq2, yq2, zz2⟩, st2⟩ := Jvm.LawKit.callS X0 hx (y := (⟨"java/util/Arrays", "copyOfRangeByte", "([BII)[B"⟩ : MethodName)) hown (mvT hZ (ww hw 160 rfl)) (mvT hZ (ww hw 161 rfl)) (mvT hZ (ww hw 158 rfl)) (mvT hZ (ww hw 162 rfl)) (by decide) (own_back (W := 0) (arb l Z a0 hw [] t2 k2 c2 xs w_ERROR w_WARNING i_COMPACT_STRINGS v_SIOOBE_FORMATTER h0 n0 O0 lc hlt hcap V_t2 WW) hZ (ww hw 162 rfl) (ww hw 158 rfl) (by decide) (by decide)) (g := (mkF m 13 #[rv t2, iv 0, iv c2] [(.int c2), (.int 0), (.ref t2)])) rfl (by rw [hml]; rfl) (argsL := [(.ref t2), (.int (0 : Int32)), (.int c2)]) (rest := []) (lenOf pd___BII__B rfl) rfl (by show 2 * 0 + _ ≤ _; exact Nat.le_of_eq rfl) (hb hby d26_13) (fun _ _ => ⟨rfl, e0, (by decide : 0 + 1 ≤ _), (by decide : 0 + 6 ≤ _)⟩)
  dsimp only [Pt.U, Pt.locs, Pt.cells, Pt.slots] at X2 lq2 yq2 zz2 st2 hQ2
  subst lq2 yq2 zz2
  obtain ⟨b2, kb2, rfl, Nq2, zq2, kq2, vq2⟩ := hQ2
  have N2 := Fr.app N0 Nq2
  have ne_t2_b2 : t2 ≠ b2 := Nat.ne_of_lt (Nat.lt_of_lt_of_le lt_t2 zq2)
  have ne_w_ERROR_b2 : w_ERROR ≠ b2 := Nat.ne_of_lt (Nat.lt_of_lt_of_le lt_w_ERROR (Nat.le_trans O0.2.1 zq2))
  have ne_w_WARNING_b2 : w_WARNING ≠ b2 := Nat.ne_of_lt (Nat.lt_of_lt_of_le lt_w_WARNING (Nat.le_trans O0.2.1 zq2))
  have g_b2 : n0 ≤ b2 := Nat.le_trans (O0.1 ▸ O0.2.1) zq2
  have sz_b2 : h0.size ≤ b2 := Nat.le_trans K0.1 zq2
  have O2 : Old Z n0 T2.heap := O0.keep kq2 all0
  have K2 : Keep h0 T2.heap [] := K0.trans kq2 all0
  have lt_b2 := vq2.lt
  refine Go.st (f' := (mkF m 16 #[rv t2, iv 0, iv c2] [(.ref b2)])) (fun _ k => st2 _ k) ?_
  refine Go.retV X2 hlk hx (t := (.array .byte)) hret rfl (Or.inr (Or.inr (Or.inr (Or.inr ⟨rfl, rfl, rfl⟩)))) (hb hby d26_16) rfl ?_ (by decide) (by decide)
  exact ⟨b2, kb2, rfl, N2, sz_b2, K2, vq2⟩
theorem d21_0 : decode jdk_42_method_150_code 0 = .ok (.aload_n 0, 1) := by decide +kernel
theorem d21_1 : decode jdk_42_method_150_code 1 = .ok (.invokespecial 1, 3) := by decide +kernel
theorem d21_4 : decode jdk_42_method_150_code 4 = .ok (.aload_n 1, 1) := by decide +kernel
theorem d21_5 : decode jdk_42_method_150_code 5 = .ok (.invokevirtual 552, 3) := by decide +kernel
theorem pd____B : parseMethodDescriptor "()[B" = some ⟨[], some (.array .byte)⟩ := by decide +kernel
theorem d21_8 : decode jdk_42_method_150_code 8 = .ok (.astore_n 3, 1) := by decide +kernel
theorem d21_9 : decode jdk_42_method_150_code 9 = .ok (.aload_n 1, 1) := by decide +kernel
theorem d21_10 : decode jdk_42_method_150_code 10 = .ok (.invokevirtual 549, 3) := by decide +kernel
theorem d21_13 : decode jdk_42_method_150_code 13 = .ok (.istore 4, 2) := by decide +kernel
theorem d21_15 : decode jdk_42_method_150_code 15 = .ok (.aload_n 1, 1) := by decide +kernel
theorem d21_16 : decode jdk_42_method_150_code 16 = .ok (.invokevirtual 1047, 3) := by decide +kernel
theorem d21_19 : decode jdk_42_method_150_code 19 = .ok (.ifCond .eq 22, 3) := by decide +kernel
theorem d21_22 : decode jdk_42_method_150_code 22 = .ok (.aload_n 0, 1) := by decide +kernel
theorem d21_23 : decode jdk_42_method_150_code 23 = .ok (.iconst 0, 1) := by decide +kernel
theorem d21_24 : decode jdk_42_method_150_code 24 = .ok (.putfield 15, 3) := by decide +kernel
theorem d21_27 : decode jdk_42_method_150_code 27 = .ok (.aload_n 0, 1) := by decide +kernel
theorem d21_28 : decode jdk_42_method_150_code 28 = .ok (.aload_n 3, 1) := by decide +kernel
theorem d21_29 : decode jdk_42_method_150_code 29 = .ok (.iconst 0, 1) := by decide +kernel
theorem d21_30 : decode jdk_42_method_150_code 30 = .ok (.iload 4, 2) := by decide +kernel
theorem d21_32 : decode jdk_42_method_150_code 32 = .ok (.invokestatic 54, 3) := by decide +kernel
theorem d21_35 : decode jdk_42_method_150_code 35 = .ok (.putfield 9, 3) := by decide +kernel
theorem d21_38 : decode jdk_42_method_150_code 38 = .ok (.goto 59, 3) := by decide +kernel
theorem d21_97 : decode jdk_42_method_150_code 97 = .ok (.return_, 1) := by decide +kernel
set_option maxRecDepth 65536 in
set_option maxHeartbeats 40000000 in
theorem sts1 (l : Launch) (Z : State) (a0 : Array Value) (hw : ∀ d ∈ tables_1, d.before a0 Z = true) (ws : List Jvm.Cond) (a1 : Addr) (sb : Addr) (t2 : Addr) (k2 : ClassId) (c2 : Int32) (xs : List Value) (w_ERROR : Addr) (w_WARNING : Addr) (i_COMPACT_STRINGS : Int32) (v_SIOOBE_FORMATTER : Value) (h0 : Heap) (n0 : Nat) (O0 : Old Z n0 h0) (lc : Ln c2 xs) (hlt : c2 < (16 : Int32)) (hcap : xs.length ≤ 6) (g_a1 : n0 ≤ a1) (ne1 : a1 ≠ sb) (ne2 : a1 ≠ t2) (E_a1 : Exa Z h0 a1 "java/lang/String") (F_a1_coder : Fld Z h0 a1 "java/lang/String" "coder" "B" (.int 0)) (F_a1_value : Fld Z h0 a1 "java/lang/String" "value" "[B" .null) (E_sb : Exa Z h0 sb "java/lang/StringBuilder") (F_sb_coder : Fld Z h0 sb "java/lang/AbstractStringBuilder" "coder" "B" (.int 0)) (F_sb_value : Fld Z h0 sb "java/lang/AbstractStringBuilder" "value" "[B" (.ref t2)) (F_sb_count : Fld Z h0 sb "java/lang/AbstractStringBuilder" "count" "I" (.int c2)) (V_t2 : Arv Z h0 t2 k2 .byte (16 : Int32) xs (.int 0)) (WW : World1 Z w_ERROR w_WARNING i_COMPACT_STRINGS v_SIOOBE_FORMATTER) :
    Con l Z (⟨"java/lang/String", "<init>", "(Ljava/lang/AbstractStringBuilder;Ljava/lang/Void;)V"⟩ : MethodName) jdk_42_method_150_code 5 none ws ({ frames := 3, cells := 1, slots := 6, locals := 51 } : Room) #[(.ref a1), (.ref sb), .null] h0 (fun v h L => v = none ∧ Fr n0 L ∧ Keep h0 h [a1] ∧ Exa Z h a1 "java/lang/String" ∧ Fld Z h a1 "java/lang/String" "coder" "B" (.int 0) ∧ ∃ (t : Addr) (kt : ClassId), h0.size ≤ t ∧ Fld Z h a1 "java/lang/String" "value" "[B" (.ref t) ∧ Arv Z h t kt .byte c2 xs (.int 0)) := by
  refine own_body (plainFor_of_name pn_java_lang_String) ?_
  intro p e s m below meth c s₁ hx hby hml hZ hown hnm hlk hret X0 e0
  have N0 := Fr.nil n0
  have K0 : Keep h0 h0 [a1] := Keep.refl _ _
  refine Go.st (T' := s₁) (f' := (mkF m 0 #[rv a1, rv sb, .val .null, .unset, .unset] [])) (fun _ k => castTop (by first | (simp [entryFrame, mkF, argsToLocals, Value.category]; done) | rfl) k) ?_
  have ⟨S_i_COMPACT_STRINGS, nz_i_COMPACT_STRINGS, S_v_SIOOBE_FORMATTER, r_v_SIOOBE_FORMATTER, S_w_ERROR, E_w_ERROR, S_w_WARNING, E_w_WARNING⟩ := WW
  have lt_w_ERROR := E_w_ERROR.lt
  have lt_w_WARNING := E_w_WARNING.lt
  have lt_a1 := E_a1.lt
  have ne_w_ERROR_a1 : w_ERROR ≠ a1 := O0.ne lt_w_ERROR g_a1
  have ne_w_WARNING_a1 : w_WARNING ≠ a1 := O0.ne lt_w_WARNING g_a1
  have lt_sb := E_sb.lt
  have lt_t2 := V_t2.lt
  refine Go.st (f' := (mkF m 1 #[rv a1, rv sb, .val .null, .unset, .unset] [(.ref a1)])) (fun _ k => XS.aloadN X0.here hx rfl (hb hby d21_0) rfl rfl k) ?_
  obtain ⟨T1, X1, e1, st1⟩ := initO X0 hx hZ hown (ww hw 18 rfl) (ww hw 19 rfl) (ww hw 20 rfl) e0 (g := (mkF m 1 #[rv a1, rv sb, .val .null, .unset, .unset] [(.ref a1)])) rfl (by rw [hml]; rfl) rfl (hb hby d21_1) (by decide) (W := 0) (by show 2 * 0 + _ ≤ _; exact Nat.le_of_eq rfl) (by decide)
  refine Go.st (f' := (mkF m 4 #[rv a1, rv sb, .val .null, .unset, .unset] [])) (fun _ k => st1 _ k) ?_
  refine Go.st (f' := (mkF m 5 #[rv a1, rv sb, .val .null, .unset, .unset] [(.ref sb)])) (fun _ k => XS.aloadN X1.here hx rfl (hb hby d21_4) rfl rfl k) ?_
  obtain ⟨cq2, kq2, q2a, q2b, q2c⟩ := isOf hZ e1 E_sb
  obtain ⟨_, _, ⟨T2, L2, kk2, nn2⟩, -, X2, ⟨Lc2, hQ2, lq2, yq2, zz2⟩, st2⟩ := X1.virtualBack hx (y := (⟨"java/lang/AbstractStringBuilder", "getValue", "()[B"⟩ : MethodName)) (z := (⟨"java/lang/AbstractStringBuilder", "getValue", "()[B"⟩ : MethodName)) hown (mvT hZ (ww hw 138 rfl)) (mvT hZ (ww hw 139 rfl)) (notFace_of_selects (args := #[]) (mvT hZ (ww hw 141 rfl))) (mvT hZ (ww hw 141 rfl)) (mvT hZ (ww hw 140 rfl)) (by decide) (own_back (W := 0) (sbv l Z a0 hw [] sb t2 h0 n0 O0 E_sb F_sb_value) hZ (ww hw 142 rfl) (ww hw 69 rfl) (by decide) (by decide)) q2a q2c (g := (mkF m 5 #[rv a1, rv sb, .val .null, .unset, .unset] [(.ref sb)])) rfl (by rw [hml]; rfl) (Steps.refl _) (argsL := []) (rest := []) (lenOf pd____B rfl) rfl (by show 2 * 0 + _ ≤ _; exact Nat.le_of_eq rfl) (hb hby d21_5) (fun _ _ => ⟨rfl, e1, (by decide : 0 + 0 ≤ _), (by decide : 0 + 0 ≤ _)⟩)
  dsimp only [Pt.U, Pt.locs, Pt.cells, Pt.slots] at X2 lq2 yq2 zz2 st2 hQ2
  subst lq2 yq2 zz2
  obtain ⟨rfl, Nq2, kq2⟩ := hQ2
  have N2 := Fr.app N0 Nq2
  refine Go.tr (f' := (mkF m 8 #[rv a1, rv sb, .val .null, .unset, .unset] [(.ref t2)])) st2 ?_
  refine Go.st (f' := (mkF m 9 #[rv a1, rv sb, .val .null, rv t2, .unset] [])) (fun _ k => XS.astoreN X2.here hx rfl (hb hby d21_8) rfl rfl (l' := #[rv a1, rv sb, .val .null, rv t2, .unset]) rfl k) ?_
  refine Go.st (f' := (mkF m 10 #[rv a1, rv sb, .val .null, rv t2, .unset] [(.ref sb)])) (fun _ k => XS.aloadN X2.here hx rfl (hb hby d21_9) rfl rfl k) ?_
  obtain ⟨cq3, kq3, q3a, q3b, q3c⟩ := isOf hZ kq2 E_sb
  obtain ⟨_, _, ⟨T3, L3, kk3, nn3⟩, -, X3, ⟨Lc3, hQ3, lq3, yq3, zz3⟩, st3⟩ := X2.virtualBack hx (y := (⟨"java/lang/AbstractStringBuilder", "length", "()I"⟩ : MethodName)) (z := (⟨"java/lang/StringBuilder", "length", "()I"⟩ : MethodName)) hown (mvT hZ (ww hw 143 rfl)) (mvT hZ (ww hw 144 rfl)) (own_nf (args := #[]) (mvT hZ (ww hw 103 rfl)) rfl) (mvT hZ (ww hw 146 rfl)) (mvT hZ (ww hw 147 rfl)) (by decide) (own_back (W := 0) (sbm l Z a0 hw [] sb c2 h0 n0 O0 E_sb F_sb_count) hZ (ww hw 148 rfl) (ww hw 61 rfl) (by decide) (by decide)) q3a q3c (g := (mkF m 10 #[rv a1, rv sb, .val .null, rv t2, .unset] [(.ref sb)])) rfl (by rw [hml]; rfl) (Steps.refl _) (argsL := []) (rest := []) (lenOf pd___I rfl) rfl (by show 2 * 0 + _ ≤ _; exact Nat.le_of_eq rfl) (hb hby d21_10) (fun _ _ => ⟨rfl, kq2, (by decide : 0 + 0 ≤ _), (by decide : 0 + 0 ≤ _)⟩)
  dsimp only [Pt.U, Pt.locs, Pt.cells, Pt.slots] at X3 lq3 yq3 zz3 st3 hQ3
  subst lq3 yq3 zz3
  obtain ⟨rfl, Nq3, kq3⟩ := hQ3
  have N3 := Fr.app N2 Nq3
  refine Go.tr (f' := (mkF m 13 #[rv a1, rv sb, .val .null, rv t2, .unset] [(.int c2)])) st3 ?_
  refine Go.st (f' := (mkF m 15 #[rv a1, rv sb, .val .null, rv t2, iv c2] [])) (fun _ k => XS.istore X3.here hx rfl (hb hby d21_13) rfl (l' := #[rv a1, rv sb, .val .null, rv t2, iv c2]) rfl k) ?_
  refine Go.st (f' := (mkF m 16 #[rv a1, rv sb, .val .null, rv t2, iv c2] [(.ref sb)])) (fun _ k => XS.aloadN X3.here hx rfl (hb hby d21_15) rfl rfl k) ?_
  obtain ⟨cq4, kq4, q4a, q4b, q4c⟩ := isOf hZ kq3 E_sb
  obtain ⟨_, _, ⟨T4, L4, kk4, nn4⟩, -, X4, ⟨Lc4, hQ4, lq4, yq4, zz4⟩, st4⟩ := X3.virtualBack hx (y := (⟨"java/lang/AbstractStringBuilder", "isLatin1", "()Z"⟩ : MethodName)) (z := (⟨"java/lang/AbstractStringBuilder", "isLatin1", "()Z"⟩ : MethodName)) hown (mvT hZ (ww hw 151 rfl)) (mvT hZ (ww hw 152 rfl)) (notFace_of_selects (args := #[]) (mvT hZ (ww hw 154 rfl))) (mvT hZ (ww hw 154 rfl)) (mvT hZ (ww hw 153 rfl)) (by decide) (own_back (W := 0) (sbq l Z a0 hw [] sb w_ERROR w_WARNING i_COMPACT_STRINGS v_SIOOBE_FORMATTER h0 n0 O0 E_sb F_sb_coder WW) hZ (ww hw 155 rfl) (ww hw 69 rfl) (by decide) (by decide)) q4a q4c (g := (mkF m 16 #[rv a1, rv sb, .val .null, rv t2, iv c2] [(.ref sb)])) rfl (by rw [hml]; rfl) (Steps.refl _) (argsL := []) (rest := []) (lenOf pd___Z rfl) rfl (by show 2 * 0 + _ ≤ _; exact Nat.le_of_eq rfl) (hb hby d21_16) (fun _ _ => ⟨rfl, kq3, (by decide : 0 + 0 ≤ _), (by decide : 0 + 0 ≤ _)⟩)
  dsimp only [Pt.U, Pt.locs, Pt.cells, Pt.slots] at X4 lq4 yq4 zz4 st4 hQ4
  subst lq4 yq4 zz4
  obtain ⟨rfl, Nq4, kq4⟩ := hQ4
  have N4 := Fr.app N3 Nq4
  refine Go.tr (f' := (mkF m 19 #[rv a1, rv sb, .val .null, rv t2, iv c2] [(.int 1)])) st4 ?_
  refine Go.st (f' := (mkF m 22 #[rv a1, rv sb, .val .null, rv t2, iv c2] [])) (fun _ k => XS.ifNo X4.here hx rfl (hb hby d21_19) rfl (by decide) k) ?_
  refine Go.st (f' := (mkF m 23 #[rv a1, rv sb, .val .null, rv t2, iv c2] [(.ref a1)])) (fun _ k => XS.aloadN X4.here hx rfl (hb hby d21_22) rfl rfl k) ?_
  refine Go.st (f' := (mkF m 24 #[rv a1, rv sb, .val .null, rv t2, iv c2] [(.int 0), (.ref a1)])) (fun _ k => XS.iconst X4.here hx rfl (hb hby d21_23) k) ?_
  obtain ⟨T5, h5, X5, e5, W5, st5⟩ := putFN X4 hx hZ hown (ww hw 28 rfl) Via.refl kq4 F_a1_coder E_a1 (Or.inr ⟨(ww hw 24 rfl), rfl, hnm⟩) (ww hw 8 rfl) (ty := .byte) (v' := (.int (0 : Int32))) (by decide) rfl (by decide) (g := (mkF m 24 #[rv a1, rv sb, .val .null, rv t2, iv c2] [(.int 0), (.ref a1)])) rfl rfl (hb hby d21_24)
  have N5 := Fr.snoc X5 N4 g_a1
  have O5 : Old Z n0 h5 := O0.wr W5 g_a1
  have K5 : Keep h0 h5 [a1] := K0.wr W5 (Or.inl (List.mem_of_getElem? (i := 0) rfl))
  have Fw5 := F_a1_coder.same W5
  refine Go.st (f' := (mkF m 27 #[rv a1, rv sb, .val .null, rv t2, iv c2] [])) (fun _ k => st5 _ k) ?_
  refine Go.st (f' := (mkF m 28 #[rv a1, rv sb, .val .null, rv t2, iv c2] [(.ref a1)])) (fun _ k => XS.aloadN X5.here hx rfl (hb hby d21_27) rfl rfl k) ?_
  refine Go.st (f' := (mkF m 29 #[rv a1, rv sb, .val .null, rv t2, iv c2] [(.ref t2), (.ref a1)])) (fun _ k => XS.aloadN X5.here hx rfl (hb hby d21_28) rfl rfl k) ?_
  refine Go.st (f' := (mkF m 30 #[rv a1, rv sb, .val .null, rv t2, iv c2] [(.int 0), (.ref t2), (.ref a1)])) (fun _ k => XS.iconst X5.here hx rfl (hb hby d21_29) k) ?_
  refine Go.st (f' := (mkF m 32 #[rv a1, rv sb, .val .null, rv t2, iv c2] [(.int c2), (.int 0), (.ref t2), (.ref a1)])) (fun _ k => XS.iload X5.here hx rfl (hb hby d21_30) rfl k) ?_
  have ft7 := (V_t2.other W5 (Ne.symm ne2))
  obtain ⟨_, _, ⟨T6, L6, kk6, nn6⟩, -, X6, ⟨Lc6, hQ6, lq6, yq6, zz6⟩, st6⟩ := Jvm.LawKit.callS X5 hx (y := (⟨"java/util/Arrays", "copyOfRange", "([BII)[B"⟩ : MethodName)) hown (mvT hZ (ww hw 156 rfl)) (mvT hZ (ww hw 157 rfl)) (mvT hZ (ww hw 158 rfl)) (mvT hZ (ww hw 159 rfl)) (by decide) (own_back (W := 1) (arc l Z a0 hw [] t2 k2 c2 xs w_ERROR w_WARNING i_COMPACT_STRINGS v_SIOOBE_FORMATTER h5 n0 O5 lc hlt hcap ft7 WW) hZ (ww hw 159 rfl) (ww hw 158 rfl) (by decide) (by decide)) (g := (mkF m 32 #[rv a1, rv sb, .val .null, rv t2, iv c2] [(.int c2), (.int 0), (.ref t2), (.ref a1)])) rfl (by rw [hml]; rfl) (argsL := [(.ref t2), (.int (0 : Int32)), (.int c2)]) (rest := [(.ref a1)]) (lenOf pd___BII__B rfl) rfl (by show 2 * 0 + _ ≤ _; exact Nat.le_of_eq rfl) (hb hby d21_32) (fun _ _ => ⟨rfl, e5, (by decide : 0 + 1 ≤ _), (by decide : 0 + 6 ≤ _)⟩)
  dsimp only [Pt.U, Pt.locs, Pt.cells, Pt.slots] at X6 lq6 yq6 zz6 st6 hQ6
  subst lq6 yq6 zz6
  obtain ⟨b6, kb6, rfl, Nq6, zq6, kq6, vq6⟩ := hQ6
  have N6 := Fr.app N5 Nq6
  have ft8 := (Nat.lt_of_lt_of_eq lt_a1 W5.size.symm)
  have ne_a1_b6 : a1 ≠ b6 := Nat.ne_of_lt (Nat.lt_of_lt_of_le ft8 zq6)
  have ft9 := (Nat.lt_of_lt_of_eq lt_sb W5.size.symm)
  have ne_sb_b6 : sb ≠ b6 := Nat.ne_of_lt (Nat.lt_of_lt_of_le ft9 zq6)
  have ft10 := (Nat.lt_of_lt_of_eq lt_t2 W5.size.symm)
  have ne_t2_b6 : t2 ≠ b6 := Nat.ne_of_lt (Nat.lt_of_lt_of_le ft10 zq6)
  have ne_w_ERROR_b6 : w_ERROR ≠ b6 := Nat.ne_of_lt (Nat.lt_of_lt_of_le lt_w_ERROR (Nat.le_trans O5.2.1 zq6))
  have ne_w_WARNING_b6 : w_WARNING ≠ b6 := Nat.ne_of_lt (Nat.lt_of_lt_of_le lt_w_WARNING (Nat.le_trans O5.2.1 zq6))
  have g_b6 : n0 ≤ b6 := Nat.le_trans (O5.1 ▸ O5.2.1) zq6
  have sz_b6 : h0.size ≤ b6 := Nat.le_trans K5.1 zq6
  have O6 : Old Z n0 T6.heap := O5.keep kq6 all0
  have K6 : Keep h0 T6.heap [a1] := K5.trans kq6 all0
  have lt_b6 := vq6.lt
  refine Go.st (f' := (mkF m 35 #[rv a1, rv sb, .val .null, rv t2, iv c2] [(.ref b6), (.ref a1)])) (fun _ k => st6 _ k) ?_
  have ft11 := ((E_a1.wr W5).keep kq6)
  have ft12 := ((F_a1_value.other W5 (Or.inr (slot_ne (Or.inr (ww hw 23 rfl)) (Or.inr (ww hw 24 rfl)) (by decide) (t := (.array .byte)) (t' := .byte) (by decide) (by decide)))).keep kq6 nin0)
  obtain ⟨T13, h13, X13, e13, W13, st13⟩ := putF X6 hx hZ hown (host := "") (Or.inl (ww hw 27 rfl)) Via.refl rfl ft12 ft11 (Or.inr ⟨(ww hw 23 rfl), rfl, hnm⟩) (ww hw 8 rfl) (ty := (.array .byte)) (by decide) rfl rfl (g := (mkF m 35 #[rv a1, rv sb, .val .null, rv t2, iv c2] [(.ref b6), (.ref a1)])) rfl rfl (hb hby d21_35)
  have N13 := Fr.snoc X13 N6 g_a1
  have O13 : Old Z n0 h13 := O6.wr W13 g_a1
  have K13 : Keep h0 h13 [a1] := K6.wr W13 (Or.inl (List.mem_of_getElem? (i := 0) rfl))
  have Fw13 := ft12.same W13
  refine Go.st (f' := (mkF m 38 #[rv a1, rv sb, .val .null, rv t2, iv c2] [])) (fun _ k => st13 _ k) ?_
  refine Go.st (f' := (mkF m 97 #[rv a1, rv sb, .val .null, rv t2, iv c2] [])) (fun _ k => XS.goto X13.here hx rfl (pc0 := 38) (pc' := 97) rfl (hb hby d21_38) (by decide) (by decide) k) ?_
  refine Go.ret0 X13 hlk hx hret (hb hby d21_97) e13 ?_ (by decide) (by decide)
  have ft14 := (ft11.wr W13)
  have ft15 := ((Fw5.keep kq6 nin0).other W13 (Or.inr (slot_ne (Or.inr (ww hw 24 rfl)) (Or.inr (ww hw 23 rfl)) (by decide) (t := .byte) (t' := (.array .byte)) (by decide) (by decide))))
  have ft16 := (vq6.other W13 (Ne.symm ne_a1_b6))
  exact ⟨rfl, N13, K13, ft14, ft15, b6, kb6, sz_b6, Fw13, ft16⟩
theorem d20_0 : decode jdk_42_method_53_code 0 = .ok (.aload_n 0, 1) := by decide +kernel
theorem d20_1 : decode jdk_42_method_53_code 1 = .ok (.aload_n 1, 1) := by decide +kernel
theorem d20_2 : decode jdk_42_method_53_code 2 = .ok (.aconst_null, 1) := by decide +kernel
theorem d20_3 : decode jdk_42_method_53_code 3 = .ok (.invokespecial 489, 3) := by decide +kernel
theorem pd__Ljava_lang_AbstractStringBuilder_Ljava_lang_Void__V : parseMethodDescriptor "(Ljava/lang/AbstractStringBuilder;Ljava/lang/Void;)V" = some ⟨[(.object "java/lang/AbstractStringBuilder"), (.object "java/lang/Void")], none⟩ := by decide +kernel
theorem d20_6 : decode jdk_42_method_53_code 6 = .ok (.return_, 1) := by decide +kernel
set_option maxRecDepth 65536 in
set_option maxHeartbeats 40000000 in
theorem sts2 (l : Launch) (Z : State) (a0 : Array Value) (hw : ∀ d ∈ tables_1, d.before a0 Z = true) (ws : List Jvm.Cond) (a1 : Addr) (sb : Addr) (t2 : Addr) (k2 : ClassId) (c2 : Int32) (xs : List Value) (w_ERROR : Addr) (w_WARNING : Addr) (i_COMPACT_STRINGS : Int32) (v_SIOOBE_FORMATTER : Value) (h0 : Heap) (n0 : Nat) (O0 : Old Z n0 h0) (lc : Ln c2 xs) (hlt : c2 < (16 : Int32)) (hcap : xs.length ≤ 6) (g_a1 : n0 ≤ a1) (ne1 : a1 ≠ sb) (ne2 : a1 ≠ t2) (E_a1 : Exa Z h0 a1 "java/lang/String") (F_a1_coder : Fld Z h0 a1 "java/lang/String" "coder" "B" (.int 0)) (F_a1_value : Fld Z h0 a1 "java/lang/String" "value" "[B" .null) (E_sb : Exa Z h0 sb "java/lang/StringBuilder") (F_sb_coder : Fld Z h0 sb "java/lang/AbstractStringBuilder" "coder" "B" (.int 0)) (F_sb_value : Fld Z h0 sb "java/lang/AbstractStringBuilder" "value" "[B" (.ref t2)) (F_sb_count : Fld Z h0 sb "java/lang/AbstractStringBuilder" "count" "I" (.int c2)) (V_t2 : Arv Z h0 t2 k2 .byte (16 : Int32) xs (.int 0)) (WW : World1 Z w_ERROR w_WARNING i_COMPACT_STRINGS v_SIOOBE_FORMATTER) :
    Con l Z (⟨"java/lang/String", "<init>", "(Ljava/lang/StringBuilder;)V"⟩ : MethodName) jdk_42_method_53_code 2 none ws ({ frames := 4, cells := 1, slots := 6, locals := 67 } : Room) #[(.ref a1), (.ref sb)] h0 (fun v h L => v = none ∧ Fr n0 L ∧ Keep h0 h [a1] ∧ Exa Z h a1 "java/lang/String" ∧ Fld Z h a1 "java/lang/String" "coder" "B" (.int 0) ∧ ∃ (t : Addr) (kt : ClassId), h0.size ≤ t ∧ Fld Z h a1 "java/lang/String" "value" "[B" (.ref t) ∧ Arv Z h t kt .byte c2 xs (.int 0)) := by
  refine own_body (plainFor_of_name pn_java_lang_String) ?_
  intro p e s m below meth c s₁ hx hby hml hZ hown hnm hlk hret X0 e0
  have N0 := Fr.nil n0
  have K0 : Keep h0 h0 [a1] := Keep.refl _ _
  refine Go.st (T' := s₁) (f' := (mkF m 0 #[rv a1, rv sb] [])) (fun _ k => castTop (by first | (simp [entryFrame, mkF, argsToLocals, Value.category]; done) | rfl) k) ?_
  have ⟨S_i_COMPACT_STRINGS, nz_i_COMPACT_STRINGS, S_v_SIOOBE_FORMATTER, r_v_SIOOBE_FORMATTER, S_w_ERROR, E_w_ERROR, S_w_WARNING, E_w_WARNING⟩ := WW
  have lt_w_ERROR := E_w_ERROR.lt
  have lt_w_WARNING := E_w_WARNING.lt
  have lt_a1 := E_a1.lt
  have ne_w_ERROR_a1 : w_ERROR ≠ a1 := O0.ne lt_w_ERROR g_a1
  have ne_w_WARNING_a1 : w_WARNING ≠ a1 := O0.ne lt_w_WARNING g_a1
  have lt_sb := E_sb.lt
  have lt_t2 := V_t2.lt
  refine Go.st (f' := (mkF m 1 #[rv a1, rv sb] [(.ref a1)])) (fun _ k => XS.aloadN X0.here hx rfl (hb hby d20_0) rfl rfl k) ?_
  refine Go.st (f' := (mkF m 2 #[rv a1, rv sb] [(.ref sb), (.ref a1)])) (fun _ k => XS.aloadN X0.here hx rfl (hb hby d20_1) rfl rfl k) ?_
  refine Go.st (f' := (mkF m 3 #[rv a1, rv sb] [.null, (.ref sb), (.ref a1)])) (fun _ k => XS.aconstNull X0.here hx rfl (hb hby d20_2) k) ?_
  obtain ⟨_, _, ⟨T1, L1, kk1, nn1⟩, -, X1, ⟨Lc1, hQ1, lq1, yq1, zz1⟩, st1⟩ := X0.specialBack hx (y := (⟨"java/lang/String", "<init>", "(Ljava/lang/AbstractStringBuilder;Ljava/lang/Void;)V"⟩ : MethodName)) rfl hown (mvT hZ (ww hw 135 rfl)) (mvT hZ (ww hw 136 rfl)) (mvT hZ (ww hw 137 rfl)) (by decide) (own_back (W := 0) (sts1 l Z a0 hw [] a1 sb t2 k2 c2 xs w_ERROR w_WARNING i_COMPACT_STRINGS v_SIOOBE_FORMATTER h0 n0 O0 lc hlt hcap g_a1 ne1 ne2 E_a1 F_a1_coder F_a1_value E_sb F_sb_coder F_sb_value F_sb_count V_t2 WW) hZ (ww hw 137 rfl) (ww hw 9 rfl) (by decide) (by decide)) (g := (mkF m 3 #[rv a1, rv sb] [.null, (.ref sb), (.ref a1)])) rfl (by rw [hml]; rfl) (Steps.refl _) (a := a1) (argsL := [(.ref sb), .null]) (rest := []) (lenOf pd__Ljava_lang_AbstractStringBuilder_Ljava_lang_Void__V rfl) rfl (by show 2 * 0 + _ ≤ _; exact Nat.le_of_eq rfl) (hb hby d20_3) (fun _ _ => ⟨rfl, e0, (by decide : 0 + 1 ≤ _), (by decide : 0 + 6 ≤ _)⟩)
  dsimp only [Pt.U, Pt.locs, Pt.cells, Pt.slots] at X1 lq1 yq1 zz1 st1 hQ1
  subst lq1 yq1 zz1
  obtain ⟨rfl, Nq1, kq1, eq1, cq1, tt1, kt1, zq1, fq1, vq1⟩ := hQ1
  have N1 := Fr.app N0 Nq1
  have ne_a1_tt1 : a1 ≠ tt1 := Nat.ne_of_lt (Nat.lt_of_lt_of_le lt_a1 zq1)
  have ne_sb_tt1 : sb ≠ tt1 := Nat.ne_of_lt (Nat.lt_of_lt_of_le lt_sb zq1)
  have ne_t2_tt1 : t2 ≠ tt1 := Nat.ne_of_lt (Nat.lt_of_lt_of_le lt_t2 zq1)
  have ne_w_ERROR_tt1 : w_ERROR ≠ tt1 := Nat.ne_of_lt (Nat.lt_of_lt_of_le lt_w_ERROR (Nat.le_trans O0.2.1 zq1))
  have ne_w_WARNING_tt1 : w_WARNING ≠ tt1 := Nat.ne_of_lt (Nat.lt_of_lt_of_le lt_w_WARNING (Nat.le_trans O0.2.1 zq1))
  have g_tt1 : n0 ≤ tt1 := Nat.le_trans (O0.1 ▸ O0.2.1) zq1
  have sz_tt1 : h0.size ≤ tt1 := Nat.le_trans K0.1 zq1
  have O1 : Old Z n0 T1.heap := O0.keep kq1 (allS g_a1 all0)
  have K1 : Keep h0 T1.heap [a1] := K0.trans kq1 (allS (Or.inl (List.mem_of_getElem? (i := 0) rfl)) all0)
  have lt_a1 := eq1.lt
  have lt_tt1 := vq1.lt
  refine Go.tr (f' := (mkF m 6 #[rv a1, rv sb] [])) st1 ?_
  refine Go.ret0 X1 hlk hx hret (hb hby d20_6) rfl ?_ (by decide) (by decide)
  exact ⟨rfl, N1, K1, eq1, cq1, tt1, kt1, sz_tt1, fq1, vq1⟩
theorem d19_0 : decode jdk_67_method_42_code 0 = .ok (.new 18, 3) := by decide +kernel
theorem d19_3 : decode jdk_67_method_42_code 3 = .ok (.dup, 1) := by decide +kernel
theorem d19_4 : decode jdk_67_method_42_code 4 = .ok (.aload_n 0, 1) := by decide +kernel
theorem d19_5 : decode jdk_67_method_42_code 5 = .ok (.invokespecial 137, 3) := by decide +kernel
theorem pd__Ljava_lang_StringBuilder__V : parseMethodDescriptor "(Ljava/lang/StringBuilder;)V" = some ⟨[(.object "java/lang/StringBuilder")], none⟩ := by decide +kernel
theorem d19_8 : decode jdk_67_method_42_code 8 = .ok (.areturn, 1) := by decide +kernel
set_option maxRecDepth 65536 in
set_option maxHeartbeats 40000000 in
theorem sts3 (l : Launch) (Z : State) (a0 : Array Value) (hw : ∀ d ∈ tables_1, d.before a0 Z = true) (ws : List Jvm.Cond) (sb : Addr) (t2 : Addr) (k2 : ClassId) (c2 : Int32) (xs : List Value) (w_ERROR : Addr) (w_WARNING : Addr) (i_COMPACT_STRINGS : Int32) (v_SIOOBE_FORMATTER : Value) (h0 : Heap) (n0 : Nat) (O0 : Old Z n0 h0) (lc : Ln c2 xs) (hlt : c2 < (16 : Int32)) (hcap : xs.length ≤ 6) (E_sb : Exa Z h0 sb "java/lang/StringBuilder") (F_sb_coder : Fld Z h0 sb "java/lang/AbstractStringBuilder" "coder" "B" (.int 0)) (F_sb_value : Fld Z h0 sb "java/lang/AbstractStringBuilder" "value" "[B" (.ref t2)) (F_sb_count : Fld Z h0 sb "java/lang/AbstractStringBuilder" "count" "I" (.int c2)) (V_t2 : Arv Z h0 t2 k2 .byte (16 : Int32) xs (.int 0)) (WW : World1 Z w_ERROR w_WARNING i_COMPACT_STRINGS v_SIOOBE_FORMATTER) :
    Con l Z (⟨"java/lang/StringBuilder", "toString", "()Ljava/lang/String;"⟩ : MethodName) jdk_67_method_42_code 1 (some (.object "java/lang/String")) ws ({ frames := 5, cells := 2, slots := 10, locals := 81 } : Room) #[(.ref sb)] h0 (fun v h L => ∃ b : Addr, v = some (.ref b) ∧ Fr n0 L ∧ h0.size ≤ b ∧ Keep h0 h [] ∧ Exa Z h b "java/lang/String" ∧ Fld Z h b "java/lang/String" "coder" "B" (.int 0) ∧ ∃ (t : Addr) (kt : ClassId), h0.size ≤ t ∧ Fld Z h b "java/lang/String" "value" "[B" (.ref t) ∧ Arv Z h t kt .byte c2 xs (.int 0)) := by
  refine own_body (plainFor_of_name pn_java_lang_StringBuilder) ?_
  intro p e s m below meth c s₁ hx hby hml hZ hown hnm hlk hret X0 e0
  have N0 := Fr.nil n0
  have K0 : Keep h0 h0 [] := Keep.refl _ _
  refine Go.st (T' := s₁) (f' := (mkF m 0 #[rv sb] [])) (fun _ k => castTop (by first | (simp [entryFrame, mkF, argsToLocals, Value.category]; done) | rfl) k) ?_
  have ⟨S_i_COMPACT_STRINGS, nz_i_COMPACT_STRINGS, S_v_SIOOBE_FORMATTER, r_v_SIOOBE_FORMATTER, S_w_ERROR, E_w_ERROR, S_w_WARNING, E_w_WARNING⟩ := WW
  have lt_w_ERROR := E_w_ERROR.lt
  have lt_w_WARNING := E_w_WARNING.lt
  have lt_sb := E_sb.lt
  have lt_t2 := V_t2.lt
  obtain ⟨T1, h1, X1, e1, E1, A1, D1, -, st1⟩ := newO X0 hx hZ hown (ww hw 131 rfl) (ww hw 8 rfl) (ww hw 9 rfl) e0 (g := (mkF m 0 #[rv sb] [])) rfl (hb hby d19_0) (by decide) (by decide)
  obtain ⟨b1, g1⟩ : ∃ z, z = h0.size := ⟨_, rfl⟩
  rw [← g1] at A1 D1 st1
  have ne_sb_b1 : sb ≠ b1 := Nat.ne_of_lt (Nat.lt_of_lt_of_eq lt_sb g1.symm)
  have ne_t2_b1 : t2 ≠ b1 := Nat.ne_of_lt (Nat.lt_of_lt_of_eq lt_t2 g1.symm)
  have ne_w_ERROR_b1 : w_ERROR ≠ b1 := Nat.ne_of_lt (Nat.lt_of_lt_of_le lt_w_ERROR (Nat.le_trans O0.2.1 (Nat.le_of_eq g1.symm)))
  have ne_w_WARNING_b1 : w_WARNING ≠ b1 := Nat.ne_of_lt (Nat.lt_of_lt_of_le lt_w_WARNING (Nat.le_trans O0.2.1 (Nat.le_of_eq g1.symm)))
  have g_b1 : n0 ≤ b1 := Nat.le_trans (O0.1 ▸ O0.2.1) (Nat.le_of_eq g1.symm)
  have O1 : Old Z n0 h1 := O0.ext E1
  have sz_b1 : h0.size ≤ b1 := Nat.le_trans K0.1 (Nat.le_of_eq g1.symm)
  have K1 : Keep h0 h1 [] := K0.ext E1
  have lt_b1 := A1.lt
  have F_value_b1 : Fld Z h1 b1 "java/lang/String" "value" "[B" .null := D1 (Or.inr (ww hw 23 rfl)) (ty := (.array .byte)) (by decide)
  have F_coder_b1 : Fld Z h1 b1 "java/lang/String" "coder" "B" (.int (0 : Int32)) := D1 (Or.inr (ww hw 24 rfl)) (ty := .byte) (by decide)
  refine Go.st (f' := (mkF m 3 #[rv sb] [(.ref b1)])) (fun _ k => st1 _ k) ?_
  refine Go.st (f' := (mkF m 4 #[rv sb] [(.ref b1), (.ref b1)])) (fun _ k => XS.dup X1.here hx rfl (hb hby d19_3) rfl rfl k) ?_
  refine Go.st (f' := (mkF m 5 #[rv sb] [(.ref sb), (.ref b1), (.ref b1)])) (fun _ k => XS.aloadN X1.here hx rfl (hb hby d19_4) rfl rfl k) ?_
  have ft3 := (E_sb.ext E1)
  have ft4 := (F_sb_coder.ext E1)
  have ft5 := (F_sb_value.ext E1)
  have ft6 := (F_sb_count.ext E1)
  have ft7 := (V_t2.ext E1)
  obtain ⟨_, _, ⟨T2, L2, kk2, nn2⟩, -, X2, ⟨Lc2, hQ2, lq2, yq2, zz2⟩, st2⟩ := X1.specialBack hx (y := (⟨"java/lang/String", "<init>", "(Ljava/lang/StringBuilder;)V"⟩ : MethodName)) rfl hown (mvT hZ (ww hw 132 rfl)) (mvT hZ (ww hw 133 rfl)) (mvT hZ (ww hw 134 rfl)) (by decide) (own_back (W := 1) (sts2 l Z a0 hw [] b1 sb t2 k2 c2 xs w_ERROR w_WARNING i_COMPACT_STRINGS v_SIOOBE_FORMATTER h1 n0 O1 lc hlt hcap g_b1 (Ne.symm ne_sb_b1) (Ne.symm ne_t2_b1) A1 F_coder_b1 F_value_b1 ft3 ft4 ft5 ft6 ft7 WW) hZ (ww hw 134 rfl) (ww hw 9 rfl) (by decide) (by decide)) (g := (mkF m 5 #[rv sb] [(.ref sb), (.ref b1), (.ref b1)])) rfl (by rw [hml]; rfl) (Steps.refl _) (a := b1) (argsL := [(.ref sb)]) (rest := [(.ref b1)]) (lenOf pd__Ljava_lang_StringBuilder__V rfl) rfl (by show 2 * 0 + _ ≤ _; exact Nat.le_of_eq rfl) (hb hby d19_5) (fun _ _ => ⟨rfl, e1, (by decide : 1 + 1 ≤ _), (by decide : 4 + 6 ≤ _)⟩)
  dsimp only [Pt.U, Pt.locs, Pt.cells, Pt.slots] at X2 lq2 yq2 zz2 st2 hQ2
  subst lq2 yq2 zz2
  obtain ⟨rfl, Nq2, kq2, eq2, cq2, tt2, kt2, zq2, fq2, vq2⟩ := hQ2
  have N2 := Fr.app N0 Nq2
  have ft8 := (Nat.lt_of_lt_of_le lt_sb E1.1)
  have ne_sb_tt2 : sb ≠ tt2 := Nat.ne_of_lt (Nat.lt_of_lt_of_le ft8 zq2)
  have ft9 := (Nat.lt_of_lt_of_le lt_t2 E1.1)
  have ne_t2_tt2 : t2 ≠ tt2 := Nat.ne_of_lt (Nat.lt_of_lt_of_le ft9 zq2)
  have ne_b1_tt2 : b1 ≠ tt2 := Nat.ne_of_lt (Nat.lt_of_lt_of_le lt_b1 zq2)
  have ne_w_ERROR_tt2 : w_ERROR ≠ tt2 := Nat.ne_of_lt (Nat.lt_of_lt_of_le lt_w_ERROR (Nat.le_trans O1.2.1 zq2))
  have ne_w_WARNING_tt2 : w_WARNING ≠ tt2 := Nat.ne_of_lt (Nat.lt_of_lt_of_le lt_w_WARNING (Nat.le_trans O1.2.1 zq2))
  have g_tt2 : n0 ≤ tt2 := Nat.le_trans (O1.1 ▸ O1.2.1) zq2
  have sz_tt2 : h0.size ≤ tt2 := Nat.le_trans K1.1 zq2
  have O2 : Old Z n0 T2.heap := O1.keep kq2 (allS g_b1 all0)
  have K2 : Keep h0 T2.heap [] := K1.trans kq2 (allS (Or.inr sz_b1) all0)
  have lt_b1 := eq2.lt
  have lt_tt2 := vq2.lt
  refine Go.tr (f' := (mkF m 8 #[rv sb] [(.ref b1)])) st2 ?_
  refine Go.retV X2 hlk hx (t := (.object "java/lang/String")) hret rfl (Or.inr (Or.inr (Or.inr (Or.inr ⟨rfl, rfl, rfl⟩)))) (hb hby d19_8) rfl ?_ (by decide) (by decide)
  exact ⟨b1, rfl, N2, sz_b1, K2, eq2, cq2, tt2, kt2, sz_tt2, fq2, vq2⟩
theorem own_nc2 {c : Int32} (h : ¬ (255 : Int32) < c ∧ 0 ≤ c.toInt) : ¬ (255 : Int32) < nar .char (c.toUInt32.toUInt16.toUInt32.toInt32) := by
  have q := c_i2c c
  show ¬ (255 : Int32) < (c.toUInt32.toUInt16.toUInt32.toInt32).toUInt32.toUInt16.toUInt32.toInt32
  have e : (255 : Int32).toInt = 255 := by decide
  have h1 := h.1
  have h2 := h.2
  generalize c.toUInt32.toUInt16.toUInt32.toInt32 = d at *
  have q2 := c_i2c d
  rw [Int32.lt_iff_toInt_lt] at h1 ⊢
  omega
theorem own_255 (x : Int32) : ¬ (255 : Int32) < (x &&& (255 : Int32)) ∧ 0 ≤ (x &&& (255 : Int32)).toInt := by
  have h := c_and x 255 (by decide)
  refine ⟨?_, h.1⟩
  rw [Int32.lt_iff_toInt_lt]
  omega
theorem ints0 : Ints [] := fun _ h => nomatch h
theorem intsS {x : Int32} {es : List Value} (h : Ints es) : Ints (.int x :: es) := fun v q => (List.mem_cons.mp q).elim (fun e => ⟨x, e⟩) (h v)
theorem intsA {es fs : List Value} (h : Ints es) (g : Ints fs) : Ints (es ++ fs) := fun v q => (List.mem_append.mp q).elim (h v) (g v)
theorem pn_com_example_hearsay_rules_hearsayrules_ProblemTextPinLaw : plainName "com/example/hearsay_rules/hearsayrules/ProblemTextPinLaw" = true := by first | (simp [plainName, overriddenIn]; done) | decide +kernel
theorem d1_0 : decode method_3_code 0 = .ok (.iload_n 0, 1) := by decide +kernel
theorem d1_1 : decode method_3_code 1 = .ok (.ifCond .ne 14, 3) := by decide +kernel
theorem d1_4 : decode method_3_code 4 = .ok (.new 32, 3) := by decide +kernel
theorem d1_7 : decode method_3_code 7 = .ok (.dup, 1) := by decide +kernel
theorem d1_8 : decode method_3_code 8 = .ok (.iconst 0, 1) := by decide +kernel
theorem d1_9 : decode method_3_code 9 = .ok (.newarray .char, 2) := by decide +kernel
theorem d1_11 : decode method_3_code 11 = .ok (.invokespecial 45, 3) := by decide +kernel
theorem pd___C_V : parseMethodDescriptor "([C)V" = some ⟨[(.array .char)], none⟩ := by decide +kernel
theorem d1_14 : decode method_3_code 14 = .ok (.areturn, 1) := by decide +kernel
theorem d1_15 : decode method_3_code 15 = .ok (.iload_n 0, 1) := by decide +kernel
theorem d1_16 : decode method_3_code 16 = .ok (.iconst 1, 1) := by decide +kernel
theorem d1_17 : decode method_3_code 17 = .ok (.if_icmp .ne 21, 3) := by decide +kernel
theorem d1_20 : decode method_3_code 20 = .ok (.iconst 1, 1) := by decide +kernel
theorem d1_21 : decode method_3_code 21 = .ok (.newarray .char, 2) := by decide +kernel
theorem d1_23 : decode method_3_code 23 = .ok (.astore_n 3, 1) := by decide +kernel
theorem d1_24 : decode method_3_code 24 = .ok (.aload_n 3, 1) := by decide +kernel
theorem d1_25 : decode method_3_code 25 = .ok (.iconst 0, 1) := by decide +kernel
theorem d1_26 : decode method_3_code 26 = .ok (.iload_n 1, 1) := by decide +kernel
theorem d1_27 : decode method_3_code 27 = .ok (.i2c, 1) := by decide +kernel
theorem d1_28 : decode method_3_code 28 = .ok (.castore, 1) := by decide +kernel
theorem d1_29 : decode method_3_code 29 = .ok (.new 32, 3) := by decide +kernel
theorem d1_32 : decode method_3_code 32 = .ok (.dup, 1) := by decide +kernel
theorem d1_33 : decode method_3_code 33 = .ok (.aload_n 3, 1) := by decide +kernel
theorem d1_34 : decode method_3_code 34 = .ok (.invokespecial 45, 3) := by decide +kernel
theorem d1_37 : decode method_3_code 37 = .ok (.areturn, 1) := by decide +kernel
theorem d1_38 : decode method_3_code 38 = .ok (.iconst 2, 1) := by decide +kernel
theorem d1_39 : decode method_3_code 39 = .ok (.newarray .char, 2) := by decide +kernel
theorem d1_41 : decode method_3_code 41 = .ok (.astore_n 3, 1) := by decide +kernel
theorem d1_42 : decode method_3_code 42 = .ok (.aload_n 3, 1) := by decide +kernel
theorem d1_43 : decode method_3_code 43 = .ok (.iconst 0, 1) := by decide +kernel
theorem d1_44 : decode method_3_code 44 = .ok (.iload_n 1, 1) := by decide +kernel
theorem d1_45 : decode method_3_code 45 = .ok (.i2c, 1) := by decide +kernel
theorem d1_46 : decode method_3_code 46 = .ok (.castore, 1) := by decide +kernel
theorem d1_47 : decode method_3_code 47 = .ok (.aload_n 3, 1) := by decide +kernel
theorem d1_48 : decode method_3_code 48 = .ok (.iconst 1, 1) := by decide +kernel
theorem d1_49 : decode method_3_code 49 = .ok (.iload_n 2, 1) := by decide +kernel
theorem d1_50 : decode method_3_code 50 = .ok (.i2c, 1) := by decide +kernel
theorem d1_51 : decode method_3_code 51 = .ok (.castore, 1) := by decide +kernel
theorem d1_52 : decode method_3_code 52 = .ok (.new 32, 3) := by decide +kernel
theorem d1_55 : decode method_3_code 55 = .ok (.dup, 1) := by decide +kernel
theorem d1_56 : decode method_3_code 56 = .ok (.aload_n 3, 1) := by decide +kernel
theorem d1_57 : decode method_3_code 57 = .ok (.invokespecial 45, 3) := by decide +kernel
theorem d1_60 : decode method_3_code 60 = .ok (.areturn, 1) := by decide +kernel
set_option maxRecDepth 65536 in
set_option maxHeartbeats 40000000 in
theorem rmM (l : Launch) (Z : State) (a0 : Array Value) (hw : ∀ d ∈ tables_1, d.before a0 Z = true) (ws : List Jvm.Cond) (q1 : Int32) (c0 : Int32) (c1 : Int32) (w_ERROR : Addr) (w_WARNING : Addr) (i_COMPACT_STRINGS : Int32) (v_SIOOBE_FORMATTER : Value) (h0 : Heap) (n0 : Nat) (O0 : Old Z n0 h0) (hc0 : ¬ (255 : Int32) < c0 ∧ 0 ≤ c0.toInt) (hc1 : ¬ (255 : Int32) < c1 ∧ 0 ≤ c1.toInt) (WW : World1 Z w_ERROR w_WARNING i_COMPACT_STRINGS v_SIOOBE_FORMATTER) :
    ConW l Z EL (⟨"com/example/hearsay_rules/hearsayrules/ProblemTextPinLaw", "mk", "(III)Ljava/lang/String;"⟩ : MethodName) method_3_code 4 (some (.object "java/lang/String")) ws ({ frames := 4, cells := 6, slots := 12, locals := 66 } : Room) #[(.int q1), (.int c0), (.int c1)] h0 (fun v h L => ∃ (b t : Addr) (kt : ClassId) (n : Int32) (es : List Value), v = some (.ref b) ∧ Fr n0 L ∧ h0.size ≤ b ∧ Keep h0 h [] ∧ Exa Z h b "java/lang/String" ∧ Fld Z h b "java/lang/String" "coder" "B" (.int 0) ∧ Fld Z h b "java/lang/String" "value" "[B" (.ref t) ∧ Arv Z h t kt .byte n es (.int 0) ∧ Ln n es ∧ es.length ≤ 2 ∧ Ints es) := by
  refine own_bodyW (plainFor_of_name pn_com_example_hearsay_rules_hearsayrules_ProblemTextPinLaw) ?_
  intro p e s m below meth c s₁ hx hby hml hZ hown hnm hlk hret X0 e0 hh hS CR0
  have hEL := own_EL hw
  have wS := own_wS hw
  have N0 := Fr.nil n0
  have K0 : Keep h0 h0 [] := Keep.refl _ _
  refine Go.st (T' := s₁) (f' := (mkF m 0 #[iv q1, iv c0, iv c1, .unset] [])) (fun _ k => castTop (by first | (simp [entryFrame, mkF, argsToLocals, Value.category]; done) | rfl) k) ?_
  have ⟨S_i_COMPACT_STRINGS, nz_i_COMPACT_STRINGS, S_v_SIOOBE_FORMATTER, r_v_SIOOBE_FORMATTER, S_w_ERROR, E_w_ERROR, S_w_WARNING, E_w_WARNING⟩ := WW
  have lt_w_ERROR := E_w_ERROR.lt
  have lt_w_WARNING := E_w_WARNING.lt
  refine Go.st (f' := (mkF m 1 #[iv q1, iv c0, iv c1, .unset] [(.int q1)])) (fun _ k => XS.iloadN X0.here hx rfl (hb hby d1_0) rfl k) ?_
  by_cases cd1 : q1 = (0 : Int32)
  · refine Go.st (f' := (mkF m 4 #[iv q1, iv c0, iv c1, .unset] [])) (fun _ k => XS.ifNo X0.here hx rfl (hb hby d1_1) rfl ((if0 _ _).trans (teq cd1).2) k) ?_
    obtain ⟨T2, h2, X2, e2, E2, A2, D2, -, st2⟩ := newO X0 hx hZ hown (ww hw 7 rfl) (ww hw 8 rfl) (ww hw 9 rfl) e0 (g := (mkF m 4 #[iv q1, iv c0, iv c1, .unset] [])) rfl (hb hby d1_4) (by decide) (by decide)
    obtain ⟨b2, g2⟩ : ∃ z, z = h0.size := ⟨_, rfl⟩
    rw [← g2] at A2 D2 st2
    have ne_w_ERROR_b2 : w_ERROR ≠ b2 := Nat.ne_of_lt (Nat.lt_of_lt_of_le lt_w_ERROR (Nat.le_trans O0.2.1 (Nat.le_of_eq g2.symm)))
    have ne_w_WARNING_b2 : w_WARNING ≠ b2 := Nat.ne_of_lt (Nat.lt_of_lt_of_le lt_w_WARNING (Nat.le_trans O0.2.1 (Nat.le_of_eq g2.symm)))
    have g_b2 : n0 ≤ b2 := Nat.le_trans (O0.1 ▸ O0.2.1) (Nat.le_of_eq g2.symm)
    have O2 : Old Z n0 h2 := O0.ext E2
    have sz_b2 : h0.size ≤ b2 := Nat.le_trans K0.1 (Nat.le_of_eq g2.symm)
    have K2 : Keep h0 h2 [] := K0.ext E2
    have CR2 : CHr Z EL s.vm h0 s.vm h2 := CR0.trans (CHr.ext E2 CR0.1)
    have sf_b2 : Safe Z EL s.vm h2 b2 := (Safe.new (Nat.le_of_eq g2.symm)).ext E2 CR0.1
    have lt_b2 := A2.lt
    have F_value_b2 : Fld Z h2 b2 "java/lang/String" "value" "[B" .null := D2 (Or.inr (ww hw 23 rfl)) (ty := (.array .byte)) (by decide)
    have F_coder_b2 : Fld Z h2 b2 "java/lang/String" "coder" "B" (.int (0 : Int32)) := D2 (Or.inr (ww hw 24 rfl)) (ty := .byte) (by decide)
    refine Go.st (f' := (mkF m 7 #[iv q1, iv c0, iv c1, .unset] [(.ref b2)])) (fun _ k => st2 _ k) ?_
    refine Go.st (f' := (mkF m 8 #[iv q1, iv c0, iv c1, .unset] [(.ref b2), (.ref b2)])) (fun _ k => XS.dup X2.here hx rfl (hb hby d1_7) rfl rfl k) ?_
    refine Go.st (f' := (mkF m 9 #[iv q1, iv c0, iv c1, .unset] [(.int 0), (.ref b2), (.ref b2)])) (fun _ k => XS.iconst X2.here hx rfl (hb hby d1_8) k) ?_
    obtain ⟨T3, h3, kc3, X3, e3, E3, A3, st3⟩ := newP X2 hx hZ (ww hw 10 rfl) e2 (g := (mkF m 9 #[iv q1, iv c0, iv c1, .unset] [(.int 0), (.ref b2), (.ref b2)])) rfl (hb hby d1_9) rfl (by decide) (cap := 0) (by decide) (by decide) (by decide) (by decide)
    obtain ⟨b3, g3⟩ : ∃ z, z = h2.size := ⟨_, rfl⟩
    rw [← g3] at A3 st3
    have ne_b2_b3 : b2 ≠ b3 := Nat.ne_of_lt (Nat.lt_of_lt_of_eq lt_b2 g3.symm)
    have ne_w_ERROR_b3 : w_ERROR ≠ b3 := Nat.ne_of_lt (Nat.lt_of_lt_of_le lt_w_ERROR (Nat.le_trans O2.2.1 (Nat.le_of_eq g3.symm)))
    have ne_w_WARNING_b3 : w_WARNING ≠ b3 := Nat.ne_of_lt (Nat.lt_of_lt_of_le lt_w_WARNING (Nat.le_trans O2.2.1 (Nat.le_of_eq g3.symm)))
    have g_b3 : n0 ≤ b3 := Nat.le_trans (O2.1 ▸ O2.2.1) (Nat.le_of_eq g3.symm)
    have O3 : Old Z n0 h3 := O2.ext E3
    have sz_b3 : h0.size ≤ b3 := Nat.le_trans K2.1 (Nat.le_of_eq g3.symm)
    have K3 : Keep h0 h3 [] := K2.ext E3
    have CR3 : CHr Z EL s.vm h0 s.vm h3 := CR2.trans (CHr.ext E3 CR2.1)
    have sf_b3 : Safe Z EL s.vm h3 b3 := (Safe.new (Nat.le_of_eq g3.symm)).ext E3 CR2.1
    have V_b3 : Arv Z h3 b3 kc3 .char (0 : Int32) [] (.int (0 : Int32)) := Arv.new A3 (by decide)
    have lt_b3 := V_b3.lt
    refine Go.st (f' := (mkF m 11 #[iv q1, iv c0, iv c1, .unset] [(.ref b3), (.ref b2), (.ref b2)])) (fun _ k => st3 _ k) ?_
    have ft5 := (A2.ext E3)
    have ft6 := (F_coder_b2.ext E3)
    have ft7 := (F_value_b2.ext E3)
    obtain ⟨_, _, ⟨T4, L4, kk4, nn4⟩, -, Xw4, hSw4, hgw4, ⟨Lc4, hQ4, lq4, yq4, zz4, crw4⟩, st4⟩ := X3.specialBackS hx (y := (⟨"java/lang/String", "<init>", "([C)V"⟩ : MethodName)) rfl hown (mvT hZ (ww hw 11 rfl)) (mvT hZ (ww hw 12 rfl)) (mvT hZ (ww hw 13 rfl)) (by decide) (own_backW (W := 1) (s1_0 l Z a0 hw [] b2 b3 kc3 w_ERROR w_WARNING i_COMPACT_STRINGS v_SIOOBE_FORMATTER h3 n0 O3 g_b2 ft5 ft6 ft7 V_b3 WW) hZ (ww hw 13 rfl) (ww hw 9 rfl) (by decide) (by decide) hEL CR3.1) (g := (mkF m 11 #[iv q1, iv c0, iv c1, .unset] [(.ref b3), (.ref b2), (.ref b2)])) rfl (by rw [hml]; rfl) (Steps.refl _) (a := b2) (argsL := [(.ref b3)]) (rest := [(.ref b2)]) (lenOf pd___C_V rfl) rfl (by show 2 * 0 + _ ≤ _; exact Nat.le_of_eq rfl) (hb hby d1_11) (fun _ _ => ⟨rfl, e3, (by decide : 2 + 4 ≤ _), (by decide : 4 + 8 ≤ _)⟩)
    dsimp only [Pt.U, Pt.locs, Pt.cells, Pt.slots] at Xw4 lq4 yq4 zz4 st4 hQ4 hSw4 hgw4 crw4
    subst lq4 yq4 zz4
    obtain ⟨X4, hS4, hZ4, hown4⟩ := rebS hS (by rw [e3]; exact (Nat.zero_le _)) Xw4 hSw4 hgw4 hZ hown
    obtain ⟨rfl, Nq4, kq4, eq4, cq4, tt4, kt4, fq4, vq4⟩ := hQ4
    have N4 := Fr.app N0 Nq4
    have ft8 := (Safe.ext E3 CR2.1 sf_b2)
    have ft9 := (Nat.lt_of_lt_of_le lt_b2 E3.1)
    have O4 : Old Z n0 T4.heap := O3.keep kq4 (allS g_b2 all0)
    have K4 : Keep h0 T4.heap [] := K3.trans kq4 (allS (Or.inr sz_b2) all0)
    have lt_tt4 := vq4.lt
    have nt_b2_tt4 : b2 ≠ tt4 := Exa.neArv eq4 vq4 (ww hw 8 rfl)
    have ft10 := (V_b3.keep kq4 (ninS (Ne.symm ne_b2_b3) nin0))
    have nt_b3_tt4 : b3 ≠ tt4 := own_neArv ft10 vq4 (by decide)
    have hk4 : T4.heap.size ≤ T4.heap.size := Nat.le_refl _
    have sf11 := crw4.safe ft9 ft8
    have sf12 := crw4.safe lt_b3 sf_b3
    have CR4 := CR3.trans crw4
    refine Go.tr (f' := (mkF m 14 #[iv q1, iv c0, iv c1, .unset] [(.ref b2)])) st4 ?_
    refine GoW.retV X4 hlk hx (t := (.object "java/lang/String")) hret rfl (Or.inr (Or.inr (Or.inr (Or.inr ⟨rfl, rfl, rfl⟩)))) (hb hby d1_14) rfl hS4 hk4 hZ4 hEL CR4 hh ?_ (by decide) (by decide)
    exact ⟨b2, tt4, kt4, (0 : Int32), [], rfl, N4, sz_b2, K4, eq4, cq4, fq4, vq4, ⟨by decide, by show _ = ((0 : Nat) : Int); decide⟩, Nat.le_of_ble_eq_true rfl, ints0⟩
  · refine Go.st (f' := (mkF m 15 #[iv q1, iv c0, iv c1, .unset] [])) (fun _ k => XS.ifYes X0.here hx rfl (pc0 := 1) (pc' := 15) rfl (hb hby d1_1) rfl ((if0 _ _).trans (feq cd1).2) (by decide) (by decide) k) ?_
    refine Go.st (f' := (mkF m 16 #[iv q1, iv c0, iv c1, .unset] [(.int q1)])) (fun _ k => XS.iloadN X0.here hx rfl (hb hby d1_15) rfl k) ?_
    refine Go.st (f' := (mkF m 17 #[iv q1, iv c0, iv c1, .unset] [(.int 1), (.int q1)])) (fun _ k => XS.iconst X0.here hx rfl (hb hby d1_16) k) ?_
    by_cases cd13 : q1 = (1 : Int32)
    · refine Go.st (f' := (mkF m 20 #[iv q1, iv c0, iv c1, .unset] [])) (fun _ k => XS.icmpNo X0.here hx rfl (hb hby d1_17) rfl (teq cd13).2 k) ?_
      refine Go.st (f' := (mkF m 21 #[iv q1, iv c0, iv c1, .unset] [(.int 1)])) (fun _ k => XS.iconst X0.here hx rfl (hb hby d1_20) k) ?_
      obtain ⟨T14, h14, kc14, X14, e14, E14, A14, st14⟩ := newP X0 hx hZ (ww hw 10 rfl) e0 (g := (mkF m 21 #[iv q1, iv c0, iv c1, .unset] [(.int 1)])) rfl (hb hby d1_21) rfl (by decide) (cap := 1) (by decide) (by decide) (by decide) (by decide)
      obtain ⟨b14, g14⟩ : ∃ z, z = h0.size := ⟨_, rfl⟩
      rw [← g14] at A14 st14
      have ne_w_ERROR_b14 : w_ERROR ≠ b14 := Nat.ne_of_lt (Nat.lt_of_lt_of_le lt_w_ERROR (Nat.le_trans O0.2.1 (Nat.le_of_eq g14.symm)))
      have ne_w_WARNING_b14 : w_WARNING ≠ b14 := Nat.ne_of_lt (Nat.lt_of_lt_of_le lt_w_WARNING (Nat.le_trans O0.2.1 (Nat.le_of_eq g14.symm)))
      have g_b14 : n0 ≤ b14 := Nat.le_trans (O0.1 ▸ O0.2.1) (Nat.le_of_eq g14.symm)
      have O14 : Old Z n0 h14 := O0.ext E14
      have sz_b14 : h0.size ≤ b14 := Nat.le_trans K0.1 (Nat.le_of_eq g14.symm)
      have K14 : Keep h0 h14 [] := K0.ext E14
      have CR14 : CHr Z EL s.vm h0 s.vm h14 := CR0.trans (CHr.ext E14 CR0.1)
      have sf_b14 : Safe Z EL s.vm h14 b14 := (Safe.new (Nat.le_of_eq g14.symm)).ext E14 CR0.1
      have V_b14 : Arv Z h14 b14 kc14 .char (1 : Int32) [(.int (0 : Int32))] (.int (0 : Int32)) := (Arv.new A14 (by decide)).pad (pad_rep [] (.int (0 : Int32)) 1)
      have lt_b14 := V_b14.lt
      refine Go.st (f' := (mkF m 23 #[iv q1, iv c0, iv c1, .unset] [(.ref b14)])) (fun _ k => st14 _ k) ?_
      refine Go.st (f' := (mkF m 24 #[iv q1, iv c0, iv c1, rv b14] [])) (fun _ k => XS.astoreN X14.here hx rfl (hb hby d1_23) rfl rfl (l' := #[iv q1, iv c0, iv c1, rv b14]) rfl k) ?_
      refine Go.st (f' := (mkF m 25 #[iv q1, iv c0, iv c1, rv b14] [(.ref b14)])) (fun _ k => XS.aloadN X14.here hx rfl (hb hby d1_24) rfl rfl k) ?_
      refine Go.st (f' := (mkF m 26 #[iv q1, iv c0, iv c1, rv b14] [(.int 0), (.ref b14)])) (fun _ k => XS.iconst X14.here hx rfl (hb hby d1_25) k) ?_
      refine Go.st (f' := (mkF m 27 #[iv q1, iv c0, iv c1, rv b14] [(.int c0), (.int 0), (.ref b14)])) (fun _ k => XS.iloadN X14.here hx rfl (hb hby d1_26) rfl k) ?_
      refine Go.st (f' := (mkF m 28 #[iv q1, iv c0, iv c1, rv b14] [(.int (c0.toUInt32.toUInt16.toUInt32.toInt32)), (.int 0), (.ref b14)])) (fun _ k => XS.i2c X14.here hx rfl (hb hby d1_27) rfl k) ?_
      obtain ⟨cl15, Ar15, q15, S15, Nx15, H15, G15⟩ := id V_b14
      have hin15 : ¬ ((0 : Int32) < 0 ∨ cl15.slots.size ≤ ((0 : Int32)).toNatClampNeg) := inb_of S15 ⟨by decide, by decide⟩
      obtain ⟨T16, h16, X16, e16, W16, st16⟩ := stC X14 hx hZ e14 Ar15 (j := (0 : Int32)) hin15 (g := (mkF m 28 #[iv q1, iv c0, iv c1, rv b14] [(.int (c0.toUInt32.toUInt16.toUInt32.toInt32)), (.int 0), (.ref b14)])) rfl rfl (hb hby d1_28)
      have V_b14_16 : Arv Z h16 b14 kc14 .char (1 : Int32) [(.int (nar .char (c0.toUInt32.toUInt16.toUInt32.toInt32)))] (.int (0 : Int32)) := Arv.set Ar15 q15 S15 Nx15 H15 G15 (fits_nar_char _) W16 0 rfl (Nat.le_of_ble_eq_true rfl)
      have N16 := Fr.snoc X16 N0 g_b14
      have O16 : Old Z n0 h16 := O14.wr W16 g_b14
      have K16 : Keep h0 h16 [] := K14.wr W16 (Or.inr sz_b14)
      have CR16 : CHr Z EL s.vm h0 s.vm h16 := CR14.trans (CHr.wr W16 sf_b14 CR14.1)
      refine Go.st (f' := (mkF m 29 #[iv q1, iv c0, iv c1, rv b14] [])) (fun _ k => st16 _ k) ?_
      obtain ⟨T17, h17, X17, e17, E17, A17, D17, -, st17⟩ := newO X16 hx hZ hown (ww hw 7 rfl) (ww hw 8 rfl) (ww hw 9 rfl) e16 (g := (mkF m 29 #[iv q1, iv c0, iv c1, rv b14] [])) rfl (hb hby d1_29) (by decide) (by decide)
      obtain ⟨b17, g17⟩ : ∃ z, z = h16.size := ⟨_, rfl⟩
      rw [← g17] at A17 D17 st17
      have ft18 := (Nat.lt_of_lt_of_eq lt_b14 W16.size.symm)
      have ne_b14_b17 : b14 ≠ b17 := Nat.ne_of_lt (Nat.lt_of_lt_of_eq ft18 g17.symm)
      have ne_w_ERROR_b17 : w_ERROR ≠ b17 := Nat.ne_of_lt (Nat.lt_of_lt_of_le lt_w_ERROR (Nat.le_trans O16.2.1 (Nat.le_of_eq g17.symm)))
      have ne_w_WARNING_b17 : w_WARNING ≠ b17 := Nat.ne_of_lt (Nat.lt_of_lt_of_le lt_w_WARNING (Nat.le_trans O16.2.1 (Nat.le_of_eq g17.symm)))
      have g_b17 : n0 ≤ b17 := Nat.le_trans (O16.1 ▸ O16.2.1) (Nat.le_of_eq g17.symm)
      have O17 : Old Z n0 h17 := O16.ext E17
      have sz_b17 : h0.size ≤ b17 := Nat.le_trans K16.1 (Nat.le_of_eq g17.symm)
      have K17 : Keep h0 h17 [] := K16.ext E17
      have CR17 : CHr Z EL s.vm h0 s.vm h17 := CR16.trans (CHr.ext E17 CR16.1)
      have sf_b17 : Safe Z EL s.vm h17 b17 := (Safe.new (Nat.le_of_eq g17.symm)).ext E17 CR16.1
      have lt_b17 := A17.lt
      have F_value_b17 : Fld Z h17 b17 "java/lang/String" "value" "[B" .null := D17 (Or.inr (ww hw 23 rfl)) (ty := (.array .byte)) (by decide)
      have F_coder_b17 : Fld Z h17 b17 "java/lang/String" "coder" "B" (.int (0 : Int32)) := D17 (Or.inr (ww hw 24 rfl)) (ty := .byte) (by decide)
      refine Go.st (f' := (mkF m 32 #[iv q1, iv c0, iv c1, rv b14] [(.ref b17)])) (fun _ k => st17 _ k) ?_
      refine Go.st (f' := (mkF m 33 #[iv q1, iv c0, iv c1, rv b14] [(.ref b17), (.ref b17)])) (fun _ k => XS.dup X17.here hx rfl (hb hby d1_32) rfl rfl k) ?_
      refine Go.st (f' := (mkF m 34 #[iv q1, iv c0, iv c1, rv b14] [(.ref b14), (.ref b17), (.ref b17)])) (fun _ k => XS.aloadN X17.here hx rfl (hb hby d1_33) rfl rfl k) ?_
      have ft20 := (V_b14_16.ext E17)
      obtain ⟨_, _, ⟨T19, L19, kk19, nn19⟩, -, X19, ⟨Lc19, hQ19, lq19, yq19, zz19⟩, st19⟩ := X17.specialBack hx (y := (⟨"java/lang/String", "<init>", "([C)V"⟩ : MethodName)) rfl hown (mvT hZ (ww hw 11 rfl)) (mvT hZ (ww hw 12 rfl)) (mvT hZ (ww hw 13 rfl)) (by decide) (own_back (W := 1) (st1_1 l Z a0 hw [] b17 b14 kc14 (nar .char (c0.toUInt32.toUInt16.toUInt32.toInt32)) w_ERROR w_WARNING i_COMPACT_STRINGS v_SIOOBE_FORMATTER h17 n0 O17 (own_nc2 hc0) g_b17 (Ne.symm ne_b14_b17) A17 F_coder_b17 F_value_b17 ft20 WW) hZ (ww hw 13 rfl) (ww hw 9 rfl) (by decide) (by decide)) (g := (mkF m 34 #[iv q1, iv c0, iv c1, rv b14] [(.ref b14), (.ref b17), (.ref b17)])) rfl (by rw [hml]; rfl) (Steps.refl _) (a := b17) (argsL := [(.ref b14)]) (rest := [(.ref b17)]) (lenOf pd___C_V rfl) rfl (by show 2 * 0 + _ ≤ _; exact Nat.le_of_eq rfl) (hb hby d1_34) (fun _ _ => ⟨rfl, e17, (by decide : 2 + 1 ≤ _), (by decide : 5 + 1 ≤ _)⟩)
      dsimp only [Pt.U, Pt.locs, Pt.cells, Pt.slots] at X19 lq19 yq19 zz19 st19 hQ19
      subst lq19 yq19 zz19
      obtain ⟨rfl, Nq19, kq19, eq19, cq19, tt19, kt19, zq19, fq19, vq19⟩ := hQ19
      have N19 := Fr.app N16 Nq19
      have ft21 := (Nat.lt_of_lt_of_le ft18 E17.1)
      have ne_b14_tt19 : b14 ≠ tt19 := Nat.ne_of_lt (Nat.lt_of_lt_of_le ft21 zq19)
      have ne_b17_tt19 : b17 ≠ tt19 := Nat.ne_of_lt (Nat.lt_of_lt_of_le lt_b17 zq19)
      have ne_w_ERROR_tt19 : w_ERROR ≠ tt19 := Nat.ne_of_lt (Nat.lt_of_lt_of_le lt_w_ERROR (Nat.le_trans O17.2.1 zq19))
      have ne_w_WARNING_tt19 : w_WARNING ≠ tt19 := Nat.ne_of_lt (Nat.lt_of_lt_of_le lt_w_WARNING (Nat.le_trans O17.2.1 zq19))
      have g_tt19 : n0 ≤ tt19 := Nat.le_trans (O17.1 ▸ O17.2.1) zq19
      have sz_tt19 : h0.size ≤ tt19 := Nat.le_trans K17.1 zq19
      have sn_tt19 : Safe Z EL s.vm h17 tt19 := Safe.new zq19
      have O19 : Old Z n0 T19.heap := O17.keep kq19 (allS g_b17 all0)
      have CR19 : CHr Z EL s.vm h0 s.vm T19.heap := CR17.trans (CHr.keep kq19 (sfS sf_b17 sf0) CR17.1)
      have K19 : Keep h0 T19.heap [] := K17.trans kq19 (allS (Or.inr sz_b17) all0)
      have lt_tt19 := vq19.lt
      refine Go.tr (f' := (mkF m 37 #[iv q1, iv c0, iv c1, rv b14] [(.ref b17)])) st19 ?_
      refine GoW.retV X19 hlk hx (t := (.object "java/lang/String")) hret rfl (Or.inr (Or.inr (Or.inr (Or.inr ⟨rfl, rfl, rfl⟩)))) (hb hby d1_37) rfl hS (Nat.zero_le _) hZ hEL CR19 hh ?_ (by decide) (by decide)
      exact ⟨b17, tt19, kt19, (1 : Int32), [(.int (nar .byte ((nar .char (c0.toUInt32.toUInt16.toUInt32.toInt32)).toInt8.toInt32)))], rfl, N19, sz_b17, K19, eq19, cq19, fq19, vq19, ⟨by decide, by show _ = ((1 : Nat) : Int); decide⟩, Nat.le_of_ble_eq_true rfl, (intsS ints0)⟩
    · refine Go.st (f' := (mkF m 38 #[iv q1, iv c0, iv c1, .unset] [])) (fun _ k => XS.icmpYes X0.here hx rfl (pc0 := 17) (pc' := 38) rfl (hb hby d1_17) rfl (feq cd13).2 (by decide) (by decide) k) ?_
      refine Go.st (f' := (mkF m 39 #[iv q1, iv c0, iv c1, .unset] [(.int 2)])) (fun _ k => XS.iconst X0.here hx rfl (hb hby d1_38) k) ?_
      obtain ⟨T22, h22, kc22, X22, e22, E22, A22, st22⟩ := newP X0 hx hZ (ww hw 10 rfl) e0 (g := (mkF m 39 #[iv q1, iv c0, iv c1, .unset] [(.int 2)])) rfl (hb hby d1_39) rfl (by decide) (cap := 2) (by decide) (by decide) (by decide) (by decide)
      obtain ⟨b22, g22⟩ : ∃ z, z = h0.size := ⟨_, rfl⟩
      rw [← g22] at A22 st22
      have ne_w_ERROR_b22 : w_ERROR ≠ b22 := Nat.ne_of_lt (Nat.lt_of_lt_of_le lt_w_ERROR (Nat.le_trans O0.2.1 (Nat.le_of_eq g22.symm)))
      have ne_w_WARNING_b22 : w_WARNING ≠ b22 := Nat.ne_of_lt (Nat.lt_of_lt_of_le lt_w_WARNING (Nat.le_trans O0.2.1 (Nat.le_of_eq g22.symm)))
      have g_b22 : n0 ≤ b22 := Nat.le_trans (O0.1 ▸ O0.2.1) (Nat.le_of_eq g22.symm)
      have O22 : Old Z n0 h22 := O0.ext E22
      have sz_b22 : h0.size ≤ b22 := Nat.le_trans K0.1 (Nat.le_of_eq g22.symm)
      have K22 : Keep h0 h22 [] := K0.ext E22
      have CR22 : CHr Z EL s.vm h0 s.vm h22 := CR0.trans (CHr.ext E22 CR0.1)
      have sf_b22 : Safe Z EL s.vm h22 b22 := (Safe.new (Nat.le_of_eq g22.symm)).ext E22 CR0.1
      have V_b22 : Arv Z h22 b22 kc22 .char (2 : Int32) [(.int (0 : Int32)), (.int (0 : Int32))] (.int (0 : Int32)) := (Arv.new A22 (by decide)).pad (pad_rep [] (.int (0 : Int32)) 2)
      have lt_b22 := V_b22.lt
      refine Go.st (f' := (mkF m 41 #[iv q1, iv c0, iv c1, .unset] [(.ref b22)])) (fun _ k => st22 _ k) ?_
      refine Go.st (f' := (mkF m 42 #[iv q1, iv c0, iv c1, rv b22] [])) (fun _ k => XS.astoreN X22.here hx rfl (hb hby d1_41) rfl rfl (l' := #[iv q1, iv c0, iv c1, rv b22]) rfl k) ?_
      refine Go.st (f' := (mkF m 43 #[iv q1, iv c0, iv c1, rv b22] [(.ref b22)])) (fun _ k => XS.aloadN X22.here hx rfl (hb hby d1_42) rfl rfl k) ?_
      refine Go.st (f' := (mkF m 44 #[iv q1, iv c0, iv c1, rv b22] [(.int 0), (.ref b22)])) (fun _ k => XS.iconst X22.here hx rfl (hb hby d1_43) k) ?_
      refine Go.st (f' := (mkF m 45 #[iv q1, iv c0, iv c1, rv b22] [(.int c0), (.int 0), (.ref b22)])) (fun _ k => XS.iloadN X22.here hx rfl (hb hby d1_44) rfl k) ?_
      refine Go.st (f' := (mkF m 46 #[iv q1, iv c0, iv c1, rv b22] [(.int (c0.toUInt32.toUInt16.toUInt32.toInt32)), (.int 0), (.ref b22)])) (fun _ k => XS.i2c X22.here hx rfl (hb hby d1_45) rfl k) ?_
      obtain ⟨cl23, Ar23, q23, S23, Nx23, H23, G23⟩ := id V_b22
      have hin23 : ¬ ((0 : Int32) < 0 ∨ cl23.slots.size ≤ ((0 : Int32)).toNatClampNeg) := inb_of S23 ⟨by decide, by decide⟩
      obtain ⟨T24, h24, X24, e24, W24, st24⟩ := stC X22 hx hZ e22 Ar23 (j := (0 : Int32)) hin23 (g := (mkF m 46 #[iv q1, iv c0, iv c1, rv b22] [(.int (c0.toUInt32.toUInt16.toUInt32.toInt32)), (.int 0), (.ref b22)])) rfl rfl (hb hby d1_46)
      have V_b22_24 : Arv Z h24 b22 kc22 .char (2 : Int32) [(.int (nar .char (c0.toUInt32.toUInt16.toUInt32.toInt32))), (.int (0 : Int32))] (.int (0 : Int32)) := Arv.set Ar23 q23 S23 Nx23 H23 G23 (fits_nar_char _) W24 0 rfl (Nat.le_of_ble_eq_true rfl)
      have N24 := Fr.snoc X24 N0 g_b22
      have O24 : Old Z n0 h24 := O22.wr W24 g_b22
      have K24 : Keep h0 h24 [] := K22.wr W24 (Or.inr sz_b22)
      have CR24 : CHr Z EL s.vm h0 s.vm h24 := CR22.trans (CHr.wr W24 sf_b22 CR22.1)
      refine Go.st (f' := (mkF m 47 #[iv q1, iv c0, iv c1, rv b22] [])) (fun _ k => st24 _ k) ?_
      refine Go.st (f' := (mkF m 48 #[iv q1, iv c0, iv c1, rv b22] [(.ref b22)])) (fun _ k => XS.aloadN X24.here hx rfl (hb hby d1_47) rfl rfl k) ?_
      refine Go.st (f' := (mkF m 49 #[iv q1, iv c0, iv c1, rv b22] [(.int 1), (.ref b22)])) (fun _ k => XS.iconst X24.here hx rfl (hb hby d1_48) k) ?_
      refine Go.st (f' := (mkF m 50 #[iv q1, iv c0, iv c1, rv b22] [(.int c1), (.int 1), (.ref b22)])) (fun _ k => XS.iloadN X24.here hx rfl (hb hby d1_49) rfl k) ?_
      refine Go.st (f' := (mkF m 51 #[iv q1, iv c0, iv c1, rv b22] [(.int (c1.toUInt32.toUInt16.toUInt32.toInt32)), (.int 1), (.ref b22)])) (fun _ k => XS.i2c X24.here hx rfl (hb hby d1_50) rfl k) ?_
      have ft26 := (Safe.wr W24 sf_b22 CR22.1 sf_b22)
      obtain ⟨cl25, Ar25, q25, S25, Nx25, H25, G25⟩ := id V_b22_24
      have hin25 : ¬ ((1 : Int32) < 0 ∨ cl25.slots.size ≤ ((1 : Int32)).toNatClampNeg) := inb_of S25 ⟨by decide, by decide⟩
      obtain ⟨T27, h27, X27, e27, W27, st27⟩ := stC X24 hx hZ e24 Ar25 (j := (1 : Int32)) hin25 (g := (mkF m 51 #[iv q1, iv c0, iv c1, rv b22] [(.int (c1.toUInt32.toUInt16.toUInt32.toInt32)), (.int 1), (.ref b22)])) rfl rfl (hb hby d1_51)
      have V_b22_27 : Arv Z h27 b22 kc22 .char (2 : Int32) [(.int (nar .char (c0.toUInt32.toUInt16.toUInt32.toInt32))), (.int (nar .char (c1.toUInt32.toUInt16.toUInt32.toInt32)))] (.int (0 : Int32)) := Arv.set Ar25 q25 S25 Nx25 H25 G25 (fits_nar_char _) W27 1 rfl (Nat.le_of_ble_eq_true rfl)
      have N27 := Fr.snoc X27 N24 g_b22
      have O27 : Old Z n0 h27 := O24.wr W27 g_b22
      have K27 : Keep h0 h27 [] := K24.wr W27 (Or.inr sz_b22)
      have CR27 : CHr Z EL s.vm h0 s.vm h27 := CR24.trans (CHr.wr W27 ft26 CR24.1)
      refine Go.st (f' := (mkF m 52 #[iv q1, iv c0, iv c1, rv b22] [])) (fun _ k => st27 _ k) ?_
      obtain ⟨T28, h28, X28, e28, E28, A28, D28, -, st28⟩ := newO X27 hx hZ hown (ww hw 7 rfl) (ww hw 8 rfl) (ww hw 9 rfl) e27 (g := (mkF m 52 #[iv q1, iv c0, iv c1, rv b22] [])) rfl (hb hby d1_52) (by decide) (by decide)
      obtain ⟨b28, g28⟩ : ∃ z, z = h27.size := ⟨_, rfl⟩
      rw [← g28] at A28 D28 st28
      have ft29 := (Nat.lt_of_lt_of_eq (Nat.lt_of_lt_of_eq lt_b22 W24.size.symm) W27.size.symm)
      have ne_b22_b28 : b22 ≠ b28 := Nat.ne_of_lt (Nat.lt_of_lt_of_eq ft29 g28.symm)
      have ne_w_ERROR_b28 : w_ERROR ≠ b28 := Nat.ne_of_lt (Nat.lt_of_lt_of_le lt_w_ERROR (Nat.le_trans O27.2.1 (Nat.le_of_eq g28.symm)))
      have ne_w_WARNING_b28 : w_WARNING ≠ b28 := Nat.ne_of_lt (Nat.lt_of_lt_of_le lt_w_WARNING (Nat.le_trans O27.2.1 (Nat.le_of_eq g28.symm)))
      have g_b28 : n0 ≤ b28 := Nat.le_trans (O27.1 ▸ O27.2.1) (Nat.le_of_eq g28.symm)
      have O28 : Old Z n0 h28 := O27.ext E28
      have sz_b28 : h0.size ≤ b28 := Nat.le_trans K27.1 (Nat.le_of_eq g28.symm)
      have K28 : Keep h0 h28 [] := K27.ext E28
      have CR28 : CHr Z EL s.vm h0 s.vm h28 := CR27.trans (CHr.ext E28 CR27.1)
      have sf_b28 : Safe Z EL s.vm h28 b28 := (Safe.new (Nat.le_of_eq g28.symm)).ext E28 CR27.1
      have lt_b28 := A28.lt
      have F_value_b28 : Fld Z h28 b28 "java/lang/String" "value" "[B" .null := D28 (Or.inr (ww hw 23 rfl)) (ty := (.array .byte)) (by decide)
      have F_coder_b28 : Fld Z h28 b28 "java/lang/String" "coder" "B" (.int (0 : Int32)) := D28 (Or.inr (ww hw 24 rfl)) (ty := .byte) (by decide)
      refine Go.st (f' := (mkF m 55 #[iv q1, iv c0, iv c1, rv b22] [(.ref b28)])) (fun _ k => st28 _ k) ?_
      refine Go.st (f' := (mkF m 56 #[iv q1, iv c0, iv c1, rv b22] [(.ref b28), (.ref b28)])) (fun _ k => XS.dup X28.here hx rfl (hb hby d1_55) rfl rfl k) ?_
      refine Go.st (f' := (mkF m 57 #[iv q1, iv c0, iv c1, rv b22] [(.ref b22), (.ref b28), (.ref b28)])) (fun _ k => XS.aloadN X28.here hx rfl (hb hby d1_56) rfl rfl k) ?_
      have ft31 := (V_b22_27.ext E28)
      obtain ⟨_, _, ⟨T30, L30, kk30, nn30⟩, -, X30, ⟨Lc30, hQ30, lq30, yq30, zz30⟩, st30⟩ := X28.specialBack hx (y := (⟨"java/lang/String", "<init>", "([C)V"⟩ : MethodName)) rfl hown (mvT hZ (ww hw 11 rfl)) (mvT hZ (ww hw 12 rfl)) (mvT hZ (ww hw 13 rfl)) (by decide) (own_back (W := 1) (st1_2 l Z a0 hw [] b28 b22 kc22 (nar .char (c0.toUInt32.toUInt16.toUInt32.toInt32)) (nar .char (c1.toUInt32.toUInt16.toUInt32.toInt32)) w_ERROR w_WARNING i_COMPACT_STRINGS v_SIOOBE_FORMATTER h28 n0 O28 (own_nc2 hc0) (own_nc2 hc1) g_b28 (Ne.symm ne_b22_b28) A28 F_coder_b28 F_value_b28 ft31 WW) hZ (ww hw 13 rfl) (ww hw 9 rfl) (by decide) (by decide)) (g := (mkF m 57 #[iv q1, iv c0, iv c1, rv b22] [(.ref b22), (.ref b28), (.ref b28)])) rfl (by rw [hml]; rfl) (Steps.refl _) (a := b28) (argsL := [(.ref b22)]) (rest := [(.ref b28)]) (lenOf pd___C_V rfl) rfl (by show 2 * 0 + _ ≤ _; exact Nat.le_of_eq rfl) (hb hby d1_57) (fun _ _ => ⟨rfl, e28, (by decide : 2 + 1 ≤ _), (by decide : 6 + 2 ≤ _)⟩)
      dsimp only [Pt.U, Pt.locs, Pt.cells, Pt.slots] at X30 lq30 yq30 zz30 st30 hQ30
      subst lq30 yq30 zz30
      obtain ⟨rfl, Nq30, kq30, eq30, cq30, tt30, kt30, zq30, fq30, vq30⟩ := hQ30
      have N30 := Fr.app N27 Nq30
      have ft32 := (Nat.lt_of_lt_of_le ft29 E28.1)
      have ne_b22_tt30 : b22 ≠ tt30 := Nat.ne_of_lt (Nat.lt_of_lt_of_le ft32 zq30)
      have ne_b28_tt30 : b28 ≠ tt30 := Nat.ne_of_lt (Nat.lt_of_lt_of_le lt_b28 zq30)
      have ne_w_ERROR_tt30 : w_ERROR ≠ tt30 := Nat.ne_of_lt (Nat.lt_of_lt_of_le lt_w_ERROR (Nat.le_trans O28.2.1 zq30))
      have ne_w_WARNING_tt30 : w_WARNING ≠ tt30 := Nat.ne_of_lt (Nat.lt_of_lt_of_le lt_w_WARNING (Nat.le_trans O28.2.1 zq30))
      have g_tt30 : n0 ≤ tt30 := Nat.le_trans (O28.1 ▸ O28.2.1) zq30
      have sz_tt30 : h0.size ≤ tt30 := Nat.le_trans K28.1 zq30
      have sn_tt30 : Safe Z EL s.vm h28 tt30 := Safe.new zq30
      have O30 : Old Z n0 T30.heap := O28.keep kq30 (allS g_b28 all0)
      have CR30 : CHr Z EL s.vm h0 s.vm T30.heap := CR28.trans (CHr.keep kq30 (sfS sf_b28 sf0) CR28.1)
      have K30 : Keep h0 T30.heap [] := K28.trans kq30 (allS (Or.inr sz_b28) all0)
      have lt_tt30 := vq30.lt
      refine Go.tr (f' := (mkF m 60 #[iv q1, iv c0, iv c1, rv b22] [(.ref b28)])) st30 ?_
      refine GoW.retV X30 hlk hx (t := (.object "java/lang/String")) hret rfl (Or.inr (Or.inr (Or.inr (Or.inr ⟨rfl, rfl, rfl⟩)))) (hb hby d1_60) rfl hS (Nat.zero_le _) hZ hEL CR30 hh ?_ (by decide) (by decide)
      exact ⟨b28, tt30, kt30, (2 : Int32), [(.int (nar .byte ((nar .char (c0.toUInt32.toUInt16.toUInt32.toInt32)).toInt8.toInt32))), (.int (nar .byte ((nar .char (c1.toUInt32.toUInt16.toUInt32.toInt32)).toInt8.toInt32)))], rfl, N30, sz_b28, K30, eq30, cq30, fq30, vq30, ⟨by decide, by show _ = ((2 : Nat) : Int); decide⟩, Nat.le_of_ble_eq_true rfl, (intsS (intsS ints0))⟩
theorem pn_java_lang_Record : plainName "java/lang/Record" = true := by first | (simp [plainName, overriddenIn]; done) | decide +kernel
theorem d6_0 : decode jdk_30_method_1_code 0 = .ok (.aload_n 0, 1) := by decide +kernel
theorem d6_1 : decode jdk_30_method_1_code 1 = .ok (.invokespecial 1, 3) := by decide +kernel
theorem d6_4 : decode jdk_30_method_1_code 4 = .ok (.return_, 1) := by decide +kernel
set_option maxRecDepth 65536 in
set_option maxHeartbeats 40000000 in
theorem rmRec (l : Launch) (Z : State) (a0 : Array Value) (hw : ∀ d ∈ tables_1, d.before a0 Z = true) (ws : List Jvm.Cond) (a1 : Addr) (h0 : Heap) (n0 : Nat) (O0 : Old Z n0 h0)  :
    Con l Z (⟨"java/lang/Record", "<init>", "()V"⟩ : MethodName) jdk_30_method_1_code 1 none ws ({ frames := 1, cells := 0, slots := 0, locals := 12 } : Room) #[(.ref a1)] h0 (fun v h L => v = none ∧ Fr n0 L ∧ h = h0) := by
  refine own_body (plainFor_of_name pn_java_lang_Record) ?_
  intro p e s m below meth c s₁ hx hby hml hZ hown hnm hlk hret X0 e0
  have N0 := Fr.nil n0
  refine Go.st (T' := s₁) (f' := (mkF m 0 #[rv a1] [])) (fun _ k => castTop (by first | (simp [entryFrame, mkF, argsToLocals, Value.category]; done) | rfl) k) ?_
  refine Go.st (f' := (mkF m 1 #[rv a1] [(.ref a1)])) (fun _ k => XS.aloadN X0.here hx rfl (hb hby d6_0) rfl rfl k) ?_
  obtain ⟨T1, X1, e1, st1⟩ := initO X0 hx hZ hown (ww hw 40 rfl) (ww hw 19 rfl) (ww hw 20 rfl) e0 (g := (mkF m 1 #[rv a1] [(.ref a1)])) rfl (by rw [hml]; rfl) rfl (hb hby d6_1) (by decide) (W := 0) (by show 2 * 0 + _ ≤ _; exact Nat.le_of_eq rfl) (by decide)
  refine Go.st (f' := (mkF m 4 #[rv a1] [])) (fun _ k => st1 _ k) ?_
  refine Go.ret0 X1 hlk hx hret (hb hby d6_4) e1 ?_ (by decide) (by decide)
  exact ⟨rfl, N0, rfl⟩
theorem pn_com_example_hearsay_rules_hearsayrules_Problem : plainName "com/example/hearsay_rules/hearsayrules/Problem" = true := by first | (simp [plainName, overriddenIn]; done) | decide +kernel
theorem d5_0 : decode prog_17_method_1_code 0 = .ok (.aload_n 0, 1) := by decide +kernel
theorem d5_1 : decode prog_17_method_1_code 1 = .ok (.invokespecial 1, 3) := by decide +kernel
theorem pd___V : parseMethodDescriptor "()V" = some ⟨[], none⟩ := by decide +kernel
theorem d5_4 : decode prog_17_method_1_code 4 = .ok (.aload_n 0, 1) := by decide +kernel
theorem d5_5 : decode prog_17_method_1_code 5 = .ok (.aload_n 1, 1) := by decide +kernel
theorem d5_6 : decode prog_17_method_1_code 6 = .ok (.putfield 7, 3) := by decide +kernel
theorem d5_9 : decode prog_17_method_1_code 9 = .ok (.aload_n 0, 1) := by decide +kernel
theorem d5_10 : decode prog_17_method_1_code 10 = .ok (.aload_n 2, 1) := by decide +kernel
theorem d5_11 : decode prog_17_method_1_code 11 = .ok (.putfield 13, 3) := by decide +kernel
theorem d5_14 : decode prog_17_method_1_code 14 = .ok (.aload_n 0, 1) := by decide +kernel
theorem d5_15 : decode prog_17_method_1_code 15 = .ok (.aload_n 3, 1) := by decide +kernel
theorem d5_16 : decode prog_17_method_1_code 16 = .ok (.putfield 17, 3) := by decide +kernel
theorem d5_19 : decode prog_17_method_1_code 19 = .ok (.return_, 1) := by decide +kernel
set_option maxRecDepth 65536 in
set_option maxHeartbeats 40000000 in
theorem rmP1 (l : Launch) (Z : State) (a0 : Array Value) (hw : ∀ d ∈ tables_1, d.before a0 Z = true) (ws : List Jvm.Cond) (a1 : Addr) (s1 : Addr) (m1 : Addr) (h0 : Heap) (n0 : Nat) (O0 : Old Z n0 h0) (g_a1 : n0 ≤ a1) (E_a1 : Exa Z h0 a1 "com/example/hearsay_rules/hearsayrules/Problem") (F_a1_severity : Fld Z h0 a1 "com/example/hearsay_rules/hearsayrules/Problem" "severity" "Lcom/example/hearsay_rules/hearsayrules/Problem$Severity;" .null) (F_a1_position : Fld Z h0 a1 "com/example/hearsay_rules/hearsayrules/Problem" "position" "Ljava/lang/String;" .null) (F_a1_message : Fld Z h0 a1 "com/example/hearsay_rules/hearsayrules/Problem" "message" "Ljava/lang/String;" .null) :
    Con l Z (⟨"com/example/hearsay_rules/hearsayrules/Problem", "<init>", "(Lcom/example/hearsay_rules/hearsayrules/Problem$Severity;Ljava/lang/String;Ljava/lang/String;)V"⟩ : MethodName) prog_17_method_1_code 4 none ws ({ frames := 2, cells := 0, slots := 0, locals := 24 } : Room) #[(.ref a1), (.ref s1), .null, (.ref m1)] h0 (fun v h L => v = none ∧ Fr n0 L ∧ Keep h0 h [a1] ∧ Exa Z h a1 "com/example/hearsay_rules/hearsayrules/Problem" ∧ Fld Z h a1 "com/example/hearsay_rules/hearsayrules/Problem" "severity" "Lcom/example/hearsay_rules/hearsayrules/Problem$Severity;" (.ref s1) ∧ Fld Z h a1 "com/example/hearsay_rules/hearsayrules/Problem" "position" "Ljava/lang/String;" .null ∧ Fld Z h a1 "com/example/hearsay_rules/hearsayrules/Problem" "message" "Ljava/lang/String;" (.ref m1)) := by
  refine own_body (plainFor_of_name pn_com_example_hearsay_rules_hearsayrules_Problem) ?_
  intro p e s m below meth c s₁ hx hby hml hZ hown hnm hlk hret X0 e0
  have N0 := Fr.nil n0
  have K0 : Keep h0 h0 [a1] := Keep.refl _ _
  refine Go.st (T' := s₁) (f' := (mkF m 0 #[rv a1, rv s1, .val .null, rv m1] [])) (fun _ k => castTop (by first | (simp [entryFrame, mkF, argsToLocals, Value.category]; done) | rfl) k) ?_
  have lt_a1 := E_a1.lt
  refine Go.st (f' := (mkF m 1 #[rv a1, rv s1, .val .null, rv m1] [(.ref a1)])) (fun _ k => XS.aloadN X0.here hx rfl (hb hby d5_0) rfl rfl k) ?_
  obtain ⟨_, _, ⟨T1, L1, kk1, nn1⟩, -, X1, ⟨Lc1, hQ1, lq1, yq1, zz1⟩, st1⟩ := X0.specialBack hx (y := (⟨"java/lang/Record", "<init>", "()V"⟩ : MethodName)) rfl hown (mvT hZ (ww hw 35 rfl)) (mvT hZ (ww hw 36 rfl)) (mvT hZ (ww hw 39 rfl)) (by decide) (own_back (W := 0) (rmRec l Z a0 hw [] a1 h0 n0 O0) hZ (ww hw 39 rfl) (ww hw 38 rfl) (by decide) (by decide)) (g := (mkF m 1 #[rv a1, rv s1, .val .null, rv m1] [(.ref a1)])) rfl (by rw [hml]; rfl) (Steps.refl _) (a := a1) (argsL := []) (rest := []) (lenOf pd___V rfl) rfl (by show 2 * 0 + _ ≤ _; exact Nat.le_of_eq rfl) (hb hby d5_1) (fun _ _ => ⟨rfl, e0, (by decide : 0 + 0 ≤ _), (by decide : 0 + 0 ≤ _)⟩)
  dsimp only [Pt.U, Pt.locs, Pt.cells, Pt.slots] at X1 lq1 yq1 zz1 st1 hQ1
  subst lq1 yq1 zz1
  obtain ⟨rfl, Nq1, kq1⟩ := hQ1
  have N1 := Fr.app N0 Nq1
  refine Go.tr (f' := (mkF m 4 #[rv a1, rv s1, .val .null, rv m1] [])) st1 ?_
  refine Go.st (f' := (mkF m 5 #[rv a1, rv s1, .val .null, rv m1] [(.ref a1)])) (fun _ k => XS.aloadN X1.here hx rfl (hb hby d5_4) rfl rfl k) ?_
  refine Go.st (f' := (mkF m 6 #[rv a1, rv s1, .val .null, rv m1] [(.ref s1), (.ref a1)])) (fun _ k => XS.aloadN X1.here hx rfl (hb hby d5_5) rfl rfl k) ?_
  obtain ⟨T2, h2, X2, e2, W2, st2⟩ := putF X1 hx hZ hown (host := "") (Or.inl (ww hw 41 rfl)) Via.refl kq1 F_a1_severity E_a1 (Or.inr ⟨(ww hw 42 rfl), rfl, hnm⟩) (ww hw 30 rfl) (ty := (.object "com/example/hearsay_rules/hearsayrules/Problem$Severity")) (by decide) rfl rfl (g := (mkF m 6 #[rv a1, rv s1, .val .null, rv m1] [(.ref s1), (.ref a1)])) rfl rfl (hb hby d5_6)
  have N2 := Fr.snoc X2 N1 g_a1
  have O2 : Old Z n0 h2 := O0.wr W2 g_a1
  have K2 : Keep h0 h2 [a1] := K0.wr W2 (Or.inl (List.mem_of_getElem? (i := 0) rfl))
  have Fw2 := F_a1_severity.same W2
  refine Go.st (f' := (mkF m 9 #[rv a1, rv s1, .val .null, rv m1] [])) (fun _ k => st2 _ k) ?_
  refine Go.st (f' := (mkF m 10 #[rv a1, rv s1, .val .null, rv m1] [(.ref a1)])) (fun _ k => XS.aloadN X2.here hx rfl (hb hby d5_9) rfl rfl k) ?_
  refine Go.st (f' := (mkF m 11 #[rv a1, rv s1, .val .null, rv m1] [.null, (.ref a1)])) (fun _ k => XS.aloadN X2.here hx rfl (hb hby d5_10) rfl rfl k) ?_
  have ft3 := (E_a1.wr W2)
  have ft4 := (F_a1_position.other W2 (Or.inr (slot_ne (Or.inr (ww hw 44 rfl)) (Or.inr (ww hw 42 rfl)) (by decide) (t := (.object "java/lang/String")) (t' := (.object "com/example/hearsay_rules/hearsayrules/Problem$Severity")) (by decide) (by decide))))
  obtain ⟨T5, h5, X5, e5, W5, st5⟩ := putF X2 hx hZ hown (host := "") (Or.inl (ww hw 43 rfl)) Via.refl e2 ft4 ft3 (Or.inr ⟨(ww hw 44 rfl), rfl, hnm⟩) (ww hw 30 rfl) (ty := (.object "java/lang/String")) (by decide) rfl rfl (g := (mkF m 11 #[rv a1, rv s1, .val .null, rv m1] [.null, (.ref a1)])) rfl rfl (hb hby d5_11)
  have N5 := Fr.snoc X5 N2 g_a1
  have O5 : Old Z n0 h5 := O2.wr W5 g_a1
  have K5 : Keep h0 h5 [a1] := K2.wr W5 (Or.inl (List.mem_of_getElem? (i := 0) rfl))
  have Fw5 := ft4.same W5
  refine Go.st (f' := (mkF m 14 #[rv a1, rv s1, .val .null, rv m1] [])) (fun _ k => st5 _ k) ?_
  refine Go.st (f' := (mkF m 15 #[rv a1, rv s1, .val .null, rv m1] [(.ref a1)])) (fun _ k => XS.aloadN X5.here hx rfl (hb hby d5_14) rfl rfl k) ?_
  refine Go.st (f' := (mkF m 16 #[rv a1, rv s1, .val .null, rv m1] [(.ref m1), (.ref a1)])) (fun _ k => XS.aloadN X5.here hx rfl (hb hby d5_15) rfl rfl k) ?_
  have ft6 := (ft3.wr W5)
  have ft7 := ((F_a1_message.other W2 (Or.inr (slot_ne (Or.inr (ww hw 46 rfl)) (Or.inr (ww hw 42 rfl)) (by decide) (t := (.object "java/lang/String")) (t' := (.object "com/example/hearsay_rules/hearsayrules/Problem$Severity")) (by decide) (by decide)))).other W5 (Or.inr (slot_ne (Or.inr (ww hw 46 rfl)) (Or.inr (ww hw 44 rfl)) (by decide) (t := (.object "java/lang/String")) (t' := (.object "java/lang/String")) (by decide) (by decide))))
  obtain ⟨T8, h8, X8, e8, W8, st8⟩ := putF X5 hx hZ hown (host := "") (Or.inl (ww hw 45 rfl)) Via.refl e5 ft7 ft6 (Or.inr ⟨(ww hw 46 rfl), rfl, hnm⟩) (ww hw 30 rfl) (ty := (.object "java/lang/String")) (by decide) rfl rfl (g := (mkF m 16 #[rv a1, rv s1, .val .null, rv m1] [(.ref m1), (.ref a1)])) rfl rfl (hb hby d5_16)
  have N8 := Fr.snoc X8 N5 g_a1
  have O8 : Old Z n0 h8 := O5.wr W8 g_a1
  have K8 : Keep h0 h8 [a1] := K5.wr W8 (Or.inl (List.mem_of_getElem? (i := 0) rfl))
  have Fw8 := ft7.same W8
  refine Go.st (f' := (mkF m 19 #[rv a1, rv s1, .val .null, rv m1] [])) (fun _ k => st8 _ k) ?_
  refine Go.ret0 X8 hlk hx hret (hb hby d5_19) e8 ?_ (by decide) (by decide)
  have ft9 := (ft6.wr W8)
  have ft10 := ((Fw2.other W5 (Or.inr (slot_ne (Or.inr (ww hw 42 rfl)) (Or.inr (ww hw 44 rfl)) (by decide) (t := (.object "com/example/hearsay_rules/hearsayrules/Problem$Severity")) (t' := (.object "java/lang/String")) (by decide) (by decide)))).other W8 (Or.inr (slot_ne (Or.inr (ww hw 42 rfl)) (Or.inr (ww hw 46 rfl)) (by decide) (t := (.object "com/example/hearsay_rules/hearsayrules/Problem$Severity")) (t' := (.object "java/lang/String")) (by decide) (by decide))))
  have ft11 := (Fw5.other W8 (Or.inr (slot_ne (Or.inr (ww hw 44 rfl)) (Or.inr (ww hw 46 rfl)) (by decide) (t := (.object "java/lang/String")) (t' := (.object "java/lang/String")) (by decide) (by decide))))
  exact ⟨rfl, N8, K8, ft9, ft10, ft11, Fw8⟩
set_option maxRecDepth 65536 in
set_option maxHeartbeats 40000000 in
theorem rmP0 (l : Launch) (Z : State) (a0 : Array Value) (hw : ∀ d ∈ tables_1, d.before a0 Z = true) (ws : List Jvm.Cond) (a1 : Addr) (s1 : Addr) (p1 : Addr) (m1 : Addr) (h0 : Heap) (n0 : Nat) (O0 : Old Z n0 h0) (g_a1 : n0 ≤ a1) (E_a1 : Exa Z h0 a1 "com/example/hearsay_rules/hearsayrules/Problem") (F_a1_severity : Fld Z h0 a1 "com/example/hearsay_rules/hearsayrules/Problem" "severity" "Lcom/example/hearsay_rules/hearsayrules/Problem$Severity;" .null) (F_a1_position : Fld Z h0 a1 "com/example/hearsay_rules/hearsayrules/Problem" "position" "Ljava/lang/String;" .null) (F_a1_message : Fld Z h0 a1 "com/example/hearsay_rules/hearsayrules/Problem" "message" "Ljava/lang/String;" .null) :
    Con l Z (⟨"com/example/hearsay_rules/hearsayrules/Problem", "<init>", "(Lcom/example/hearsay_rules/hearsayrules/Problem$Severity;Ljava/lang/String;Ljava/lang/String;)V"⟩ : MethodName) prog_17_method_1_code 4 none ws ({ frames := 2, cells := 0, slots := 0, locals := 24 } : Room) #[(.ref a1), (.ref s1), (.ref p1), (.ref m1)] h0 (fun v h L => v = none ∧ Fr n0 L ∧ Keep h0 h [a1] ∧ Exa Z h a1 "com/example/hearsay_rules/hearsayrules/Problem" ∧ Fld Z h a1 "com/example/hearsay_rules/hearsayrules/Problem" "severity" "Lcom/example/hearsay_rules/hearsayrules/Problem$Severity;" (.ref s1) ∧ Fld Z h a1 "com/example/hearsay_rules/hearsayrules/Problem" "position" "Ljava/lang/String;" (.ref p1) ∧ Fld Z h a1 "com/example/hearsay_rules/hearsayrules/Problem" "message" "Ljava/lang/String;" (.ref m1)) := by
  refine own_body (plainFor_of_name pn_com_example_hearsay_rules_hearsayrules_Problem) ?_
  intro p e s m below meth c s₁ hx hby hml hZ hown hnm hlk hret X0 e0
  have N0 := Fr.nil n0
  have K0 : Keep h0 h0 [a1] := Keep.refl _ _
  refine Go.st (T' := s₁) (f' := (mkF m 0 #[rv a1, rv s1, rv p1, rv m1] [])) (fun _ k => castTop (by first | (simp [entryFrame, mkF, argsToLocals, Value.category]; done) | rfl) k) ?_
  have lt_a1 := E_a1.lt
  refine Go.st (f' := (mkF m 1 #[rv a1, rv s1, rv p1, rv m1] [(.ref a1)])) (fun _ k => XS.aloadN X0.here hx rfl (hb hby d5_0) rfl rfl k) ?_
  obtain ⟨_, _, ⟨T1, L1, kk1, nn1⟩, -, X1, ⟨Lc1, hQ1, lq1, yq1, zz1⟩, st1⟩ := X0.specialBack hx (y := (⟨"java/lang/Record", "<init>", "()V"⟩ : MethodName)) rfl hown (mvT hZ (ww hw 35 rfl)) (mvT hZ (ww hw 36 rfl)) (mvT hZ (ww hw 39 rfl)) (by decide) (own_back (W := 0) (rmRec l Z a0 hw [] a1 h0 n0 O0) hZ (ww hw 39 rfl) (ww hw 38 rfl) (by decide) (by decide)) (g := (mkF m 1 #[rv a1, rv s1, rv p1, rv m1] [(.ref a1)])) rfl (by rw [hml]; rfl) (Steps.refl _) (a := a1) (argsL := []) (rest := []) (lenOf pd___V rfl) rfl (by show 2 * 0 + _ ≤ _; exact Nat.le_of_eq rfl) (hb hby d5_1) (fun _ _ => ⟨rfl, e0, (by decide : 0 + 0 ≤ _), (by decide : 0 + 0 ≤ _)⟩)
  dsimp only [Pt.U, Pt.locs, Pt.cells, Pt.slots] at X1 lq1 yq1 zz1 st1 hQ1
  subst lq1 yq1 zz1
  obtain ⟨rfl, Nq1, kq1⟩ := hQ1
  have N1 := Fr.app N0 Nq1
  refine Go.tr (f' := (mkF m 4 #[rv a1, rv s1, rv p1, rv m1] [])) st1 ?_
  refine Go.st (f' := (mkF m 5 #[rv a1, rv s1, rv p1, rv m1] [(.ref a1)])) (fun _ k => XS.aloadN X1.here hx rfl (hb hby d5_4) rfl rfl k) ?_
  refine Go.st (f' := (mkF m 6 #[rv a1, rv s1, rv p1, rv m1] [(.ref s1), (.ref a1)])) (fun _ k => XS.aloadN X1.here hx rfl (hb hby d5_5) rfl rfl k) ?_
  obtain ⟨T2, h2, X2, e2, W2, st2⟩ := putF X1 hx hZ hown (host := "") (Or.inl (ww hw 41 rfl)) Via.refl kq1 F_a1_severity E_a1 (Or.inr ⟨(ww hw 42 rfl), rfl, hnm⟩) (ww hw 30 rfl) (ty := (.object "com/example/hearsay_rules/hearsayrules/Problem$Severity")) (by decide) rfl rfl (g := (mkF m 6 #[rv a1, rv s1, rv p1, rv m1] [(.ref s1), (.ref a1)])) rfl rfl (hb hby d5_6)
  have N2 := Fr.snoc X2 N1 g_a1
  have O2 : Old Z n0 h2 := O0.wr W2 g_a1
  have K2 : Keep h0 h2 [a1] := K0.wr W2 (Or.inl (List.mem_of_getElem? (i := 0) rfl))
  have Fw2 := F_a1_severity.same W2
  refine Go.st (f' := (mkF m 9 #[rv a1, rv s1, rv p1, rv m1] [])) (fun _ k => st2 _ k) ?_
  refine Go.st (f' := (mkF m 10 #[rv a1, rv s1, rv p1, rv m1] [(.ref a1)])) (fun _ k => XS.aloadN X2.here hx rfl (hb hby d5_9) rfl rfl k) ?_
  refine Go.st (f' := (mkF m 11 #[rv a1, rv s1, rv p1, rv m1] [(.ref p1), (.ref a1)])) (fun _ k => XS.aloadN X2.here hx rfl (hb hby d5_10) rfl rfl k) ?_
  have ft3 := (E_a1.wr W2)
  have ft4 := (F_a1_position.other W2 (Or.inr (slot_ne (Or.inr (ww hw 44 rfl)) (Or.inr (ww hw 42 rfl)) (by decide) (t := (.object "java/lang/String")) (t' := (.object "com/example/hearsay_rules/hearsayrules/Problem$Severity")) (by decide) (by decide))))
  obtain ⟨T5, h5, X5, e5, W5, st5⟩ := putF X2 hx hZ hown (host := "") (Or.inl (ww hw 43 rfl)) Via.refl e2 ft4 ft3 (Or.inr ⟨(ww hw 44 rfl), rfl, hnm⟩) (ww hw 30 rfl) (ty := (.object "java/lang/String")) (by decide) rfl rfl (g := (mkF m 11 #[rv a1, rv s1, rv p1, rv m1] [(.ref p1), (.ref a1)])) rfl rfl (hb hby d5_11)
  have N5 := Fr.snoc X5 N2 g_a1
  have O5 : Old Z n0 h5 := O2.wr W5 g_a1
  have K5 : Keep h0 h5 [a1] := K2.wr W5 (Or.inl (List.mem_of_getElem? (i := 0) rfl))
  have Fw5 := ft4.same W5
  refine Go.st (f' := (mkF m 14 #[rv a1, rv s1, rv p1, rv m1] [])) (fun _ k => st5 _ k) ?_
  refine Go.st (f' := (mkF m 15 #[rv a1, rv s1, rv p1, rv m1] [(.ref a1)])) (fun _ k => XS.aloadN X5.here hx rfl (hb hby d5_14) rfl rfl k) ?_
  refine Go.st (f' := (mkF m 16 #[rv a1, rv s1, rv p1, rv m1] [(.ref m1), (.ref a1)])) (fun _ k => XS.aloadN X5.here hx rfl (hb hby d5_15) rfl rfl k) ?_
  have ft6 := (ft3.wr W5)
  have ft7 := ((F_a1_message.other W2 (Or.inr (slot_ne (Or.inr (ww hw 46 rfl)) (Or.inr (ww hw 42 rfl)) (by decide) (t := (.object "java/lang/String")) (t' := (.object "com/example/hearsay_rules/hearsayrules/Problem$Severity")) (by decide) (by decide)))).other W5 (Or.inr (slot_ne (Or.inr (ww hw 46 rfl)) (Or.inr (ww hw 44 rfl)) (by decide) (t := (.object "java/lang/String")) (t' := (.object "java/lang/String")) (by decide) (by decide))))
  obtain ⟨T8, h8, X8, e8, W8, st8⟩ := putF X5 hx hZ hown (host := "") (Or.inl (ww hw 45 rfl)) Via.refl e5 ft7 ft6 (Or.inr ⟨(ww hw 46 rfl), rfl, hnm⟩) (ww hw 30 rfl) (ty := (.object "java/lang/String")) (by decide) rfl rfl (g := (mkF m 16 #[rv a1, rv s1, rv p1, rv m1] [(.ref m1), (.ref a1)])) rfl rfl (hb hby d5_16)
  have N8 := Fr.snoc X8 N5 g_a1
  have O8 : Old Z n0 h8 := O5.wr W8 g_a1
  have K8 : Keep h0 h8 [a1] := K5.wr W8 (Or.inl (List.mem_of_getElem? (i := 0) rfl))
  have Fw8 := ft7.same W8
  refine Go.st (f' := (mkF m 19 #[rv a1, rv s1, rv p1, rv m1] [])) (fun _ k => st8 _ k) ?_
  refine Go.ret0 X8 hlk hx hret (hb hby d5_19) e8 ?_ (by decide) (by decide)
  have ft9 := (ft6.wr W8)
  have ft10 := ((Fw2.other W5 (Or.inr (slot_ne (Or.inr (ww hw 42 rfl)) (Or.inr (ww hw 44 rfl)) (by decide) (t := (.object "com/example/hearsay_rules/hearsayrules/Problem$Severity")) (t' := (.object "java/lang/String")) (by decide) (by decide)))).other W8 (Or.inr (slot_ne (Or.inr (ww hw 42 rfl)) (Or.inr (ww hw 46 rfl)) (by decide) (t := (.object "com/example/hearsay_rules/hearsayrules/Problem$Severity")) (t' := (.object "java/lang/String")) (by decide) (by decide))))
  have ft11 := (Fw5.other W8 (Or.inr (slot_ne (Or.inr (ww hw 44 rfl)) (Or.inr (ww hw 46 rfl)) (by decide) (t := (.object "java/lang/String")) (t' := (.object "java/lang/String")) (by decide) (by decide))))
  exact ⟨rfl, N8, K8, ft9, ft10, ft11, Fw8⟩
theorem d7_0 : decode prog_17_method_2_code 0 = .ok (.aload_n 0, 1) := by decide +kernel
theorem d7_1 : decode prog_17_method_2_code 1 = .ok (.getfield 13, 3) := by decide +kernel
theorem d7_4 : decode prog_17_method_2_code 4 = .ok (.ifnonnull 10, 3) := by decide +kernel
theorem d7_7 : decode prog_17_method_2_code 7 = .ok (.aload_n 0, 1) := by decide +kernel
theorem d7_8 : decode prog_17_method_2_code 8 = .ok (.getfield 17, 3) := by decide +kernel
theorem d7_11 : decode prog_17_method_2_code 11 = .ok (.goto 32, 3) := by decide +kernel
theorem d7_43 : decode prog_17_method_2_code 43 = .ok (.areturn, 1) := by decide +kernel
set_option maxRecDepth 65536 in
set_option maxHeartbeats 40000000 in
theorem rmTn (l : Launch) (Z : State) (a0 : Array Value) (hw : ∀ d ∈ tables_1, d.before a0 Z = true) (ws : List Jvm.Cond) (a1 : Addr) (m1 : Addr) (h0 : Heap) (n0 : Nat) (O0 : Old Z n0 h0) (E_a1 : Exa Z h0 a1 "com/example/hearsay_rules/hearsayrules/Problem") (F_a1_position : Fld Z h0 a1 "com/example/hearsay_rules/hearsayrules/Problem" "position" "Ljava/lang/String;" .null) (F_a1_message : Fld Z h0 a1 "com/example/hearsay_rules/hearsayrules/Problem" "message" "Ljava/lang/String;" (.ref m1)) :
    Con l Z (⟨"com/example/hearsay_rules/hearsayrules/Problem", "text", "()Ljava/lang/String;"⟩ : MethodName) prog_17_method_2_code 1 (some (.object "java/lang/String")) ws ({ frames := 0, cells := 0, slots := 0, locals := 0 } : Room) #[(.ref a1)] h0 (fun v h L => v = some (.ref m1) ∧ Fr n0 L ∧ h = h0) := by
  refine own_body (plainFor_of_name pn_com_example_hearsay_rules_hearsayrules_Problem) ?_
  intro p e s m below meth c s₁ hx hby hml hZ hown hnm hlk hret X0 e0
  have N0 := Fr.nil n0
  refine Go.st (T' := s₁) (f' := (mkF m 0 #[rv a1] [])) (fun _ k => castTop (by first | (simp [entryFrame, mkF, argsToLocals, Value.category]; done) | rfl) k) ?_
  have lt_a1 := E_a1.lt
  refine Go.st (f' := (mkF m 1 #[rv a1] [(.ref a1)])) (fun _ k => XS.aloadN X0.here hx rfl (hb hby d7_0) rfl rfl k) ?_
  obtain ⟨T1, X1, e1, st1⟩ := getF X0 hx hZ hown (host := "") (Or.inl (ww hw 43 rfl)) Via.refl e0 F_a1_position (g := (mkF m 1 #[rv a1] [(.ref a1)])) rfl rfl (hb hby d7_1)
  refine Go.st (f' := (mkF m 4 #[rv a1] [.null])) (fun _ k => st1 _ k) ?_
  refine Go.st (f' := (mkF m 7 #[rv a1] [])) (fun _ k => XS.ifnonnullNo X1.here hx rfl (hb hby d7_4) rfl k) ?_
  refine Go.st (f' := (mkF m 8 #[rv a1] [(.ref a1)])) (fun _ k => XS.aloadN X1.here hx rfl (hb hby d7_7) rfl rfl k) ?_
  obtain ⟨T2, X2, e2, st2⟩ := getF X1 hx hZ hown (host := "") (Or.inl (ww hw 45 rfl)) Via.refl e1 F_a1_message (g := (mkF m 8 #[rv a1] [(.ref a1)])) rfl rfl (hb hby d7_8)
  refine Go.st (f' := (mkF m 11 #[rv a1] [(.ref m1)])) (fun _ k => st2 _ k) ?_
  refine Go.st (f' := (mkF m 43 #[rv a1] [(.ref m1)])) (fun _ k => XS.goto X2.here hx rfl (pc0 := 11) (pc' := 43) rfl (hb hby d7_11) (by decide) (by decide) k) ?_
  refine Go.retV X2 hlk hx (t := (.object "java/lang/String")) hret rfl (Or.inr (Or.inr (Or.inr (Or.inr ⟨rfl, rfl, rfl⟩)))) (hb hby d7_43) e2 ?_ (by decide) (by decide)
  exact ⟨rfl, N0, rfl⟩
theorem own_lt16 {n1 n2 : Int32} {e1 e2 : List Value} (a : Ln n1 e1) (b : Ln n2 e2) (h1 : e1.length ≤ 2) (h2 : e2.length ≤ 2) : ((((0 : Int32) + n1) + (2 : Int32)) + n2) < (16 : Int32) := by
  have q1 := c_iadd 0 n1
  have q2 := c_iadd ((0 : Int32) + n1) 2
  have q3 := c_iadd (((0 : Int32) + n1) + 2) n2
  have r1 := rng32 ((0 : Int32) + n1)
  have r2 := rng32 (((0 : Int32) + n1) + 2)
  have r3 := rng32 ((((0 : Int32) + n1) + 2) + n2)
  have e0 : (0 : Int32).toInt = 0 := by decide
  have e2 : (2 : Int32).toInt = 2 := by decide
  have e16 : (16 : Int32).toInt = 16 := by decide
  have := a.1; have := a.2; have := b.1; have := b.2
  rw [Int32.lt_iff_toInt_lt]
  omega
theorem d7_14 : decode prog_17_method_2_code 14 = .ok (.new 20, 3) := by decide +kernel
theorem d7_17 : decode prog_17_method_2_code 17 = .ok (.dup, 1) := by decide +kernel
theorem d7_18 : decode prog_17_method_2_code 18 = .ok (.invokespecial 22, 3) := by decide +kernel
theorem d7_21 : decode prog_17_method_2_code 21 = .ok (.aload_n 0, 1) := by decide +kernel
theorem d7_22 : decode prog_17_method_2_code 22 = .ok (.getfield 13, 3) := by decide +kernel
theorem d7_25 : decode prog_17_method_2_code 25 = .ok (.invokevirtual 23, 3) := by decide +kernel
theorem pd__Ljava_lang_String__Ljava_lang_StringBuilder_ : parseMethodDescriptor "(Ljava/lang/String;)Ljava/lang/StringBuilder;" = some ⟨[(.object "java/lang/String")], some (.object "java/lang/StringBuilder")⟩ := by decide +kernel
theorem d7_28 : decode prog_17_method_2_code 28 = .ok (.ldc 27, 2) := by decide +kernel
theorem d7_30 : decode prog_17_method_2_code 30 = .ok (.invokevirtual 23, 3) := by decide +kernel
theorem d7_33 : decode prog_17_method_2_code 33 = .ok (.aload_n 0, 1) := by decide +kernel
theorem d7_34 : decode prog_17_method_2_code 34 = .ok (.getfield 17, 3) := by decide +kernel
theorem d7_37 : decode prog_17_method_2_code 37 = .ok (.invokevirtual 23, 3) := by decide +kernel
theorem d7_40 : decode prog_17_method_2_code 40 = .ok (.invokevirtual 29, 3) := by decide +kernel
theorem pd___Ljava_lang_String_ : parseMethodDescriptor "()Ljava/lang/String;" = some ⟨[], some (.object "java/lang/String")⟩ := by decide +kernel
set_option maxRecDepth 65536 in
set_option maxHeartbeats 40000000 in
theorem rmT (l : Launch) (Z : State) (a0 : Array Value) (hw : ∀ d ∈ tables_1, d.before a0 Z = true) (ws : List Jvm.Cond) (a1 : Addr) (p1 : Addr) (t1 : Addr) (k1 : ClassId) (n1 : Int32) (es1 : List Value) (m1 : Addr) (t2 : Addr) (k2 : ClassId) (n2 : Int32) (es2 : List Value) (w_ERROR : Addr) (w_WARNING : Addr) (i_COMPACT_STRINGS : Int32) (v_SIOOBE_FORMATTER : Value) (h0 : Heap) (n0 : Nat) (O0 : Old Z n0 h0) (l1 : Ln n1 es1) (l2 : Ln n2 es2) (z1 : es1.length ≤ 2) (z2 : es2.length ≤ 2) (E_a1 : Exa Z h0 a1 "com/example/hearsay_rules/hearsayrules/Problem") (F_a1_position : Fld Z h0 a1 "com/example/hearsay_rules/hearsayrules/Problem" "position" "Ljava/lang/String;" (.ref p1)) (F_a1_message : Fld Z h0 a1 "com/example/hearsay_rules/hearsayrules/Problem" "message" "Ljava/lang/String;" (.ref m1)) (E_p1 : Exa Z h0 p1 "java/lang/String") (F_p1_coder : Fld Z h0 p1 "java/lang/String" "coder" "B" (.int 0)) (F_p1_value : Fld Z h0 p1 "java/lang/String" "value" "[B" (.ref t1)) (V_t1 : Arv Z h0 t1 k1 .byte n1 es1 (.int 0)) (E_m1 : Exa Z h0 m1 "java/lang/String") (F_m1_coder : Fld Z h0 m1 "java/lang/String" "coder" "B" (.int 0)) (F_m1_value : Fld Z h0 m1 "java/lang/String" "value" "[B" (.ref t2)) (V_t2 : Arv Z h0 t2 k2 .byte n2 es2 (.int 0)) (WW : World1 Z w_ERROR w_WARNING i_COMPACT_STRINGS v_SIOOBE_FORMATTER) :
    ConW l Z EL (⟨"com/example/hearsay_rules/hearsayrules/Problem", "text", "()Ljava/lang/String;"⟩ : MethodName) prog_17_method_2_code 1 (some (.object "java/lang/String")) ws ({ frames := 6, cells := 6, slots := 42, locals := 93 } : Room) #[(.ref a1)] h0 (fun v h L => ∃ (b t : Addr) (kt : ClassId) (n : Int32), v = some (.ref b) ∧ Fr n0 L ∧ h0.size ≤ b ∧ Keep h0 h [] ∧ Exa Z h b "java/lang/String" ∧ Fld Z h b "java/lang/String" "coder" "B" (.int 0) ∧ Fld Z h b "java/lang/String" "value" "[B" (.ref t) ∧ Arv Z h t kt .byte n ((([] ++ es1) ++ [(.int 58), (.int 32)]) ++ es2) (.int 0) ∧ Ln n ((([] ++ es1) ++ [(.int 58), (.int 32)]) ++ es2)) := by
  refine own_bodyW (plainFor_of_name pn_com_example_hearsay_rules_hearsayrules_Problem) ?_
  intro p e s m below meth c s₁ hx hby hml hZ hown hnm hlk hret X0 e0 hh hS CR0
  have hEL := own_EL hw
  have wS := own_wS hw
  have N0 := Fr.nil n0
  have K0 : Keep h0 h0 [] := Keep.refl _ _
  refine Go.st (T' := s₁) (f' := (mkF m 0 #[rv a1] [])) (fun _ k => castTop (by first | (simp [entryFrame, mkF, argsToLocals, Value.category]; done) | rfl) k) ?_
  have ⟨S_i_COMPACT_STRINGS, nz_i_COMPACT_STRINGS, S_v_SIOOBE_FORMATTER, r_v_SIOOBE_FORMATTER, S_w_ERROR, E_w_ERROR, S_w_WARNING, E_w_WARNING⟩ := WW
  have lt_w_ERROR := E_w_ERROR.lt
  have lt_w_WARNING := E_w_WARNING.lt
  have lt_a1 := E_a1.lt
  have lt_p1 := E_p1.lt
  have lt_t1 := V_t1.lt
  have lt_m1 := E_m1.lt
  have lt_t2 := V_t2.lt
  have nt_a1_t1 : a1 ≠ t1 := Exa.neArv E_a1 V_t1 (ww hw 30 rfl)
  have nt_p1_t1 : p1 ≠ t1 := Exa.neArv E_p1 V_t1 (ww hw 8 rfl)
  have nt_m1_t1 : m1 ≠ t1 := Exa.neArv E_m1 V_t1 (ww hw 8 rfl)
  have nt_a1_t2 : a1 ≠ t2 := Exa.neArv E_a1 V_t2 (ww hw 30 rfl)
  have nt_p1_t2 : p1 ≠ t2 := Exa.neArv E_p1 V_t2 (ww hw 8 rfl)
  have nt_m1_t2 : m1 ≠ t2 := Exa.neArv E_m1 V_t2 (ww hw 8 rfl)
  have l3 : Ln (2 : Int32) [(Value.int (58 : Int32)), (Value.int (32 : Int32))] := ⟨by decide, by decide⟩
  refine Go.st (f' := (mkF m 1 #[rv a1] [(.ref a1)])) (fun _ k => XS.aloadN X0.here hx rfl (hb hby d7_0) rfl rfl k) ?_
  obtain ⟨T1, X1, e1, st1⟩ := getF X0 hx hZ hown (host := "") (Or.inl (ww hw 43 rfl)) Via.refl e0 F_a1_position (g := (mkF m 1 #[rv a1] [(.ref a1)])) rfl rfl (hb hby d7_1)
  refine Go.st (f' := (mkF m 4 #[rv a1] [(.ref p1)])) (fun _ k => st1 _ k) ?_
  refine Go.st (f' := (mkF m 14 #[rv a1] [])) (fun _ k => XS.ifnonnullYes X1.here hx rfl (pc0 := 4) (pc' := 14) rfl (hb hby d7_4) rfl (by decide) (by decide) k) ?_
  obtain ⟨T2, h2, X2, e2, E2, A2, D2, -, st2⟩ := newO X1 hx hZ hown (ww hw 59 rfl) (ww hw 60 rfl) (ww hw 61 rfl) e1 (g := (mkF m 14 #[rv a1] [])) rfl (hb hby d7_14) (by decide) (by decide)
  obtain ⟨b2, g2⟩ : ∃ z, z = h0.size := ⟨_, rfl⟩
  rw [← g2] at A2 D2 st2
  have ne_a1_b2 : a1 ≠ b2 := Nat.ne_of_lt (Nat.lt_of_lt_of_eq lt_a1 g2.symm)
  have ne_p1_b2 : p1 ≠ b2 := Nat.ne_of_lt (Nat.lt_of_lt_of_eq lt_p1 g2.symm)
  have ne_t1_b2 : t1 ≠ b2 := Nat.ne_of_lt (Nat.lt_of_lt_of_eq lt_t1 g2.symm)
  have ne_m1_b2 : m1 ≠ b2 := Nat.ne_of_lt (Nat.lt_of_lt_of_eq lt_m1 g2.symm)
  have ne_t2_b2 : t2 ≠ b2 := Nat.ne_of_lt (Nat.lt_of_lt_of_eq lt_t2 g2.symm)
  have ne_w_ERROR_b2 : w_ERROR ≠ b2 := Nat.ne_of_lt (Nat.lt_of_lt_of_le lt_w_ERROR (Nat.le_trans O0.2.1 (Nat.le_of_eq g2.symm)))
  have ne_w_WARNING_b2 : w_WARNING ≠ b2 := Nat.ne_of_lt (Nat.lt_of_lt_of_le lt_w_WARNING (Nat.le_trans O0.2.1 (Nat.le_of_eq g2.symm)))
  have g_b2 : n0 ≤ b2 := Nat.le_trans (O0.1 ▸ O0.2.1) (Nat.le_of_eq g2.symm)
  have O2 : Old Z n0 h2 := O0.ext E2
  have sz_b2 : h0.size ≤ b2 := Nat.le_trans K0.1 (Nat.le_of_eq g2.symm)
  have K2 : Keep h0 h2 [] := K0.ext E2
  have CR2 : CHr Z EL s.vm h0 s.vm h2 := CR0.trans (CHr.ext E2 CR0.1)
  have sf_b2 : Safe Z EL s.vm h2 b2 := (Safe.new (Nat.le_of_eq g2.symm)).ext E2 CR0.1
  have lt_b2 := A2.lt
  have F_value_b2 : Fld Z h2 b2 "java/lang/AbstractStringBuilder" "value" "[B" .null := D2 (Or.inl (ww hw 74 rfl)) (ty := (.array .byte)) (by decide)
  have F_coder_b2 : Fld Z h2 b2 "java/lang/AbstractStringBuilder" "coder" "B" (.int (0 : Int32)) := D2 (Or.inl (ww hw 76 rfl)) (ty := .byte) (by decide)
  have F_count_b2 : Fld Z h2 b2 "java/lang/AbstractStringBuilder" "count" "I" (.int (0 : Int32)) := D2 (Or.inl (ww hw 99 rfl)) (ty := .int) (by decide)
  refine Go.st (f' := (mkF m 17 #[rv a1] [(.ref b2)])) (fun _ k => st2 _ k) ?_
  refine Go.st (f' := (mkF m 18 #[rv a1] [(.ref b2), (.ref b2)])) (fun _ k => XS.dup X2.here hx rfl (hb hby d7_17) rfl rfl k) ?_
  obtain ⟨_, _, ⟨T3, L3, kk3, nn3⟩, -, X3, ⟨Lc3, hQ3, lq3, yq3, zz3⟩, st3⟩ := X2.specialBack hx (y := (⟨"java/lang/StringBuilder", "<init>", "()V"⟩ : MethodName)) rfl hown (mvT hZ (ww hw 62 rfl)) (mvT hZ (ww hw 63 rfl)) (mvT hZ (ww hw 64 rfl)) (by decide) (own_back (W := 1) (sbd l Z a0 hw [] b2 w_ERROR w_WARNING i_COMPACT_STRINGS v_SIOOBE_FORMATTER h2 n0 O2 g_b2 A2 F_coder_b2 F_value_b2 F_count_b2 WW) hZ (ww hw 64 rfl) (ww hw 61 rfl) (by decide) (by decide)) (g := (mkF m 18 #[rv a1] [(.ref b2), (.ref b2)])) rfl (by rw [hml]; rfl) (Steps.refl _) (a := b2) (argsL := []) (rest := [(.ref b2)]) (lenOf pd___V rfl) rfl (by show 2 * 0 + _ ≤ _; exact Nat.le_of_eq rfl) (hb hby d7_18) (fun _ _ => ⟨rfl, e2, (by decide : 1 + 1 ≤ _), (by decide : 4 + 16 ≤ _)⟩)
  dsimp only [Pt.U, Pt.locs, Pt.cells, Pt.slots] at X3 lq3 yq3 zz3 st3 hQ3
  subst lq3 yq3 zz3
  obtain ⟨rfl, Nq3, kq3, eq3, cq3, nq3, tt3, kt3, zq3, fq3, vq3⟩ := hQ3
  have N3 := Fr.app N0 Nq3
  have ft4 := (Nat.lt_of_lt_of_le lt_a1 E2.1)
  have ne_a1_tt3 : a1 ≠ tt3 := Nat.ne_of_lt (Nat.lt_of_lt_of_le ft4 zq3)
  have ft5 := (Nat.lt_of_lt_of_le lt_p1 E2.1)
  have ne_p1_tt3 : p1 ≠ tt3 := Nat.ne_of_lt (Nat.lt_of_lt_of_le ft5 zq3)
  have ft6 := (Nat.lt_of_lt_of_le lt_t1 E2.1)
  have ne_t1_tt3 : t1 ≠ tt3 := Nat.ne_of_lt (Nat.lt_of_lt_of_le ft6 zq3)
  have ft7 := (Nat.lt_of_lt_of_le lt_m1 E2.1)
  have ne_m1_tt3 : m1 ≠ tt3 := Nat.ne_of_lt (Nat.lt_of_lt_of_le ft7 zq3)
  have ft8 := (Nat.lt_of_lt_of_le lt_t2 E2.1)
  have ne_t2_tt3 : t2 ≠ tt3 := Nat.ne_of_lt (Nat.lt_of_lt_of_le ft8 zq3)
  have ne_b2_tt3 : b2 ≠ tt3 := Nat.ne_of_lt (Nat.lt_of_lt_of_le lt_b2 zq3)
  have ne_w_ERROR_tt3 : w_ERROR ≠ tt3 := Nat.ne_of_lt (Nat.lt_of_lt_of_le lt_w_ERROR (Nat.le_trans O2.2.1 zq3))
  have ne_w_WARNING_tt3 : w_WARNING ≠ tt3 := Nat.ne_of_lt (Nat.lt_of_lt_of_le lt_w_WARNING (Nat.le_trans O2.2.1 zq3))
  have g_tt3 : n0 ≤ tt3 := Nat.le_trans (O2.1 ▸ O2.2.1) zq3
  have sz_tt3 : h0.size ≤ tt3 := Nat.le_trans K2.1 zq3
  have sn_tt3 : Safe Z EL s.vm h2 tt3 := Safe.new zq3
  have O3 : Old Z n0 T3.heap := O2.keep kq3 (allS g_b2 all0)
  have CR3 : CHr Z EL s.vm h0 s.vm T3.heap := CR2.trans (CHr.keep kq3 (sfS sf_b2 sf0) CR2.1)
  have K3 : Keep h0 T3.heap [] := K2.trans kq3 (allS (Or.inr sz_b2) all0)
  have lt_tt3 := vq3.lt
  have ln3 : Ln (0 : Int32) [] := ⟨by decide, by decide⟩
  refine Go.tr (f' := (mkF m 21 #[rv a1] [(.ref b2)])) st3 ?_
  refine Go.st (f' := (mkF m 22 #[rv a1] [(.ref a1), (.ref b2)])) (fun _ k => XS.aloadN X3.here hx rfl (hb hby d7_21) rfl rfl k) ?_
  have ft9 := ((F_a1_position.ext E2).keep kq3 (ninS ne_a1_b2 nin0))
  obtain ⟨T10, X10, e10, st10⟩ := getF X3 hx hZ hown (host := "") (Or.inl (ww hw 43 rfl)) Via.refl rfl ft9 (g := (mkF m 22 #[rv a1] [(.ref a1), (.ref b2)])) rfl rfl (hb hby d7_22)
  refine Go.st (f' := (mkF m 25 #[rv a1] [(.ref p1), (.ref b2)])) (fun _ k => st10 _ k) ?_
  have ft12 := ((E_p1.ext E2).keep kq3)
  have ft13 := ((F_p1_coder.ext E2).keep kq3 (ninS ne_p1_b2 nin0))
  have ft14 := ((F_p1_value.ext E2).keep kq3 (ninS ne_p1_b2 nin0))
  have ft15 := ((V_t1.ext E2).keep kq3 (ninS ne_t1_b2 nin0))
  obtain ⟨cq11, kq11, q11a, q11b, q11c⟩ := isOf hZ e10 eq3
  obtain ⟨_, _, ⟨T11, L11, kk11, nn11⟩, -, X11, ⟨Lc11, hQ11, lq11, yq11, zz11⟩, st11⟩ := X10.virtualBack hx (y := (⟨"java/lang/StringBuilder", "append", "(Ljava/lang/String;)Ljava/lang/StringBuilder;"⟩ : MethodName)) (z := (⟨"java/lang/StringBuilder", "append", "(Ljava/lang/String;)Ljava/lang/StringBuilder;"⟩ : MethodName)) hown (mvT hZ (ww hw 77 rfl)) (mvT hZ (ww hw 78 rfl)) (notFace_of_selects (args := #[]) (mvT hZ (ww hw 80 rfl))) (mvT hZ (ww hw 80 rfl)) (mvT hZ (ww hw 79 rfl)) (by decide) (own_back (W := 0) (sbb l Z a0 hw [] b2 p1 t1 k1 n1 es1 tt3 kt3 (0 : Int32) [] w_ERROR w_WARNING i_COMPACT_STRINGS v_SIOOBE_FORMATTER T3.heap n0 O3 ln3 l1 (by simp; omega) g_b2 g_tt3 eq3 cq3 fq3 nq3 ft12 ft13 ft14 ft15 vq3 WW) hZ (ww hw 81 rfl) (ww hw 61 rfl) (by decide) (by decide)) q11a q11c (g := (mkF m 25 #[rv a1] [(.ref p1), (.ref b2)])) rfl (by rw [hml]; rfl) (Steps.refl _) (argsL := [(.ref p1)]) (rest := []) (lenOf pd__Ljava_lang_String__Ljava_lang_StringBuilder_ rfl) rfl (by show 2 * 0 + _ ≤ _; exact Nat.le_of_eq rfl) (hb hby d7_25) (fun _ _ => ⟨rfl, e10, (by decide : 2 + 0 ≤ _), (by decide : 20 + 0 ≤ _)⟩)
  dsimp only [Pt.U, Pt.locs, Pt.cells, Pt.slots] at X11 lq11 yq11 zz11 st11 hQ11
  subst lq11 yq11 zz11
  obtain ⟨rfl, Nq11, kq11, eq11, cq11, fq11, nq11, vq11⟩ := hQ11
  have N11 := Fr.app N3 Nq11
  have O11 : Old Z n0 T11.heap := O3.keep kq11 (allS g_b2 (allS g_tt3 all0))
  have ft16 := (Safe.keep kq3 (sfS sf_b2 sf0) CR2.1 sn_tt3)
  have ft17 := (Safe.keep kq3 (sfS sf_b2 sf0) CR2.1 sf_b2)
  have CR11 : CHr Z EL s.vm h0 s.vm T11.heap := CR3.trans (CHr.keep kq11 (sfS ft17 (sfS ft16 sf0)) CR3.1)
  have K11 : Keep h0 T11.heap [] := K3.trans kq11 (allS (Or.inr sz_b2) (allS (Or.inr sz_tt3) all0))
  have ln11 := Ln.app ln3 l1 (Nat.le_trans (show _ ≤ 16 from (by simp; omega)) (by decide))
  refine Go.tr (f' := (mkF m 28 #[rv a1] [(.ref b2)])) st11 ?_
  obtain ⟨b18, T18, h18, k118, t18, kt18, X18, e18, E18, hS18, hk18, hZ18, hown18, A18, cq18, fq18, vq18, lt_b18, lt_t18, crw18, -, sfx18, st18⟩ := ldcCH (EL := EL) X11 hx hZ hown (ww hw 125 rfl) wS rfl hS (Nat.zero_le _) hEL (List.mem_of_getElem? (i := 0) rfl) CR11.1 (vs := [(.int (58 : Int32)), (.int (32 : Int32))]) (z := (2 : Int32)) ⟨by decide, by decide⟩ (by decide) rfl (g := (mkF m 28 #[rv a1] [(.ref b2)])) rfl (hb hby d7_28) (n := 8) (by decide) (by decide) (by decide) (by decide)
  have ft19 := (Safe.keep kq11 (sfS ft17 (sfS ft16 sf0)) CR3.1 ft17)
  have ft20 := (Nat.lt_of_lt_of_le (Nat.lt_of_lt_of_le lt_b2 kq3.1) kq11.1)
  have ft21 := (Safe.keep kq11 (sfS ft17 (sfS ft16 sf0)) CR3.1 ft16)
  have ft22 := (Nat.lt_of_lt_of_le lt_tt3 kq11.1)
  have O18 : Old Z n0 h18 := O11.ext E18
  have K18 : Keep h0 h18 [] := K11.ext E18
  have sf23 := crw18.safe ft20 ft19
  have sf24 := crw18.safe ft22 ft21
  have CR18 := CR11.trans crw18
  refine Go.st (f' := (mkF m 30 #[rv a1] [(.ref b18), (.ref b2)])) (fun _ k => st18 _ k) ?_
  have ft26 := (eq11.ext E18)
  have ft27 := (cq11.ext E18)
  have ft28 := (fq11.ext E18)
  have ft29 := (nq11.ext E18)
  have ft30 := (vq11.ext E18)
  obtain ⟨cq25, kq25, q25a, q25b, q25c⟩ := isOf hZ18 e18 ft26
  obtain ⟨_, _, ⟨T25, L25, kk25, nn25⟩, -, X25, ⟨Lc25, hQ25, lq25, yq25, zz25⟩, st25⟩ := X18.virtualBack hx (y := (⟨"java/lang/StringBuilder", "append", "(Ljava/lang/String;)Ljava/lang/StringBuilder;"⟩ : MethodName)) (z := (⟨"java/lang/StringBuilder", "append", "(Ljava/lang/String;)Ljava/lang/StringBuilder;"⟩ : MethodName)) hown18 (mvT hZ18 (ww hw 77 rfl)) (mvT hZ18 (ww hw 78 rfl)) (notFace_of_selects (args := #[]) (mvT hZ18 (ww hw 80 rfl))) (mvT hZ18 (ww hw 80 rfl)) (mvT hZ18 (ww hw 79 rfl)) (by decide) (own_back (W := 0) (sbb l Z a0 hw [] b2 b18 t18 kt18 (2 : Int32) [(.int (58 : Int32)), (.int (32 : Int32))] tt3 kt3 ((0 : Int32) + n1) ([] ++ es1) w_ERROR w_WARNING i_COMPACT_STRINGS v_SIOOBE_FORMATTER h18 n0 O18 ln11 l3 (by simp; omega) g_b2 g_tt3 ft26 ft27 ft28 ft29 A18 cq18 fq18 vq18 ft30 WW) hZ18 (ww hw 81 rfl) (ww hw 61 rfl) (by decide) (by decide)) q25a q25c (g := (mkF m 30 #[rv a1] [(.ref b18), (.ref b2)])) rfl (by rw [hml]; rfl) (Steps.refl _) (argsL := [(.ref b18)]) (rest := []) (lenOf pd__Ljava_lang_String__Ljava_lang_StringBuilder_ rfl) rfl (by show 2 * 0 + _ ≤ _; exact Nat.le_of_eq rfl) (hb hby d7_30) (fun _ _ => ⟨rfl, e18, (by decide : 4 + 0 ≤ _), (by decide : 32 + 0 ≤ _)⟩)
  dsimp only [Pt.U, Pt.locs, Pt.cells, Pt.slots] at X25 lq25 yq25 zz25 st25 hQ25
  subst lq25 yq25 zz25
  obtain ⟨rfl, Nq25, kq25, eq25, cq25, fq25, nq25, vq25⟩ := hQ25
  have N25 := Fr.app N11 Nq25
  have O25 : Old Z n0 T25.heap := O18.keep kq25 (allS g_b2 (allS g_tt3 all0))
  have CR25 : CHr Z EL s.vm h0 T18.vm T25.heap := CR18.trans (CHr.keep kq25 (sfS sf23 (sfS sf24 sf0)) CR18.1)
  have K25 : Keep h0 T25.heap [] := K18.trans kq25 (allS (Or.inr sz_b2) (allS (Or.inr sz_tt3) all0))
  have ln25 := Ln.app ln11 l3 (Nat.le_trans (show _ ≤ 16 from (by simp; omega)) (by decide))
  refine Go.tr (f' := (mkF m 33 #[rv a1] [(.ref b2)])) st25 ?_
  refine Go.st (f' := (mkF m 34 #[rv a1] [(.ref a1), (.ref b2)])) (fun _ k => XS.aloadN X25.here hx rfl (hb hby d7_33) rfl rfl k) ?_
  have ft31 := (((((F_a1_message.ext E2).keep kq3 (ninS ne_a1_b2 nin0)).keep kq11 (ninS ne_a1_b2 (ninS ne_a1_tt3 nin0))).ext E18).keep kq25 (ninS ne_a1_b2 (ninS ne_a1_tt3 nin0)))
  obtain ⟨T32, X32, e32, st32⟩ := getF X25 hx hZ18 hown18 (host := "") (Or.inl (ww hw 45 rfl)) Via.refl rfl ft31 (g := (mkF m 34 #[rv a1] [(.ref a1), (.ref b2)])) rfl rfl (hb hby d7_34)
  refine Go.st (f' := (mkF m 37 #[rv a1] [(.ref m1), (.ref b2)])) (fun _ k => st32 _ k) ?_
  have ft34 := (((((E_m1.ext E2).keep kq3).keep kq11).ext E18).keep kq25)
  have ft35 := (((((F_m1_coder.ext E2).keep kq3 (ninS ne_m1_b2 nin0)).keep kq11 (ninS ne_m1_b2 (ninS ne_m1_tt3 nin0))).ext E18).keep kq25 (ninS ne_m1_b2 (ninS ne_m1_tt3 nin0)))
  have ft36 := (((((F_m1_value.ext E2).keep kq3 (ninS ne_m1_b2 nin0)).keep kq11 (ninS ne_m1_b2 (ninS ne_m1_tt3 nin0))).ext E18).keep kq25 (ninS ne_m1_b2 (ninS ne_m1_tt3 nin0)))
  have ft37 := (((((V_t2.ext E2).keep kq3 (ninS ne_t2_b2 nin0)).keep kq11 (ninS ne_t2_b2 (ninS ne_t2_tt3 nin0))).ext E18).keep kq25 (ninS ne_t2_b2 (ninS ne_t2_tt3 nin0)))
  obtain ⟨cq33, kq33, q33a, q33b, q33c⟩ := isOf hZ18 e32 eq25
  obtain ⟨_, _, ⟨T33, L33, kk33, nn33⟩, -, X33, ⟨Lc33, hQ33, lq33, yq33, zz33⟩, st33⟩ := X32.virtualBack hx (y := (⟨"java/lang/StringBuilder", "append", "(Ljava/lang/String;)Ljava/lang/StringBuilder;"⟩ : MethodName)) (z := (⟨"java/lang/StringBuilder", "append", "(Ljava/lang/String;)Ljava/lang/StringBuilder;"⟩ : MethodName)) hown18 (mvT hZ18 (ww hw 77 rfl)) (mvT hZ18 (ww hw 78 rfl)) (notFace_of_selects (args := #[]) (mvT hZ18 (ww hw 80 rfl))) (mvT hZ18 (ww hw 80 rfl)) (mvT hZ18 (ww hw 79 rfl)) (by decide) (own_back (W := 0) (sbb l Z a0 hw [] b2 m1 t2 k2 n2 es2 tt3 kt3 (((0 : Int32) + n1) + (2 : Int32)) (([] ++ es1) ++ [(.int (58 : Int32)), (.int (32 : Int32))]) w_ERROR w_WARNING i_COMPACT_STRINGS v_SIOOBE_FORMATTER T25.heap n0 O25 ln25 l2 (by simp; omega) g_b2 g_tt3 eq25 cq25 fq25 nq25 ft34 ft35 ft36 ft37 vq25 WW) hZ18 (ww hw 81 rfl) (ww hw 61 rfl) (by decide) (by decide)) q33a q33c (g := (mkF m 37 #[rv a1] [(.ref m1), (.ref b2)])) rfl (by rw [hml]; rfl) (Steps.refl _) (argsL := [(.ref m1)]) (rest := []) (lenOf pd__Ljava_lang_String__Ljava_lang_StringBuilder_ rfl) rfl (by show 2 * 0 + _ ≤ _; exact Nat.le_of_eq rfl) (hb hby d7_37) (fun _ _ => ⟨rfl, e32, (by decide : 4 + 0 ≤ _), (by decide : 32 + 0 ≤ _)⟩)
  dsimp only [Pt.U, Pt.locs, Pt.cells, Pt.slots] at X33 lq33 yq33 zz33 st33 hQ33
  subst lq33 yq33 zz33
  obtain ⟨rfl, Nq33, kq33, eq33, cq33, fq33, nq33, vq33⟩ := hQ33
  have N33 := Fr.app N25 Nq33
  have O33 : Old Z n0 T33.heap := O25.keep kq33 (allS g_b2 (allS g_tt3 all0))
  have ft38 := (Safe.keep kq25 (sfS sf23 (sfS sf24 sf0)) CR18.1 sf24)
  have ft39 := (Safe.keep kq25 (sfS sf23 (sfS sf24 sf0)) CR18.1 sf23)
  have CR33 : CHr Z EL s.vm h0 T18.vm T33.heap := CR25.trans (CHr.keep kq33 (sfS ft39 (sfS ft38 sf0)) CR25.1)
  have K33 : Keep h0 T33.heap [] := K25.trans kq33 (allS (Or.inr sz_b2) (allS (Or.inr sz_tt3) all0))
  have ln33 := Ln.app ln25 l2 (Nat.le_trans (show _ ≤ 16 from (by simp; omega)) (by decide))
  refine Go.tr (f' := (mkF m 40 #[rv a1] [(.ref b2)])) st33 ?_
  obtain ⟨cq40, kq40, q40a, q40b, q40c⟩ := isOf hZ18 rfl eq33
  obtain ⟨_, _, ⟨T40, L40, kk40, nn40⟩, -, X40, ⟨Lc40, hQ40, lq40, yq40, zz40⟩, st40⟩ := X33.virtualBack hx (y := (⟨"java/lang/StringBuilder", "toString", "()Ljava/lang/String;"⟩ : MethodName)) (z := (⟨"java/lang/StringBuilder", "toString", "()Ljava/lang/String;"⟩ : MethodName)) hown18 (mvT hZ18 (ww hw 126 rfl)) (mvT hZ18 (ww hw 127 rfl)) (notFace_of_selects (args := #[]) (mvT hZ18 (ww hw 129 rfl))) (mvT hZ18 (ww hw 129 rfl)) (mvT hZ18 (ww hw 128 rfl)) (by decide) (own_back (W := 0) (sts3 l Z a0 hw [] b2 tt3 kt3 ((((0 : Int32) + n1) + (2 : Int32)) + n2) ((([] ++ es1) ++ [(.int (58 : Int32)), (.int (32 : Int32))]) ++ es2) w_ERROR w_WARNING i_COMPACT_STRINGS v_SIOOBE_FORMATTER T33.heap n0 O33 ln33 (own_lt16 l1 l2 z1 z2) (by simp; omega) eq33 cq33 fq33 nq33 vq33 WW) hZ18 (ww hw 130 rfl) (ww hw 61 rfl) (by decide) (by decide)) q40a q40c (g := (mkF m 40 #[rv a1] [(.ref b2)])) rfl (by rw [hml]; rfl) (Steps.refl _) (argsL := []) (rest := []) (lenOf pd___Ljava_lang_String_ rfl) rfl (by show 2 * 0 + _ ≤ _; exact Nat.le_of_eq rfl) (hb hby d7_40) (fun _ _ => ⟨rfl, rfl, (by decide : 4 + 2 ≤ _), (by decide : 32 + 10 ≤ _)⟩)
  dsimp only [Pt.U, Pt.locs, Pt.cells, Pt.slots] at X40 lq40 yq40 zz40 st40 hQ40
  subst lq40 yq40 zz40
  obtain ⟨b40, rfl, Nq40, zb40, kq40, eq40, cq40, tt40, kt40, zq40, fq40, vq40⟩ := hQ40
  have N40 := Fr.app N33 Nq40
  have ft41 := (Nat.lt_of_lt_of_le (Nat.lt_of_lt_of_le (Nat.lt_of_lt_of_le (Nat.lt_of_lt_of_le (Nat.lt_of_lt_of_le ft4 kq3.1) kq11.1) E18.1) kq25.1) kq33.1)
  have ne_a1_b40 : a1 ≠ b40 := Nat.ne_of_lt (Nat.lt_of_lt_of_le ft41 zb40)
  have ft42 := (Nat.lt_of_lt_of_le (Nat.lt_of_lt_of_le (Nat.lt_of_lt_of_le (Nat.lt_of_lt_of_le (Nat.lt_of_lt_of_le ft5 kq3.1) kq11.1) E18.1) kq25.1) kq33.1)
  have ne_p1_b40 : p1 ≠ b40 := Nat.ne_of_lt (Nat.lt_of_lt_of_le ft42 zb40)
  have ft43 := (Nat.lt_of_lt_of_le (Nat.lt_of_lt_of_le (Nat.lt_of_lt_of_le (Nat.lt_of_lt_of_le (Nat.lt_of_lt_of_le ft6 kq3.1) kq11.1) E18.1) kq25.1) kq33.1)
  have ne_t1_b40 : t1 ≠ b40 := Nat.ne_of_lt (Nat.lt_of_lt_of_le ft43 zb40)
  have ft44 := (Nat.lt_of_lt_of_le (Nat.lt_of_lt_of_le (Nat.lt_of_lt_of_le (Nat.lt_of_lt_of_le (Nat.lt_of_lt_of_le ft7 kq3.1) kq11.1) E18.1) kq25.1) kq33.1)
  have ne_m1_b40 : m1 ≠ b40 := Nat.ne_of_lt (Nat.lt_of_lt_of_le ft44 zb40)
  have ft45 := (Nat.lt_of_lt_of_le (Nat.lt_of_lt_of_le (Nat.lt_of_lt_of_le (Nat.lt_of_lt_of_le (Nat.lt_of_lt_of_le ft8 kq3.1) kq11.1) E18.1) kq25.1) kq33.1)
  have ne_t2_b40 : t2 ≠ b40 := Nat.ne_of_lt (Nat.lt_of_lt_of_le ft45 zb40)
  have ft46 := (Nat.lt_of_lt_of_le (Nat.lt_of_lt_of_le (Nat.lt_of_lt_of_le ft20 E18.1) kq25.1) kq33.1)
  have ne_b2_b40 : b2 ≠ b40 := Nat.ne_of_lt (Nat.lt_of_lt_of_le ft46 zb40)
  have ft47 := (Nat.lt_of_lt_of_le (Nat.lt_of_lt_of_le (Nat.lt_of_lt_of_le ft22 E18.1) kq25.1) kq33.1)
  have ne_tt3_b40 : tt3 ≠ b40 := Nat.ne_of_lt (Nat.lt_of_lt_of_le ft47 zb40)
  have ft48 := (Nat.lt_of_lt_of_le (Nat.lt_of_lt_of_le lt_b18 kq25.1) kq33.1)
  have ne_b18_b40 : b18 ≠ b40 := Nat.ne_of_lt (Nat.lt_of_lt_of_le ft48 zb40)
  have ft49 := (Nat.lt_of_lt_of_le (Nat.lt_of_lt_of_le lt_t18 kq25.1) kq33.1)
  have ne_t18_b40 : t18 ≠ b40 := Nat.ne_of_lt (Nat.lt_of_lt_of_le ft49 zb40)
  have ne_w_ERROR_b40 : w_ERROR ≠ b40 := Nat.ne_of_lt (Nat.lt_of_lt_of_le lt_w_ERROR (Nat.le_trans O33.2.1 zb40))
  have ne_w_WARNING_b40 : w_WARNING ≠ b40 := Nat.ne_of_lt (Nat.lt_of_lt_of_le lt_w_WARNING (Nat.le_trans O33.2.1 zb40))
  have g_b40 : n0 ≤ b40 := Nat.le_trans (O33.1 ▸ O33.2.1) zb40
  have sz_b40 : h0.size ≤ b40 := Nat.le_trans K33.1 zb40
  have sn_b40 : Safe Z EL T18.vm T33.heap b40 := Safe.new zb40
  have ne_a1_tt40 : a1 ≠ tt40 := Nat.ne_of_lt (Nat.lt_of_lt_of_le ft41 zq40)
  have ne_p1_tt40 : p1 ≠ tt40 := Nat.ne_of_lt (Nat.lt_of_lt_of_le ft42 zq40)
  have ne_t1_tt40 : t1 ≠ tt40 := Nat.ne_of_lt (Nat.lt_of_lt_of_le ft43 zq40)
  have ne_m1_tt40 : m1 ≠ tt40 := Nat.ne_of_lt (Nat.lt_of_lt_of_le ft44 zq40)
  have ne_t2_tt40 : t2 ≠ tt40 := Nat.ne_of_lt (Nat.lt_of_lt_of_le ft45 zq40)
  have ne_b2_tt40 : b2 ≠ tt40 := Nat.ne_of_lt (Nat.lt_of_lt_of_le ft46 zq40)
  have ne_tt3_tt40 : tt3 ≠ tt40 := Nat.ne_of_lt (Nat.lt_of_lt_of_le ft47 zq40)
  have ne_b18_tt40 : b18 ≠ tt40 := Nat.ne_of_lt (Nat.lt_of_lt_of_le ft48 zq40)
  have ne_t18_tt40 : t18 ≠ tt40 := Nat.ne_of_lt (Nat.lt_of_lt_of_le ft49 zq40)
  have ne_w_ERROR_tt40 : w_ERROR ≠ tt40 := Nat.ne_of_lt (Nat.lt_of_lt_of_le lt_w_ERROR (Nat.le_trans O33.2.1 zq40))
  have ne_w_WARNING_tt40 : w_WARNING ≠ tt40 := Nat.ne_of_lt (Nat.lt_of_lt_of_le lt_w_WARNING (Nat.le_trans O33.2.1 zq40))
  have g_tt40 : n0 ≤ tt40 := Nat.le_trans (O33.1 ▸ O33.2.1) zq40
  have sz_tt40 : h0.size ≤ tt40 := Nat.le_trans K33.1 zq40
  have sn_tt40 : Safe Z EL T18.vm T33.heap tt40 := Safe.new zq40
  have O40 : Old Z n0 T40.heap := O33.keep kq40 all0
  have CR40 : CHr Z EL s.vm h0 T18.vm T40.heap := CR33.trans (CHr.keep kq40 sf0 CR33.1)
  have K40 : Keep h0 T40.heap [] := K33.trans kq40 all0
  have lt_b40 := eq40.lt
  have lt_tt40 := vq40.lt
  refine Go.tr (f' := (mkF m 43 #[rv a1] [(.ref b40)])) st40 ?_
  have ft50 := (Nat.le_trans (Nat.le_trans (Nat.le_trans hk18 kq25.1) kq33.1) kq40.1)
  refine GoW.retV X40 hlk hx (t := (.object "java/lang/String")) hret rfl (Or.inr (Or.inr (Or.inr (Or.inr ⟨rfl, rfl, rfl⟩)))) (hb hby d7_43) rfl hS18 ft50 hZ18 hEL CR40 hh ?_ (by decide) (by decide)
  exact ⟨b40, tt40, kt40, ((((0 : Int32) + n1) + (2 : Int32)) + n2), rfl, N40, sz_b40, K40, eq40, cq40, fq40, vq40, ln33⟩
theorem own_tl {e1 e2 : List Value} (k : Nat) (d : Value) : (k < e1.length → (((([] ++ e1) ++ [(Value.int (58 : Int32)), (Value.int (32 : Int32))]) ++ e2)).getD k d = e1.getD k d) ∧ ((((([] ++ e1) ++ [(Value.int (58 : Int32)), (Value.int (32 : Int32))]) ++ e2)).getD e1.length d = .int (58 : Int32)) ∧ ((((([] ++ e1) ++ [(Value.int (58 : Int32)), (Value.int (32 : Int32))]) ++ e2)).getD (e1.length + 1) d = .int (32 : Int32)) ∧ ((((([] ++ e1) ++ [(Value.int (58 : Int32)), (Value.int (32 : Int32))]) ++ e2)).getD (e1.length + 2 + k) d = e2.getD k d) := by
  simp only [List.nil_append, List.append_assoc]
  refine ⟨fun h => ?_, ?_, ?_, ?_⟩
  · simp [List.getD, List.getElem?_append_left h]
  · simp [List.getD, List.getElem?_append_right (Nat.le_refl _)]
  · simp [List.getD, List.getElem?_append_right (Nat.le_succ e1.length)]
  · have e : e1.length + 2 + k - e1.length = k + 2 := by omega
    simp [List.getD, List.getElem?_append_right (show e1.length ≤ e1.length + 2 + k by omega), e]
theorem own_tlen {e1 e2 : List Value} : (((([] ++ e1) ++ [(Value.int (58 : Int32)), (Value.int (32 : Int32))]) ++ e2)).length = e1.length + 2 + e2.length := by simp; omega
theorem own_j {i n1 nt n2 : Int32} {e1 e2 : List Value} (l1 : Ln n1 e1) (l2 : Ln n2 e2) (lt : Ln nt ((([] ++ e1) ++ [(Value.int (58 : Int32)), (Value.int (32 : Int32))]) ++ e2)) (s1 : e1.length ≤ 2) (s2 : e2.length ≤ 2) (h0 : ¬ i < (0 : Int32)) (h1 : i < nt) (c1 : ¬ i < n1) (c2 : ¬ i = n1) (c3 : ¬ i = (n1 + (1 : Int32))) : ((i - n1) - (2 : Int32)).toInt = i.toInt - n1.toInt - 2 ∧ ¬ ((i - n1) - (2 : Int32)) < (0 : Int32) ∧ ((i - n1) - (2 : Int32)) < n2 ∧ i.toNatClampNeg = e1.length + 2 + ((i - n1) - (2 : Int32)).toNatClampNeg := by
  have q1 := c_isub i n1
  have q2 := c_isub (i - n1) 2
  have q3 := c_iadd n1 1
  have r1 := rng32 (i - n1)
  have r2 := rng32 ((i - n1) - 2)
  have r3 := rng32 (n1 + 1)
  have r4 := rng32 i
  have e0 : (0 : Int32).toInt = 0 := by decide
  have e1' : (1 : Int32).toInt = 1 := by decide
  have e2' : (2 : Int32).toInt = 2 := by decide
  have a1 := l1.1; have a2 := l1.2; have b1 := l2.1; have b2 := l2.2; have d1 := lt.1; have d2 := lt.2
  rw [own_tlen] at d2
  rw [← Int32.toInt_inj] at c2 c3
  rw [Int32.lt_iff_toInt_lt] at h0 h1 c1
  simp only [Int32.lt_iff_toInt_lt, Int32.toNatClampNeg]
  omega
theorem own_kl {i n : Int32} {es : List Value} (l : Ln n es) (h0 : ¬ i < (0 : Int32)) (h1 : i < n) : i.toNatClampNeg < es.length := by
  rw [Int32.lt_iff_toInt_lt] at h0 h1
  have e0 : (0 : Int32).toInt = 0 := by decide
  have := l.2; simp only [Int32.toNatClampNeg]; omega
theorem own_k1 {n : Int32} {es : List Value} (l : Ln n es) (h : es.length ≤ 2) : (n + (1 : Int32)).toNatClampNeg = es.length + 1 := by
  have q := c_iadd n 1
  have r := rng32 (n + 1)
  have e1 : (1 : Int32).toInt = 1 := by decide
  have := l.1; have := l.2; simp only [Int32.toNatClampNeg]; omega
theorem d30_0 : decode method_4_code 0 = .ok (.iload_n 3, 1) := by decide +kernel
theorem d30_1 : decode method_4_code 1 = .ok (.aload_n 0, 1) := by decide +kernel
theorem d30_2 : decode method_4_code 2 = .ok (.invokevirtual 37, 3) := by decide +kernel
theorem d30_5 : decode method_4_code 5 = .ok (.if_icmp .lt 5, 3) := by decide +kernel
theorem d30_10 : decode method_4_code 10 = .ok (.aload_n 1, 1) := by decide +kernel
theorem d30_11 : decode method_4_code 11 = .ok (.invokevirtual 37, 3) := by decide +kernel
theorem d30_14 : decode method_4_code 14 = .ok (.istore 4, 2) := by decide +kernel
theorem d30_16 : decode method_4_code 16 = .ok (.iload_n 3, 1) := by decide +kernel
theorem d30_17 : decode method_4_code 17 = .ok (.iload 4, 2) := by decide +kernel
theorem d30_19 : decode method_4_code 19 = .ok (.if_icmp .ge 13, 3) := by decide +kernel
theorem d30_22 : decode method_4_code 22 = .ok (.aload_n 1, 1) := by decide +kernel
theorem d30_23 : decode method_4_code 23 = .ok (.iload_n 3, 1) := by decide +kernel
theorem d30_24 : decode method_4_code 24 = .ok (.invokevirtual 48, 3) := by decide +kernel
theorem pd__I_C : parseMethodDescriptor "(I)C" = some ⟨[.int], some .char⟩ := by decide +kernel
theorem d30_27 : decode method_4_code 27 = .ok (.istore 5, 2) := by decide +kernel
theorem d30_29 : decode method_4_code 29 = .ok (.goto 43, 3) := by decide +kernel
theorem d30_72 : decode method_4_code 72 = .ok (.aload_n 0, 1) := by decide +kernel
theorem d30_73 : decode method_4_code 73 = .ok (.iload_n 3, 1) := by decide +kernel
theorem d30_74 : decode method_4_code 74 = .ok (.invokevirtual 48, 3) := by decide +kernel
theorem d30_77 : decode method_4_code 77 = .ok (.iload 5, 2) := by decide +kernel
theorem d30_79 : decode method_4_code 79 = .ok (.if_icmp .ne 7, 3) := by decide +kernel
theorem d30_82 : decode method_4_code 82 = .ok (.iconst 1, 1) := by decide +kernel
theorem d30_83 : decode method_4_code 83 = .ok (.goto 4, 3) := by decide +kernel
theorem d30_87 : decode method_4_code 87 = .ok (.ireturn, 1) := by decide +kernel
theorem d30_32 : decode method_4_code 32 = .ok (.iload_n 3, 1) := by decide +kernel
theorem d30_33 : decode method_4_code 33 = .ok (.iload 4, 2) := by decide +kernel
theorem d30_35 : decode method_4_code 35 = .ok (.if_icmp .ne 10, 3) := by decide +kernel
theorem d30_38 : decode method_4_code 38 = .ok (.bipush 58, 2) := by decide +kernel
theorem d30_40 : decode method_4_code 40 = .ok (.istore 5, 2) := by decide +kernel
theorem d30_42 : decode method_4_code 42 = .ok (.goto 30, 3) := by decide +kernel
theorem d30_45 : decode method_4_code 45 = .ok (.iload_n 3, 1) := by decide +kernel
theorem d30_46 : decode method_4_code 46 = .ok (.iload 4, 2) := by decide +kernel
theorem d30_48 : decode method_4_code 48 = .ok (.iconst 1, 1) := by decide +kernel
theorem d30_49 : decode method_4_code 49 = .ok (.iadd, 1) := by decide +kernel
theorem d30_50 : decode method_4_code 50 = .ok (.if_icmp .ne 10, 3) := by decide +kernel
theorem d30_53 : decode method_4_code 53 = .ok (.bipush 32, 2) := by decide +kernel
theorem d30_55 : decode method_4_code 55 = .ok (.istore 5, 2) := by decide +kernel
theorem d30_57 : decode method_4_code 57 = .ok (.goto 15, 3) := by decide +kernel
theorem d30_60 : decode method_4_code 60 = .ok (.aload_n 2, 1) := by decide +kernel
theorem d30_61 : decode method_4_code 61 = .ok (.iload_n 3, 1) := by decide +kernel
theorem d30_62 : decode method_4_code 62 = .ok (.iload 4, 2) := by decide +kernel
theorem d30_64 : decode method_4_code 64 = .ok (.isub, 1) := by decide +kernel
theorem d30_65 : decode method_4_code 65 = .ok (.iconst 2, 1) := by decide +kernel
theorem d30_66 : decode method_4_code 66 = .ok (.isub, 1) := by decide +kernel
theorem d30_67 : decode method_4_code 67 = .ok (.invokevirtual 48, 3) := by decide +kernel
theorem d30_70 : decode method_4_code 70 = .ok (.istore 5, 2) := by decide +kernel
theorem d30_8 : decode method_4_code 8 = .ok (.iconst 1, 1) := by decide +kernel
theorem d30_9 : decode method_4_code 9 = .ok (.ireturn, 1) := by decide +kernel
set_option maxRecDepth 65536 in
set_option maxHeartbeats 40000000 in
theorem rmAt (l : Launch) (Z : State) (a0 : Array Value) (hw : ∀ d ∈ tables_1, d.before a0 Z = true) (ws : List Jvm.Cond) (a1 : Addr) (u1 : Addr) (v1 : ClassId) (nt : Int32) (p1 : Addr) (t1 : Addr) (k1 : ClassId) (n1 : Int32) (es1 : List Value) (m1 : Addr) (t2 : Addr) (k2 : ClassId) (n2 : Int32) (es2 : List Value) (i : Int32) (w_ERROR : Addr) (w_WARNING : Addr) (i_COMPACT_STRINGS : Int32) (v_SIOOBE_FORMATTER : Value) (h0 : Heap) (n0 : Nat) (O0 : Old Z n0 h0) (hi : ¬ i < (0 : Int32)) (lt : Ln nt ((([] ++ es1) ++ [(.int 58), (.int 32)]) ++ es2)) (l1 : Ln n1 es1) (l2 : Ln n2 es2) (z1 : es1.length ≤ 2) (z2 : es2.length ≤ 2) (I1 : Ints es1) (I2 : Ints es2) (E_a1 : Exa Z h0 a1 "java/lang/String") (F_a1_coder : Fld Z h0 a1 "java/lang/String" "coder" "B" (.int 0)) (F_a1_value : Fld Z h0 a1 "java/lang/String" "value" "[B" (.ref u1)) (V_u1 : Arv Z h0 u1 v1 .byte nt ((([] ++ es1) ++ [(.int 58), (.int 32)]) ++ es2) (.int 0)) (E_p1 : Exa Z h0 p1 "java/lang/String") (F_p1_coder : Fld Z h0 p1 "java/lang/String" "coder" "B" (.int 0)) (F_p1_value : Fld Z h0 p1 "java/lang/String" "value" "[B" (.ref t1)) (V_t1 : Arv Z h0 t1 k1 .byte n1 es1 (.int 0)) (E_m1 : Exa Z h0 m1 "java/lang/String") (F_m1_coder : Fld Z h0 m1 "java/lang/String" "coder" "B" (.int 0)) (F_m1_value : Fld Z h0 m1 "java/lang/String" "value" "[B" (.ref t2)) (V_t2 : Arv Z h0 t2 k2 .byte n2 es2 (.int 0)) (WW : World1 Z w_ERROR w_WARNING i_COMPACT_STRINGS v_SIOOBE_FORMATTER) :
    Con l Z (⟨"com/example/hearsay_rules/hearsayrules/ProblemTextPinLaw", "at", "(Ljava/lang/String;Ljava/lang/String;Ljava/lang/String;I)Z"⟩ : MethodName) method_4_code 6 (some .boolean) ws ({ frames := 4, cells := 0, slots := 0, locals := 53 } : Room) #[(.ref a1), (.ref p1), (.ref m1), (.int i)] h0 (fun v h L => v = some (.int 1) ∧ Fr n0 L ∧ h = h0) := by
  refine own_body (plainFor_of_name pn_com_example_hearsay_rules_hearsayrules_ProblemTextPinLaw) ?_
  intro p e s m below meth c s₁ hx hby hml hZ hown hnm hlk hret X0 e0
  have N0 := Fr.nil n0
  refine Go.st (T' := s₁) (f' := (mkF m 0 #[rv a1, rv p1, rv m1, iv i, .unset, .unset] [])) (fun _ k => castTop (by first | (simp [entryFrame, mkF, argsToLocals, Value.category]; done) | rfl) k) ?_
  have ⟨S_i_COMPACT_STRINGS, nz_i_COMPACT_STRINGS, S_v_SIOOBE_FORMATTER, r_v_SIOOBE_FORMATTER, S_w_ERROR, E_w_ERROR, S_w_WARNING, E_w_WARNING⟩ := WW
  have lt_w_ERROR := E_w_ERROR.lt
  have lt_w_WARNING := E_w_WARNING.lt
  have lt_a1 := E_a1.lt
  have lt_u1 := V_u1.lt
  have lt_p1 := E_p1.lt
  have lt_t1 := V_t1.lt
  have lt_m1 := E_m1.lt
  have lt_t2 := V_t2.lt
  refine Go.st (f' := (mkF m 1 #[rv a1, rv p1, rv m1, iv i, .unset, .unset] [(.int i)])) (fun _ k => XS.iloadN X0.here hx rfl (hb hby d30_0) rfl k) ?_
  refine Go.st (f' := (mkF m 2 #[rv a1, rv p1, rv m1, iv i, .unset, .unset] [(.ref a1), (.int i)])) (fun _ k => XS.aloadN X0.here hx rfl (hb hby d30_1) rfl rfl k) ?_
  obtain ⟨cq1, kq1, q1a, q1b, q1c⟩ := isOf hZ e0 E_a1
  obtain ⟨_, _, ⟨T1, L1, kk1, nn1⟩, -, X1, ⟨Lc1, hQ1, lq1, yq1, zz1⟩, st1⟩ := X0.virtualBack hx (y := (⟨"java/lang/String", "length", "()I"⟩ : MethodName)) (z := (⟨"java/lang/String", "length", "()I"⟩ : MethodName)) hown (mvT hZ (ww hw 171 rfl)) (mvT hZ (ww hw 88 rfl)) (notFace_of_selects (args := #[]) (mvT hZ (ww hw 90 rfl))) (mvT hZ (ww hw 90 rfl)) (mvT hZ (ww hw 89 rfl)) (by decide) (own_back (W := 1) (slen l Z a0 hw [] a1 u1 v1 nt ((([] ++ es1) ++ [(.int (58 : Int32)), (.int (32 : Int32))]) ++ es2) w_ERROR w_WARNING i_COMPACT_STRINGS v_SIOOBE_FORMATTER h0 n0 O0 E_a1 F_a1_coder F_a1_value V_u1 WW) hZ (ww hw 91 rfl) (ww hw 9 rfl) (by decide) (by decide)) q1a q1c (g := (mkF m 2 #[rv a1, rv p1, rv m1, iv i, .unset, .unset] [(.ref a1), (.int i)])) rfl (by rw [hml]; rfl) (Steps.refl _) (argsL := []) (rest := [(.int i)]) (lenOf pd___I rfl) rfl (by show 2 * 0 + _ ≤ _; exact Nat.le_of_eq rfl) (hb hby d30_2) (fun _ _ => ⟨rfl, e0, (by decide : 0 + 0 ≤ _), (by decide : 0 + 0 ≤ _)⟩)
  dsimp only [Pt.U, Pt.locs, Pt.cells, Pt.slots] at X1 lq1 yq1 zz1 st1 hQ1
  subst lq1 yq1 zz1
  obtain ⟨rfl, Nq1, kq1⟩ := hQ1
  have N1 := Fr.app N0 Nq1
  refine Go.tr (f' := (mkF m 5 #[rv a1, rv p1, rv m1, iv i, .unset, .unset] [(.int nt), (.int i)])) st1 ?_
  by_cases cd2 : i < nt
  · refine Go.st (f' := (mkF m 10 #[rv a1, rv p1, rv m1, iv i, .unset, .unset] [])) (fun _ k => XS.icmpYes X1.here hx rfl (pc0 := 5) (pc' := 10) rfl (hb hby d30_5) rfl (tlt cd2).1 (by decide) (by decide) k) ?_
    refine Go.st (f' := (mkF m 11 #[rv a1, rv p1, rv m1, iv i, .unset, .unset] [(.ref p1)])) (fun _ k => XS.aloadN X1.here hx rfl (hb hby d30_10) rfl rfl k) ?_
    obtain ⟨cq3, kq3, q3a, q3b, q3c⟩ := isOf hZ kq1 E_p1
    obtain ⟨_, _, ⟨T3, L3, kk3, nn3⟩, -, X3, ⟨Lc3, hQ3, lq3, yq3, zz3⟩, st3⟩ := X1.virtualBack hx (y := (⟨"java/lang/String", "length", "()I"⟩ : MethodName)) (z := (⟨"java/lang/String", "length", "()I"⟩ : MethodName)) hown (mvT hZ (ww hw 171 rfl)) (mvT hZ (ww hw 88 rfl)) (notFace_of_selects (args := #[]) (mvT hZ (ww hw 90 rfl))) (mvT hZ (ww hw 90 rfl)) (mvT hZ (ww hw 89 rfl)) (by decide) (own_back (W := 0) (slen l Z a0 hw [] p1 t1 k1 n1 es1 w_ERROR w_WARNING i_COMPACT_STRINGS v_SIOOBE_FORMATTER h0 n0 O0 E_p1 F_p1_coder F_p1_value V_t1 WW) hZ (ww hw 91 rfl) (ww hw 9 rfl) (by decide) (by decide)) q3a q3c (g := (mkF m 11 #[rv a1, rv p1, rv m1, iv i, .unset, .unset] [(.ref p1)])) rfl (by rw [hml]; rfl) (Steps.refl _) (argsL := []) (rest := []) (lenOf pd___I rfl) rfl (by show 2 * 0 + _ ≤ _; exact Nat.le_of_eq rfl) (hb hby d30_11) (fun _ _ => ⟨rfl, kq1, (by decide : 0 + 0 ≤ _), (by decide : 0 + 0 ≤ _)⟩)
    dsimp only [Pt.U, Pt.locs, Pt.cells, Pt.slots] at X3 lq3 yq3 zz3 st3 hQ3
    subst lq3 yq3 zz3
    obtain ⟨rfl, Nq3, kq3⟩ := hQ3
    have N3 := Fr.app N1 Nq3
    refine Go.tr (f' := (mkF m 14 #[rv a1, rv p1, rv m1, iv i, .unset, .unset] [(.int n1)])) st3 ?_
    refine Go.st (f' := (mkF m 16 #[rv a1, rv p1, rv m1, iv i, iv n1, .unset] [])) (fun _ k => XS.istore X3.here hx rfl (hb hby d30_14) rfl (l' := #[rv a1, rv p1, rv m1, iv i, iv n1, .unset]) rfl k) ?_
    refine Go.st (f' := (mkF m 17 #[rv a1, rv p1, rv m1, iv i, iv n1, .unset] [(.int i)])) (fun _ k => XS.iloadN X3.here hx rfl (hb hby d30_16) rfl k) ?_
    refine Go.st (f' := (mkF m 19 #[rv a1, rv p1, rv m1, iv i, iv n1, .unset] [(.int n1), (.int i)])) (fun _ k => XS.iload X3.here hx rfl (hb hby d30_17) rfl k) ?_
    by_cases cd4 : i < n1
    · refine Go.st (f' := (mkF m 22 #[rv a1, rv p1, rv m1, iv i, iv n1, .unset] [])) (fun _ k => XS.icmpNo X3.here hx rfl (hb hby d30_19) rfl (tlt cd4).2.1 k) ?_
      refine Go.st (f' := (mkF m 23 #[rv a1, rv p1, rv m1, iv i, iv n1, .unset] [(.ref p1)])) (fun _ k => XS.aloadN X3.here hx rfl (hb hby d30_22) rfl rfl k) ?_
      refine Go.st (f' := (mkF m 24 #[rv a1, rv p1, rv m1, iv i, iv n1, .unset] [(.int i), (.ref p1)])) (fun _ k => XS.iloadN X3.here hx rfl (hb hby d30_23) rfl k) ?_
      obtain ⟨xp, hxp⟩ := own_at (d := .int (0 : Int32)) I1 l1 hi cd4
      obtain ⟨cq5, kq5, q5a, q5b, q5c⟩ := isOf hZ kq3 E_p1
      obtain ⟨_, _, ⟨T5, L5, kk5, nn5⟩, -, X5, ⟨Lc5, hQ5, lq5, yq5, zz5⟩, st5⟩ := X3.virtualBack hx (y := (⟨"java/lang/String", "charAt", "(I)C"⟩ : MethodName)) (z := (⟨"java/lang/String", "charAt", "(I)C"⟩ : MethodName)) hown (mvT hZ (ww hw 175 rfl)) (mvT hZ (ww hw 176 rfl)) (notFace_of_selects (args := #[]) (mvT hZ (ww hw 178 rfl))) (mvT hZ (ww hw 178 rfl)) (mvT hZ (ww hw 177 rfl)) (by decide) (own_back (W := 0) (ca0 l Z a0 hw [] p1 t1 k1 n1 es1 i xp w_ERROR w_WARNING i_COMPACT_STRINGS v_SIOOBE_FORMATTER h0 n0 O0 hi cd4 hxp E_p1 F_p1_coder F_p1_value V_t1 WW) hZ (ww hw 179 rfl) (ww hw 9 rfl) (by decide) (by decide)) q5a q5c (g := (mkF m 24 #[rv a1, rv p1, rv m1, iv i, iv n1, .unset] [(.int i), (.ref p1)])) rfl (by rw [hml]; rfl) (Steps.refl _) (argsL := [(.int i)]) (rest := []) (lenOf pd__I_C rfl) rfl (by show 2 * 0 + _ ≤ _; exact Nat.le_of_eq rfl) (hb hby d30_24) (fun _ _ => ⟨rfl, kq3, (by decide : 0 + 0 ≤ _), (by decide : 0 + 0 ≤ _)⟩)
      dsimp only [Pt.U, Pt.locs, Pt.cells, Pt.slots] at X5 lq5 yq5 zz5 st5 hQ5
      subst lq5 yq5 zz5
      obtain ⟨rfl, Nq5, kq5⟩ := hQ5
      have N5 := Fr.app N3 Nq5
      refine Go.tr (f' := (mkF m 27 #[rv a1, rv p1, rv m1, iv i, iv n1, .unset] [(.int (caL xp))])) st5 ?_
      refine Go.st (f' := (mkF m 29 #[rv a1, rv p1, rv m1, iv i, iv n1, .val (.int (caL xp))] [])) (fun _ k => XS.istore X5.here hx rfl (hb hby d30_27) rfl (l' := #[rv a1, rv p1, rv m1, iv i, iv n1, .val (.int (caL xp))]) rfl k) ?_
      refine Go.st (f' := (mkF m 72 #[rv a1, rv p1, rv m1, iv i, iv n1, .val (.int (caL xp))] [])) (fun _ k => XS.goto X5.here hx rfl (pc0 := 29) (pc' := 72) rfl (hb hby d30_29) (by decide) (by decide) k) ?_
      refine Go.st (f' := (mkF m 73 #[rv a1, rv p1, rv m1, iv i, iv n1, .val (.int (caL xp))] [(.ref a1)])) (fun _ k => XS.aloadN X5.here hx rfl (hb hby d30_72) rfl rfl k) ?_
      refine Go.st (f' := (mkF m 74 #[rv a1, rv p1, rv m1, iv i, iv n1, .val (.int (caL xp))] [(.int i), (.ref a1)])) (fun _ k => XS.iloadN X5.here hx rfl (hb hby d30_73) rfl k) ?_
      obtain ⟨cq6, kq6, q6a, q6b, q6c⟩ := isOf hZ kq5 E_a1
      obtain ⟨_, _, ⟨T6, L6, kk6, nn6⟩, -, X6, ⟨Lc6, hQ6, lq6, yq6, zz6⟩, st6⟩ := X5.virtualBack hx (y := (⟨"java/lang/String", "charAt", "(I)C"⟩ : MethodName)) (z := (⟨"java/lang/String", "charAt", "(I)C"⟩ : MethodName)) hown (mvT hZ (ww hw 175 rfl)) (mvT hZ (ww hw 176 rfl)) (notFace_of_selects (args := #[]) (mvT hZ (ww hw 178 rfl))) (mvT hZ (ww hw 178 rfl)) (mvT hZ (ww hw 177 rfl)) (by decide) (own_back (W := 0) (ca0 l Z a0 hw [] a1 u1 v1 nt ((([] ++ es1) ++ [(.int (58 : Int32)), (.int (32 : Int32))]) ++ es2) i xp w_ERROR w_WARNING i_COMPACT_STRINGS v_SIOOBE_FORMATTER h0 n0 O0 hi cd2 (((own_tl _ _).1 (own_kl l1 hi cd4)).trans hxp) E_a1 F_a1_coder F_a1_value V_u1 WW) hZ (ww hw 179 rfl) (ww hw 9 rfl) (by decide) (by decide)) q6a q6c (g := (mkF m 74 #[rv a1, rv p1, rv m1, iv i, iv n1, .val (.int (caL xp))] [(.int i), (.ref a1)])) rfl (by rw [hml]; rfl) (Steps.refl _) (argsL := [(.int i)]) (rest := []) (lenOf pd__I_C rfl) rfl (by show 2 * 0 + _ ≤ _; exact Nat.le_of_eq rfl) (hb hby d30_74) (fun _ _ => ⟨rfl, kq5, (by decide : 0 + 0 ≤ _), (by decide : 0 + 0 ≤ _)⟩)
      dsimp only [Pt.U, Pt.locs, Pt.cells, Pt.slots] at X6 lq6 yq6 zz6 st6 hQ6
      subst lq6 yq6 zz6
      obtain ⟨rfl, Nq6, kq6⟩ := hQ6
      have N6 := Fr.app N5 Nq6
      refine Go.tr (f' := (mkF m 77 #[rv a1, rv p1, rv m1, iv i, iv n1, .val (.int (caL xp))] [(.int (caL xp))])) st6 ?_
      refine Go.st (f' := (mkF m 79 #[rv a1, rv p1, rv m1, iv i, iv n1, .val (.int (caL xp))] [(.int (caL xp)), (.int (caL xp))])) (fun _ k => XS.iload X6.here hx rfl (hb hby d30_77) rfl k) ?_
      refine Go.st (f' := (mkF m 82 #[rv a1, rv p1, rv m1, iv i, iv n1, .val (.int (caL xp))] [])) (fun _ k => XS.icmpNo X6.here hx rfl (hb hby d30_79) rfl (teq (rfl : (caL xp) = (caL xp))).2 k) ?_
      refine Go.st (f' := (mkF m 83 #[rv a1, rv p1, rv m1, iv i, iv n1, .val (.int (caL xp))] [(.int 1)])) (fun _ k => XS.iconst X6.here hx rfl (hb hby d30_82) k) ?_
      refine Go.st (f' := (mkF m 87 #[rv a1, rv p1, rv m1, iv i, iv n1, .val (.int (caL xp))] [(.int 1)])) (fun _ k => XS.goto X6.here hx rfl (pc0 := 83) (pc' := 87) rfl (hb hby d30_83) (by decide) (by decide) k) ?_
      refine Go.retB X6 hlk hx (t := .boolean) hret (by simp) (hb hby d30_87) kq6 ?_ (by decide) (by decide)
      exact ⟨rfl, N6, rfl⟩
    · refine Go.st (f' := (mkF m 32 #[rv a1, rv p1, rv m1, iv i, iv n1, .unset] [])) (fun _ k => XS.icmpYes X3.here hx rfl (pc0 := 19) (pc' := 32) rfl (hb hby d30_19) rfl (flt cd4).2.1 (by decide) (by decide) k) ?_
      refine Go.st (f' := (mkF m 33 #[rv a1, rv p1, rv m1, iv i, iv n1, .unset] [(.int i)])) (fun _ k => XS.iloadN X3.here hx rfl (hb hby d30_32) rfl k) ?_
      refine Go.st (f' := (mkF m 35 #[rv a1, rv p1, rv m1, iv i, iv n1, .unset] [(.int n1), (.int i)])) (fun _ k => XS.iload X3.here hx rfl (hb hby d30_33) rfl k) ?_
      by_cases cd7 : i = n1
      · refine Go.st (f' := (mkF m 38 #[rv a1, rv p1, rv m1, iv i, iv n1, .unset] [])) (fun _ k => XS.icmpNo X3.here hx rfl (hb hby d30_35) rfl (teq cd7).2 k) ?_
        refine Go.st (f' := (mkF m 40 #[rv a1, rv p1, rv m1, iv i, iv n1, .unset] [(.int 58)])) (fun _ k => XS.bipush X3.here hx rfl (hb hby d30_38) k) ?_
        refine Go.st (f' := (mkF m 42 #[rv a1, rv p1, rv m1, iv i, iv n1, iv 58] [])) (fun _ k => XS.istore X3.here hx rfl (hb hby d30_40) rfl (l' := #[rv a1, rv p1, rv m1, iv i, iv n1, iv 58]) rfl k) ?_
        refine Go.st (f' := (mkF m 72 #[rv a1, rv p1, rv m1, iv i, iv n1, iv 58] [])) (fun _ k => XS.goto X3.here hx rfl (pc0 := 42) (pc' := 72) rfl (hb hby d30_42) (by decide) (by decide) k) ?_
        refine Go.st (f' := (mkF m 73 #[rv a1, rv p1, rv m1, iv i, iv n1, iv 58] [(.ref a1)])) (fun _ k => XS.aloadN X3.here hx rfl (hb hby d30_72) rfl rfl k) ?_
        refine Go.st (f' := (mkF m 74 #[rv a1, rv p1, rv m1, iv i, iv n1, iv 58] [(.int i), (.ref a1)])) (fun _ k => XS.iloadN X3.here hx rfl (hb hby d30_73) rfl k) ?_
        obtain ⟨cq8, kq8, q8a, q8b, q8c⟩ := isOf hZ kq3 E_a1
        obtain ⟨_, _, ⟨T8, L8, kk8, nn8⟩, -, X8, ⟨Lc8, hQ8, lq8, yq8, zz8⟩, st8⟩ := X3.virtualBack hx (y := (⟨"java/lang/String", "charAt", "(I)C"⟩ : MethodName)) (z := (⟨"java/lang/String", "charAt", "(I)C"⟩ : MethodName)) hown (mvT hZ (ww hw 175 rfl)) (mvT hZ (ww hw 176 rfl)) (notFace_of_selects (args := #[]) (mvT hZ (ww hw 178 rfl))) (mvT hZ (ww hw 178 rfl)) (mvT hZ (ww hw 177 rfl)) (by decide) (own_back (W := 0) (ca0 l Z a0 hw [] a1 u1 v1 nt ((([] ++ es1) ++ [(.int (58 : Int32)), (.int (32 : Int32))]) ++ es2) i (58 : Int32) w_ERROR w_WARNING i_COMPACT_STRINGS v_SIOOBE_FORMATTER h0 n0 O0 hi cd2 (by rw [cd7, l1.nat]; exact (own_tl 0 _).2.1) E_a1 F_a1_coder F_a1_value V_u1 WW) hZ (ww hw 179 rfl) (ww hw 9 rfl) (by decide) (by decide)) q8a q8c (g := (mkF m 74 #[rv a1, rv p1, rv m1, iv i, iv n1, iv 58] [(.int i), (.ref a1)])) rfl (by rw [hml]; rfl) (Steps.refl _) (argsL := [(.int i)]) (rest := []) (lenOf pd__I_C rfl) rfl (by show 2 * 0 + _ ≤ _; exact Nat.le_of_eq rfl) (hb hby d30_74) (fun _ _ => ⟨rfl, kq3, (by decide : 0 + 0 ≤ _), (by decide : 0 + 0 ≤ _)⟩)
        dsimp only [Pt.U, Pt.locs, Pt.cells, Pt.slots] at X8 lq8 yq8 zz8 st8 hQ8
        subst lq8 yq8 zz8
        obtain ⟨rfl, Nq8, kq8⟩ := hQ8
        have N8 := Fr.app N3 Nq8
        refine Go.tr (f' := (mkF m 77 #[rv a1, rv p1, rv m1, iv i, iv n1, iv 58] [(.int (caL (58 : Int32)))])) st8 ?_
        refine Go.st (f' := (mkF m 79 #[rv a1, rv p1, rv m1, iv i, iv n1, iv 58] [(.int 58), (.int (caL (58 : Int32)))])) (fun _ k => XS.iload X8.here hx rfl (hb hby d30_77) rfl k) ?_
        refine Go.st (f' := (mkF m 82 #[rv a1, rv p1, rv m1, iv i, iv n1, iv 58] [])) (fun _ k => XS.icmpNo X8.here hx rfl (hb hby d30_79) rfl (by decide) k) ?_
        refine Go.st (f' := (mkF m 83 #[rv a1, rv p1, rv m1, iv i, iv n1, iv 58] [(.int 1)])) (fun _ k => XS.iconst X8.here hx rfl (hb hby d30_82) k) ?_
        refine Go.st (f' := (mkF m 87 #[rv a1, rv p1, rv m1, iv i, iv n1, iv 58] [(.int 1)])) (fun _ k => XS.goto X8.here hx rfl (pc0 := 83) (pc' := 87) rfl (hb hby d30_83) (by decide) (by decide) k) ?_
        refine Go.retB X8 hlk hx (t := .boolean) hret (by simp) (hb hby d30_87) kq8 ?_ (by decide) (by decide)
        exact ⟨rfl, N8, rfl⟩
      · refine Go.st (f' := (mkF m 45 #[rv a1, rv p1, rv m1, iv i, iv n1, .unset] [])) (fun _ k => XS.icmpYes X3.here hx rfl (pc0 := 35) (pc' := 45) rfl (hb hby d30_35) rfl (feq cd7).2 (by decide) (by decide) k) ?_
        refine Go.st (f' := (mkF m 46 #[rv a1, rv p1, rv m1, iv i, iv n1, .unset] [(.int i)])) (fun _ k => XS.iloadN X3.here hx rfl (hb hby d30_45) rfl k) ?_
        refine Go.st (f' := (mkF m 48 #[rv a1, rv p1, rv m1, iv i, iv n1, .unset] [(.int n1), (.int i)])) (fun _ k => XS.iload X3.here hx rfl (hb hby d30_46) rfl k) ?_
        refine Go.st (f' := (mkF m 49 #[rv a1, rv p1, rv m1, iv i, iv n1, .unset] [(.int 1), (.int n1), (.int i)])) (fun _ k => XS.iconst X3.here hx rfl (hb hby d30_48) k) ?_
        refine Go.st (f' := (mkF m 50 #[rv a1, rv p1, rv m1, iv i, iv n1, .unset] [(.int (n1 + (1 : Int32))), (.int i)])) (fun _ k => XS.iadd X3.here hx rfl (hb hby d30_49) rfl k) ?_
        by_cases cd9 : i = (n1 + (1 : Int32))
        · refine Go.st (f' := (mkF m 53 #[rv a1, rv p1, rv m1, iv i, iv n1, .unset] [])) (fun _ k => XS.icmpNo X3.here hx rfl (hb hby d30_50) rfl (teq cd9).2 k) ?_
          refine Go.st (f' := (mkF m 55 #[rv a1, rv p1, rv m1, iv i, iv n1, .unset] [(.int 32)])) (fun _ k => XS.bipush X3.here hx rfl (hb hby d30_53) k) ?_
          refine Go.st (f' := (mkF m 57 #[rv a1, rv p1, rv m1, iv i, iv n1, iv 32] [])) (fun _ k => XS.istore X3.here hx rfl (hb hby d30_55) rfl (l' := #[rv a1, rv p1, rv m1, iv i, iv n1, iv 32]) rfl k) ?_
          refine Go.st (f' := (mkF m 72 #[rv a1, rv p1, rv m1, iv i, iv n1, iv 32] [])) (fun _ k => XS.goto X3.here hx rfl (pc0 := 57) (pc' := 72) rfl (hb hby d30_57) (by decide) (by decide) k) ?_
          refine Go.st (f' := (mkF m 73 #[rv a1, rv p1, rv m1, iv i, iv n1, iv 32] [(.ref a1)])) (fun _ k => XS.aloadN X3.here hx rfl (hb hby d30_72) rfl rfl k) ?_
          refine Go.st (f' := (mkF m 74 #[rv a1, rv p1, rv m1, iv i, iv n1, iv 32] [(.int i), (.ref a1)])) (fun _ k => XS.iloadN X3.here hx rfl (hb hby d30_73) rfl k) ?_
          obtain ⟨cq10, kq10, q10a, q10b, q10c⟩ := isOf hZ kq3 E_a1
          obtain ⟨_, _, ⟨T10, L10, kk10, nn10⟩, -, X10, ⟨Lc10, hQ10, lq10, yq10, zz10⟩, st10⟩ := X3.virtualBack hx (y := (⟨"java/lang/String", "charAt", "(I)C"⟩ : MethodName)) (z := (⟨"java/lang/String", "charAt", "(I)C"⟩ : MethodName)) hown (mvT hZ (ww hw 175 rfl)) (mvT hZ (ww hw 176 rfl)) (notFace_of_selects (args := #[]) (mvT hZ (ww hw 178 rfl))) (mvT hZ (ww hw 178 rfl)) (mvT hZ (ww hw 177 rfl)) (by decide) (own_back (W := 0) (ca0 l Z a0 hw [] a1 u1 v1 nt ((([] ++ es1) ++ [(.int (58 : Int32)), (.int (32 : Int32))]) ++ es2) i (32 : Int32) w_ERROR w_WARNING i_COMPACT_STRINGS v_SIOOBE_FORMATTER h0 n0 O0 hi cd2 (by rw [cd9, own_k1 l1 z1]; exact (own_tl 0 _).2.2.1) E_a1 F_a1_coder F_a1_value V_u1 WW) hZ (ww hw 179 rfl) (ww hw 9 rfl) (by decide) (by decide)) q10a q10c (g := (mkF m 74 #[rv a1, rv p1, rv m1, iv i, iv n1, iv 32] [(.int i), (.ref a1)])) rfl (by rw [hml]; rfl) (Steps.refl _) (argsL := [(.int i)]) (rest := []) (lenOf pd__I_C rfl) rfl (by show 2 * 0 + _ ≤ _; exact Nat.le_of_eq rfl) (hb hby d30_74) (fun _ _ => ⟨rfl, kq3, (by decide : 0 + 0 ≤ _), (by decide : 0 + 0 ≤ _)⟩)
          dsimp only [Pt.U, Pt.locs, Pt.cells, Pt.slots] at X10 lq10 yq10 zz10 st10 hQ10
          subst lq10 yq10 zz10
          obtain ⟨rfl, Nq10, kq10⟩ := hQ10
          have N10 := Fr.app N3 Nq10
          refine Go.tr (f' := (mkF m 77 #[rv a1, rv p1, rv m1, iv i, iv n1, iv 32] [(.int (caL (32 : Int32)))])) st10 ?_
          refine Go.st (f' := (mkF m 79 #[rv a1, rv p1, rv m1, iv i, iv n1, iv 32] [(.int 32), (.int (caL (32 : Int32)))])) (fun _ k => XS.iload X10.here hx rfl (hb hby d30_77) rfl k) ?_
          refine Go.st (f' := (mkF m 82 #[rv a1, rv p1, rv m1, iv i, iv n1, iv 32] [])) (fun _ k => XS.icmpNo X10.here hx rfl (hb hby d30_79) rfl (by decide) k) ?_
          refine Go.st (f' := (mkF m 83 #[rv a1, rv p1, rv m1, iv i, iv n1, iv 32] [(.int 1)])) (fun _ k => XS.iconst X10.here hx rfl (hb hby d30_82) k) ?_
          refine Go.st (f' := (mkF m 87 #[rv a1, rv p1, rv m1, iv i, iv n1, iv 32] [(.int 1)])) (fun _ k => XS.goto X10.here hx rfl (pc0 := 83) (pc' := 87) rfl (hb hby d30_83) (by decide) (by decide) k) ?_
          refine Go.retB X10 hlk hx (t := .boolean) hret (by simp) (hb hby d30_87) kq10 ?_ (by decide) (by decide)
          exact ⟨rfl, N10, rfl⟩
        · refine Go.st (f' := (mkF m 60 #[rv a1, rv p1, rv m1, iv i, iv n1, .unset] [])) (fun _ k => XS.icmpYes X3.here hx rfl (pc0 := 50) (pc' := 60) rfl (hb hby d30_50) rfl (feq cd9).2 (by decide) (by decide) k) ?_
          refine Go.st (f' := (mkF m 61 #[rv a1, rv p1, rv m1, iv i, iv n1, .unset] [(.ref m1)])) (fun _ k => XS.aloadN X3.here hx rfl (hb hby d30_60) rfl rfl k) ?_
          refine Go.st (f' := (mkF m 62 #[rv a1, rv p1, rv m1, iv i, iv n1, .unset] [(.int i), (.ref m1)])) (fun _ k => XS.iloadN X3.here hx rfl (hb hby d30_61) rfl k) ?_
          refine Go.st (f' := (mkF m 64 #[rv a1, rv p1, rv m1, iv i, iv n1, .unset] [(.int n1), (.int i), (.ref m1)])) (fun _ k => XS.iload X3.here hx rfl (hb hby d30_62) rfl k) ?_
          refine Go.st (f' := (mkF m 65 #[rv a1, rv p1, rv m1, iv i, iv n1, .unset] [(.int (i - n1)), (.ref m1)])) (fun _ k => XS.isub X3.here hx rfl (hb hby d30_64) rfl k) ?_
          refine Go.st (f' := (mkF m 66 #[rv a1, rv p1, rv m1, iv i, iv n1, .unset] [(.int 2), (.int (i - n1)), (.ref m1)])) (fun _ k => XS.iconst X3.here hx rfl (hb hby d30_65) k) ?_
          refine Go.st (f' := (mkF m 67 #[rv a1, rv p1, rv m1, iv i, iv n1, .unset] [(.int ((i - n1) - (2 : Int32))), (.ref m1)])) (fun _ k => XS.isub X3.here hx rfl (hb hby d30_66) rfl k) ?_
          obtain ⟨-, j1, j2, j3⟩ := own_j l1 l2 lt z1 z2 hi cd2 cd4 cd7 cd9
          obtain ⟨xm, hxm⟩ := own_at (d := .int (0 : Int32)) I2 l2 j1 j2
          obtain ⟨cq11, kq11, q11a, q11b, q11c⟩ := isOf hZ kq3 E_m1
          obtain ⟨_, _, ⟨T11, L11, kk11, nn11⟩, -, X11, ⟨Lc11, hQ11, lq11, yq11, zz11⟩, st11⟩ := X3.virtualBack hx (y := (⟨"java/lang/String", "charAt", "(I)C"⟩ : MethodName)) (z := (⟨"java/lang/String", "charAt", "(I)C"⟩ : MethodName)) hown (mvT hZ (ww hw 175 rfl)) (mvT hZ (ww hw 176 rfl)) (notFace_of_selects (args := #[]) (mvT hZ (ww hw 178 rfl))) (mvT hZ (ww hw 178 rfl)) (mvT hZ (ww hw 177 rfl)) (by decide) (own_back (W := 0) (ca0 l Z a0 hw [] m1 t2 k2 n2 es2 ((i - n1) - (2 : Int32)) xm w_ERROR w_WARNING i_COMPACT_STRINGS v_SIOOBE_FORMATTER h0 n0 O0 j1 j2 hxm E_m1 F_m1_coder F_m1_value V_t2 WW) hZ (ww hw 179 rfl) (ww hw 9 rfl) (by decide) (by decide)) q11a q11c (g := (mkF m 67 #[rv a1, rv p1, rv m1, iv i, iv n1, .unset] [(.int ((i - n1) - (2 : Int32))), (.ref m1)])) rfl (by rw [hml]; rfl) (Steps.refl _) (argsL := [(.int ((i - n1) - (2 : Int32)))]) (rest := []) (lenOf pd__I_C rfl) rfl (by show 2 * 0 + _ ≤ _; exact Nat.le_of_eq rfl) (hb hby d30_67) (fun _ _ => ⟨rfl, kq3, (by decide : 0 + 0 ≤ _), (by decide : 0 + 0 ≤ _)⟩)
          dsimp only [Pt.U, Pt.locs, Pt.cells, Pt.slots] at X11 lq11 yq11 zz11 st11 hQ11
          subst lq11 yq11 zz11
          obtain ⟨rfl, Nq11, kq11⟩ := hQ11
          have N11 := Fr.app N3 Nq11
          refine Go.tr (f' := (mkF m 70 #[rv a1, rv p1, rv m1, iv i, iv n1, .unset] [(.int (caL xm))])) st11 ?_
          refine Go.st (f' := (mkF m 72 #[rv a1, rv p1, rv m1, iv i, iv n1, .val (.int (caL xm))] [])) (fun _ k => XS.istore X11.here hx rfl (hb hby d30_70) rfl (l' := #[rv a1, rv p1, rv m1, iv i, iv n1, .val (.int (caL xm))]) rfl k) ?_
          refine Go.st (f' := (mkF m 73 #[rv a1, rv p1, rv m1, iv i, iv n1, .val (.int (caL xm))] [(.ref a1)])) (fun _ k => XS.aloadN X11.here hx rfl (hb hby d30_72) rfl rfl k) ?_
          refine Go.st (f' := (mkF m 74 #[rv a1, rv p1, rv m1, iv i, iv n1, .val (.int (caL xm))] [(.int i), (.ref a1)])) (fun _ k => XS.iloadN X11.here hx rfl (hb hby d30_73) rfl k) ?_
          obtain ⟨cq12, kq12, q12a, q12b, q12c⟩ := isOf hZ kq11 E_a1
          obtain ⟨_, _, ⟨T12, L12, kk12, nn12⟩, -, X12, ⟨Lc12, hQ12, lq12, yq12, zz12⟩, st12⟩ := X11.virtualBack hx (y := (⟨"java/lang/String", "charAt", "(I)C"⟩ : MethodName)) (z := (⟨"java/lang/String", "charAt", "(I)C"⟩ : MethodName)) hown (mvT hZ (ww hw 175 rfl)) (mvT hZ (ww hw 176 rfl)) (notFace_of_selects (args := #[]) (mvT hZ (ww hw 178 rfl))) (mvT hZ (ww hw 178 rfl)) (mvT hZ (ww hw 177 rfl)) (by decide) (own_back (W := 0) (ca0 l Z a0 hw [] a1 u1 v1 nt ((([] ++ es1) ++ [(.int (58 : Int32)), (.int (32 : Int32))]) ++ es2) i xm w_ERROR w_WARNING i_COMPACT_STRINGS v_SIOOBE_FORMATTER h0 n0 O0 hi cd2 (by rw [j3]; exact (own_tl _ _).2.2.2.trans hxm) E_a1 F_a1_coder F_a1_value V_u1 WW) hZ (ww hw 179 rfl) (ww hw 9 rfl) (by decide) (by decide)) q12a q12c (g := (mkF m 74 #[rv a1, rv p1, rv m1, iv i, iv n1, .val (.int (caL xm))] [(.int i), (.ref a1)])) rfl (by rw [hml]; rfl) (Steps.refl _) (argsL := [(.int i)]) (rest := []) (lenOf pd__I_C rfl) rfl (by show 2 * 0 + _ ≤ _; exact Nat.le_of_eq rfl) (hb hby d30_74) (fun _ _ => ⟨rfl, kq11, (by decide : 0 + 0 ≤ _), (by decide : 0 + 0 ≤ _)⟩)
          dsimp only [Pt.U, Pt.locs, Pt.cells, Pt.slots] at X12 lq12 yq12 zz12 st12 hQ12
          subst lq12 yq12 zz12
          obtain ⟨rfl, Nq12, kq12⟩ := hQ12
          have N12 := Fr.app N11 Nq12
          refine Go.tr (f' := (mkF m 77 #[rv a1, rv p1, rv m1, iv i, iv n1, .val (.int (caL xm))] [(.int (caL xm))])) st12 ?_
          refine Go.st (f' := (mkF m 79 #[rv a1, rv p1, rv m1, iv i, iv n1, .val (.int (caL xm))] [(.int (caL xm)), (.int (caL xm))])) (fun _ k => XS.iload X12.here hx rfl (hb hby d30_77) rfl k) ?_
          refine Go.st (f' := (mkF m 82 #[rv a1, rv p1, rv m1, iv i, iv n1, .val (.int (caL xm))] [])) (fun _ k => XS.icmpNo X12.here hx rfl (hb hby d30_79) rfl (teq (rfl : (caL xm) = (caL xm))).2 k) ?_
          refine Go.st (f' := (mkF m 83 #[rv a1, rv p1, rv m1, iv i, iv n1, .val (.int (caL xm))] [(.int 1)])) (fun _ k => XS.iconst X12.here hx rfl (hb hby d30_82) k) ?_
          refine Go.st (f' := (mkF m 87 #[rv a1, rv p1, rv m1, iv i, iv n1, .val (.int (caL xm))] [(.int 1)])) (fun _ k => XS.goto X12.here hx rfl (pc0 := 83) (pc' := 87) rfl (hb hby d30_83) (by decide) (by decide) k) ?_
          refine Go.retB X12 hlk hx (t := .boolean) hret (by simp) (hb hby d30_87) kq12 ?_ (by decide) (by decide)
          exact ⟨rfl, N12, rfl⟩
  · refine Go.st (f' := (mkF m 8 #[rv a1, rv p1, rv m1, iv i, .unset, .unset] [])) (fun _ k => XS.icmpNo X1.here hx rfl (hb hby d30_5) rfl (flt cd2).1 k) ?_
    refine Go.st (f' := (mkF m 9 #[rv a1, rv p1, rv m1, iv i, .unset, .unset] [(.int 1)])) (fun _ k => XS.iconst X1.here hx rfl (hb hby d30_8) k) ?_
    refine Go.retB X1 hlk hx (t := .boolean) hret (by simp) (hb hby d30_9) kq1 ?_ (by decide) (by decide)
    exact ⟨rfl, N1, rfl⟩
theorem own_sum {n1 n2 nt : Int32} {e1 e2 : List Value} (l1 : Ln n1 e1) (l2 : Ln n2 e2) (lt : Ln nt ((([] ++ e1) ++ [(Value.int (58 : Int32)), (Value.int (32 : Int32))]) ++ e2)) (s1 : e1.length ≤ 2) (s2 : e2.length ≤ 2) : nt = ((n1 + (2 : Int32)) + n2) := by
  have l3 : Ln (2 : Int32) [Value.int (58 : Int32), Value.int (32 : Int32)] := ⟨by decide, by decide⟩
  refine Ln.eq lt ((l1.app l3 (by simp; omega)).app l2 (by simp; omega)) (by simp)

def QL (n0 : Nat) : Option Value → Heap → List Loc → Prop := fun v h L => v = some (.int (1 : Int32)) ∧ Fr n0 L
theorem pd__III_Ljava_lang_String_ : parseMethodDescriptor "(III)Ljava/lang/String;" = some ⟨[.int, .int, .int], some (.object "java/lang/String")⟩ := by decide +kernel
theorem pd__Lcom_example_hearsay_rules_hearsayrules_Problem_Severity_Ljava_lang_String_Ljava_lang_String__V : parseMethodDescriptor "(Lcom/example/hearsay_rules/hearsayrules/Problem$Severity;Ljava/lang/String;Ljava/lang/String;)V" = some ⟨[(.object "com/example/hearsay_rules/hearsayrules/Problem$Severity"), (.object "java/lang/String"), (.object "java/lang/String")], none⟩ := by decide +kernel
theorem pd__Ljava_lang_Object__Z : parseMethodDescriptor "(Ljava/lang/Object;)Z" = some ⟨[(.object "java/lang/Object")], some .boolean⟩ := by decide +kernel
theorem pd__Ljava_lang_String_Ljava_lang_String_Ljava_lang_String_I_Z : parseMethodDescriptor "(Ljava/lang/String;Ljava/lang/String;Ljava/lang/String;I)Z" = some ⟨[(.object "java/lang/String"), (.object "java/lang/String"), (.object "java/lang/String"), .int], some .boolean⟩ := by decide +kernel
set_option maxRecDepth 65536 in
set_option maxHeartbeats 40000000 in
theorem rm0 (l : Launch) (Z : State) (a0 : Array Value) (hw : ∀ d ∈ tables_1, d.before a0 Z = true) (ws : List Jvm.Cond) (p1 : Int32) (p2 : Int32) (p3 : Int32) (w_ERROR : Addr) (w_WARNING : Addr) (i_COMPACT_STRINGS : Int32) (v_SIOOBE_FORMATTER : Value) (h0 : Heap) (n0 : Nat) (O0 : Old Z n0 h0) (WW : World1 Z w_ERROR w_WARNING i_COMPACT_STRINGS v_SIOOBE_FORMATTER) :
    ConW l Z EL x code maxLocals ret ws room_1 #[(.int p1), (.int p2), (.int p3)] h0 (QL n0) := by
  refine own_bodyW (plainFor_of_name pn_com_example_hearsay_rules_hearsayrules_ProblemTextPinLaw) ?_
  intro p e s m below meth c s₁ hx hby hml hZ hown hnm hlk hret X0 e0 hh hS CR0
  have hEL := own_EL hw
  have wS := own_wS hw
  have N0 := Fr.nil n0
  refine Go.st (T' := s₁) (f' := (mkF m 0 #[iv p1, iv p2, iv p3, .unset, .unset, .unset, .unset, .unset, .unset] [])) (fun _ k => castTop (by first | (simp [entryFrame, mkF, argsToLocals, Value.category, maxLocals]; done) | rfl) k) ?_
  have ⟨S_i_COMPACT_STRINGS, nz_i_COMPACT_STRINGS, S_v_SIOOBE_FORMATTER, r_v_SIOOBE_FORMATTER, S_w_ERROR, E_w_ERROR, S_w_WARNING, E_w_WARNING⟩ := WW
  have lt_w_ERROR := E_w_ERROR.lt
  have lt_w_WARNING := E_w_WARNING.lt
  have U : ∀ (TJ1 : State) (hJ1 : Heap) (vmJ1 : Vm) (kJ1 : Nat) (LJ1 : List Loc) (sv : Addr), (Stand p l e room_1 (s.setVm vmJ1) m #[(.int p1), (.int p2), (.int p3)] below meth c TJ1 LJ1 0 0) → (TJ1.heap = hJ1) → (Old Z n0 hJ1) → (Fr n0 LJ1) → (s.Since vmJ1 kJ1) → (kJ1 ≤ hJ1.size) → (Z.Warmed39 (s.setVm vmJ1).vm) → ((s.setVm vmJ1).vm.findClass "com/example/hearsay_rules/hearsayrules/ProblemTextPinLaw" = some m.cls) → (CHr Z EL s.vm h0 vmJ1 hJ1) → Go p e below (DoneW s Z EL (QL n0) room_1.cells room_1.slots) TJ1 (mkF m 15 #[iv p1, iv p2, iv p3, .unset, .unset, .unset, .unset, .unset, .unset] [(.ref sv)]) := by
    intro TJ1 hJ1 vmJ1 kJ1 LJ1 sv XJ1 eJ1 OJ1 NJ1 hSJ1 hkJ1 hZJ1 hownJ1 CRJ1
    refine Go.st (f' := (mkF m 16 #[iv p1, iv p2, iv p3, rv sv, .unset, .unset, .unset, .unset, .unset] [])) (fun _ k => XS.astoreN XJ1.here hx rfl (hb hby at_15) rfl rfl (l' := #[iv p1, iv p2, iv p3, rv sv, .unset, .unset, .unset, .unset, .unset]) rfl k) ?_
    refine Go.st (f' := (mkF m 17 #[iv p1, iv p2, iv p3, rv sv, .unset, .unset, .unset, .unset, .unset] [(.int p1)])) (fun _ k => XS.iloadN XJ1.here hx rfl (hb hby at_16) rfl k) ?_
    refine Go.st (f' := (mkF m 18 #[iv p1, iv p2, iv p3, rv sv, .unset, .unset, .unset, .unset, .unset] [(.int 3), (.int p1)])) (fun _ k => XS.iconst XJ1.here hx rfl (hb hby at_17) k) ?_
    refine Go.st (f' := (mkF m 19 #[iv p1, iv p2, iv p3, rv sv, .unset, .unset, .unset, .unset, .unset] [(.int (p1 &&& (3 : Int32)))])) (fun _ k => XS.iand XJ1.here hx rfl (hb hby at_18) rfl k) ?_
    obtain ⟨yy2, hyy2⟩ : ∃ z, z = (p1 &&& (3 : Int32)) := ⟨_, rfl⟩
    rw [← hyy2]
    refine Go.st (f' := (mkF m 21 #[iv p1, iv p2, iv p3, rv sv, iv yy2, .unset, .unset, .unset, .unset] [])) (fun _ k => XS.istore XJ1.here hx rfl (hb hby at_19) rfl (l' := #[iv p1, iv p2, iv p3, rv sv, iv yy2, .unset, .unset, .unset, .unset]) rfl k) ?_
    refine Go.st (f' := (mkF m 23 #[iv p1, iv p2, iv p3, rv sv, iv yy2, .unset, .unset, .unset, .unset] [(.int yy2)])) (fun _ k => XS.iload XJ1.here hx rfl (hb hby at_21) rfl k) ?_
    by_cases cd3 : yy2 = (0 : Int32)
    · refine Go.st (f' := (mkF m 26 #[iv p1, iv p2, iv p3, rv sv, iv yy2, .unset, .unset, .unset, .unset] [])) (fun _ k => XS.ifNo XJ1.here hx rfl (hb hby at_23) rfl ((if0 _ _).trans (teq cd3).2) k) ?_
      refine Go.st (f' := (mkF m 27 #[iv p1, iv p2, iv p3, rv sv, iv yy2, .unset, .unset, .unset, .unset] [.null])) (fun _ k => XS.aconstNull XJ1.here hx rfl (hb hby at_26) k) ?_
      refine Go.st (f' := (mkF m 53 #[iv p1, iv p2, iv p3, rv sv, iv yy2, .unset, .unset, .unset, .unset] [.null])) (fun _ k => XS.goto XJ1.here hx rfl (pc0 := 27) (pc' := 53) rfl (hb hby at_27) (by decide) (by decide) k) ?_
      refine Go.st (f' := (mkF m 55 #[iv p1, iv p2, iv p3, rv sv, iv yy2, .val .null, .unset, .unset, .unset] [])) (fun _ k => XS.astore XJ1.here hx rfl (hb hby at_53) rfl rfl (l' := #[iv p1, iv p2, iv p3, rv sv, iv yy2, .val .null, .unset, .unset, .unset]) rfl k) ?_
      refine Go.st (f' := (mkF m 56 #[iv p1, iv p2, iv p3, rv sv, iv yy2, .val .null, .unset, .unset, .unset] [(.int p2)])) (fun _ k => XS.iloadN XJ1.here hx rfl (hb hby at_55) rfl k) ?_
      refine Go.st (f' := (mkF m 57 #[iv p1, iv p2, iv p3, rv sv, iv yy2, .val .null, .unset, .unset, .unset] [(.int 3), (.int p2)])) (fun _ k => XS.iconst XJ1.here hx rfl (hb hby at_56) k) ?_
      refine Go.st (f' := (mkF m 58 #[iv p1, iv p2, iv p3, rv sv, iv yy2, .val .null, .unset, .unset, .unset] [(.int (p2 &&& (3 : Int32)))])) (fun _ k => XS.iand XJ1.here hx rfl (hb hby at_57) rfl k) ?_
      refine Go.st (f' := (mkF m 59 #[iv p1, iv p2, iv p3, rv sv, iv yy2, .val .null, .unset, .unset, .unset] [(.int 3), (.int (p2 &&& (3 : Int32)))])) (fun _ k => XS.iconst XJ1.here hx rfl (hb hby at_58) k) ?_
      refine Go.st (f' := (mkF m 60 #[iv p1, iv p2, iv p3, rv sv, iv yy2, .val .null, .unset, .unset, .unset] [(.int ((p2 &&& (3 : Int32)) % (3 : Int32)))])) (fun _ k => iremM (g := (mkF m 59 #[.val (.int p1), .val (.int p2), .val (.int p3), .val (.ref sv), .val (.int yy2), .val .null, .unset, .unset, .unset] [(.int (3 : Int32)), (.int (p2 &&& (3 : Int32)))])) XJ1 hx rfl (hb hby at_59) rfl (by decide) k) ?_
      refine Go.st (f' := (mkF m 61 #[iv p1, iv p2, iv p3, rv sv, iv yy2, .val .null, .unset, .unset, .unset] [(.int p2), (.int ((p2 &&& (3 : Int32)) % (3 : Int32)))])) (fun _ k => XS.iloadN XJ1.here hx rfl (hb hby at_60) rfl k) ?_
      refine Go.st (f' := (mkF m 63 #[iv p1, iv p2, iv p3, rv sv, iv yy2, .val .null, .unset, .unset, .unset] [(.int 8), (.int p2), (.int ((p2 &&& (3 : Int32)) % (3 : Int32)))])) (fun _ k => XS.bipush XJ1.here hx rfl (hb hby at_61) k) ?_
      refine Go.st (f' := (mkF m 64 #[iv p1, iv p2, iv p3, rv sv, iv yy2, .val .null, .unset, .unset, .unset] [(.int ((p2.toUInt32 >>> ((8 : Int32) &&& 31).toUInt32).toInt32)), (.int ((p2 &&& (3 : Int32)) % (3 : Int32)))])) (fun _ k => XS.iushr XJ1.here hx rfl (hb hby at_63) rfl k) ?_
      refine Go.st (f' := (mkF m 67 #[iv p1, iv p2, iv p3, rv sv, iv yy2, .val .null, .unset, .unset, .unset] [(.int 255), (.int ((p2.toUInt32 >>> ((8 : Int32) &&& 31).toUInt32).toInt32)), (.int ((p2 &&& (3 : Int32)) % (3 : Int32)))])) (fun _ k => XS.sipush XJ1.here hx rfl (hb hby at_64) k) ?_
      refine Go.st (f' := (mkF m 68 #[iv p1, iv p2, iv p3, rv sv, iv yy2, .val .null, .unset, .unset, .unset] [(.int (((p2.toUInt32 >>> ((8 : Int32) &&& 31).toUInt32).toInt32) &&& (255 : Int32))), (.int ((p2 &&& (3 : Int32)) % (3 : Int32)))])) (fun _ k => XS.iand XJ1.here hx rfl (hb hby at_67) rfl k) ?_
      refine Go.st (f' := (mkF m 69 #[iv p1, iv p2, iv p3, rv sv, iv yy2, .val .null, .unset, .unset, .unset] [(.int p2), (.int (((p2.toUInt32 >>> ((8 : Int32) &&& 31).toUInt32).toInt32) &&& (255 : Int32))), (.int ((p2 &&& (3 : Int32)) % (3 : Int32)))])) (fun _ k => XS.iloadN XJ1.here hx rfl (hb hby at_68) rfl k) ?_
      refine Go.st (f' := (mkF m 71 #[iv p1, iv p2, iv p3, rv sv, iv yy2, .val .null, .unset, .unset, .unset] [(.int 16), (.int p2), (.int (((p2.toUInt32 >>> ((8 : Int32) &&& 31).toUInt32).toInt32) &&& (255 : Int32))), (.int ((p2 &&& (3 : Int32)) % (3 : Int32)))])) (fun _ k => XS.bipush XJ1.here hx rfl (hb hby at_69) k) ?_
      refine Go.st (f' := (mkF m 72 #[iv p1, iv p2, iv p3, rv sv, iv yy2, .val .null, .unset, .unset, .unset] [(.int ((p2.toUInt32 >>> ((16 : Int32) &&& 31).toUInt32).toInt32)), (.int (((p2.toUInt32 >>> ((8 : Int32) &&& 31).toUInt32).toInt32) &&& (255 : Int32))), (.int ((p2 &&& (3 : Int32)) % (3 : Int32)))])) (fun _ k => XS.iushr XJ1.here hx rfl (hb hby at_71) rfl k) ?_
      refine Go.st (f' := (mkF m 75 #[iv p1, iv p2, iv p3, rv sv, iv yy2, .val .null, .unset, .unset, .unset] [(.int 255), (.int ((p2.toUInt32 >>> ((16 : Int32) &&& 31).toUInt32).toInt32)), (.int (((p2.toUInt32 >>> ((8 : Int32) &&& 31).toUInt32).toInt32) &&& (255 : Int32))), (.int ((p2 &&& (3 : Int32)) % (3 : Int32)))])) (fun _ k => XS.sipush XJ1.here hx rfl (hb hby at_72) k) ?_
      refine Go.st (f' := (mkF m 76 #[iv p1, iv p2, iv p3, rv sv, iv yy2, .val .null, .unset, .unset, .unset] [(.int (((p2.toUInt32 >>> ((16 : Int32) &&& 31).toUInt32).toInt32) &&& (255 : Int32))), (.int (((p2.toUInt32 >>> ((8 : Int32) &&& 31).toUInt32).toInt32) &&& (255 : Int32))), (.int ((p2 &&& (3 : Int32)) % (3 : Int32)))])) (fun _ k => XS.iand XJ1.here hx rfl (hb hby at_75) rfl k) ?_
      obtain ⟨_, _, ⟨T4, L4, kk4, nn4⟩, -, Xw4, hSw4, hgw4, ⟨Lc4, hQ4, lq4, yq4, zz4, crw4⟩, st4⟩ := callSS XJ1 hx (y := (⟨"com/example/hearsay_rules/hearsayrules/ProblemTextPinLaw", "mk", "(III)Ljava/lang/String;"⟩ : MethodName)) hownJ1 (mvT hZJ1 (ww hw 3 rfl)) (mvT hZJ1 (ww hw 4 rfl)) (mvT hZJ1 (ww hw 5 rfl)) (mvT hZJ1 (ww hw 6 rfl)) (by decide) (own_backW (W := 0) (rmM l Z a0 hw [] ((p2 &&& (3 : Int32)) % (3 : Int32)) (((p2.toUInt32 >>> ((8 : Int32) &&& 31).toUInt32).toInt32) &&& (255 : Int32)) (((p2.toUInt32 >>> ((16 : Int32) &&& 31).toUInt32).toInt32) &&& (255 : Int32)) w_ERROR w_WARNING i_COMPACT_STRINGS v_SIOOBE_FORMATTER hJ1 n0 OJ1 (own_255 _) (own_255 _) WW) hZJ1 (ww hw 6 rfl) (ww hw 5 rfl) (by decide) (by decide) hEL CRJ1.1) (g := (mkF m 76 #[iv p1, iv p2, iv p3, rv sv, iv yy2, .val .null, .unset, .unset, .unset] [(.int (((p2.toUInt32 >>> ((16 : Int32) &&& 31).toUInt32).toInt32) &&& (255 : Int32))), (.int (((p2.toUInt32 >>> ((8 : Int32) &&& 31).toUInt32).toInt32) &&& (255 : Int32))), (.int ((p2 &&& (3 : Int32)) % (3 : Int32)))])) rfl (by rw [hml]; rfl) (argsL := [(.int ((p2 &&& (3 : Int32)) % (3 : Int32))), (.int (((p2.toUInt32 >>> ((8 : Int32) &&& 31).toUInt32).toInt32) &&& (255 : Int32))), (.int (((p2.toUInt32 >>> ((16 : Int32) &&& 31).toUInt32).toInt32) &&& (255 : Int32)))]) (rest := []) (lenOf pd__III_Ljava_lang_String_ rfl) rfl (by show 2 * 0 + _ ≤ _; exact Nat.le_of_eq rfl) (hb hby at_76) (fun _ _ => ⟨rfl, eJ1, (by decide : 0 + 6 ≤ _), (by decide : 0 + 12 ≤ _)⟩)
      dsimp only [Pt.U, Pt.locs, Pt.cells, Pt.slots] at Xw4 lq4 yq4 zz4 st4 hQ4 hSw4 hgw4 crw4
      subst lq4 yq4 zz4
      obtain ⟨X4, hS4, hZ4, hown4⟩ := rebS hSJ1 (by rw [eJ1]; exact hkJ1) Xw4 hSw4 hgw4 hZJ1 hownJ1
      obtain ⟨b4, tt4, kt4, n4, es4, rfl, Nq4, zb4, kq4, eq4, cq4, fq4, vq4, ln4, sl4, si4⟩ := hQ4
      have N4 := Fr.app NJ1 Nq4
      have ne_w_ERROR_b4 : w_ERROR ≠ b4 := Nat.ne_of_lt (Nat.lt_of_lt_of_le lt_w_ERROR (Nat.le_trans OJ1.2.1 zb4))
      have ne_w_WARNING_b4 : w_WARNING ≠ b4 := Nat.ne_of_lt (Nat.lt_of_lt_of_le lt_w_WARNING (Nat.le_trans OJ1.2.1 zb4))
      have g_b4 : n0 ≤ b4 := Nat.le_trans (OJ1.1 ▸ OJ1.2.1) zb4
      have O4 : Old Z n0 T4.heap := OJ1.keep kq4 all0
      have lt_b4 := eq4.lt
      have lt_tt4 := vq4.lt
      have nt_b4_tt4 : b4 ≠ tt4 := Exa.neArv eq4 vq4 (ww hw 8 rfl)
      have hk4 : T4.heap.size ≤ T4.heap.size := Nat.le_refl _
      have CR4 := CRJ1.trans crw4
      refine Go.tr (f' := (mkF m 79 #[iv p1, iv p2, iv p3, rv sv, iv yy2, .val .null, .unset, .unset, .unset] [(.ref b4)])) st4 ?_
      refine Go.st (f' := (mkF m 81 #[iv p1, iv p2, iv p3, rv sv, iv yy2, .val .null, rv b4, .unset, .unset] [])) (fun _ k => XS.astore X4.here hx rfl (hb hby at_79) rfl rfl (l' := #[iv p1, iv p2, iv p3, rv sv, iv yy2, .val .null, rv b4, .unset, .unset]) rfl k) ?_
      obtain ⟨T5, h5, X5, e5, E5, A5, D5, -, st5⟩ := newO X4 hx hZ4 hown4 (ww hw 29 rfl) (ww hw 30 rfl) (ww hw 31 rfl) rfl (g := (mkF m 81 #[iv p1, iv p2, iv p3, rv sv, iv yy2, .val .null, rv b4, .unset, .unset] [])) rfl (hb hby at_81) (by decide) (by decide)
      obtain ⟨b5, g5⟩ : ∃ z, z = T4.heap.size := ⟨_, rfl⟩
      rw [← g5] at A5 D5 st5
      have ne_b4_b5 : b4 ≠ b5 := Nat.ne_of_lt (Nat.lt_of_lt_of_eq lt_b4 g5.symm)
      have ne_tt4_b5 : tt4 ≠ b5 := Nat.ne_of_lt (Nat.lt_of_lt_of_eq lt_tt4 g5.symm)
      have ne_w_ERROR_b5 : w_ERROR ≠ b5 := Nat.ne_of_lt (Nat.lt_of_lt_of_le lt_w_ERROR (Nat.le_trans O4.2.1 (Nat.le_of_eq g5.symm)))
      have ne_w_WARNING_b5 : w_WARNING ≠ b5 := Nat.ne_of_lt (Nat.lt_of_lt_of_le lt_w_WARNING (Nat.le_trans O4.2.1 (Nat.le_of_eq g5.symm)))
      have g_b5 : n0 ≤ b5 := Nat.le_trans (O4.1 ▸ O4.2.1) (Nat.le_of_eq g5.symm)
      have O5 : Old Z n0 h5 := O4.ext E5
      have CR5 : CHr Z EL s.vm h0 T4.vm h5 := CR4.trans (CHr.ext E5 CR4.1)
      have sf_b5 : Safe Z EL T4.vm h5 b5 := (Safe.new (Nat.le_of_eq g5.symm)).ext E5 CR4.1
      have lt_b5 := A5.lt
      have F_severity_b5 : Fld Z h5 b5 "com/example/hearsay_rules/hearsayrules/Problem" "severity" "Lcom/example/hearsay_rules/hearsayrules/Problem$Severity;" .null := D5 (Or.inr (ww hw 42 rfl)) (ty := (.object "com/example/hearsay_rules/hearsayrules/Problem$Severity")) (by decide)
      have F_position_b5 : Fld Z h5 b5 "com/example/hearsay_rules/hearsayrules/Problem" "position" "Ljava/lang/String;" .null := D5 (Or.inr (ww hw 44 rfl)) (ty := (.object "java/lang/String")) (by decide)
      have F_message_b5 : Fld Z h5 b5 "com/example/hearsay_rules/hearsayrules/Problem" "message" "Ljava/lang/String;" .null := D5 (Or.inr (ww hw 46 rfl)) (ty := (.object "java/lang/String")) (by decide)
      refine Go.st (f' := (mkF m 84 #[iv p1, iv p2, iv p3, rv sv, iv yy2, .val .null, rv b4, .unset, .unset] [(.ref b5)])) (fun _ k => st5 _ k) ?_
      refine Go.st (f' := (mkF m 85 #[iv p1, iv p2, iv p3, rv sv, iv yy2, .val .null, rv b4, .unset, .unset] [(.ref b5), (.ref b5)])) (fun _ k => XS.dup X5.here hx rfl (hb hby at_84) rfl rfl k) ?_
      refine Go.st (f' := (mkF m 86 #[iv p1, iv p2, iv p3, rv sv, iv yy2, .val .null, rv b4, .unset, .unset] [(.ref sv), (.ref b5), (.ref b5)])) (fun _ k => XS.aloadN X5.here hx rfl (hb hby at_85) rfl rfl k) ?_
      refine Go.st (f' := (mkF m 88 #[iv p1, iv p2, iv p3, rv sv, iv yy2, .val .null, rv b4, .unset, .unset] [.null, (.ref sv), (.ref b5), (.ref b5)])) (fun _ k => XS.aload X5.here hx rfl (hb hby at_86) rfl rfl k) ?_
      refine Go.st (f' := (mkF m 90 #[iv p1, iv p2, iv p3, rv sv, iv yy2, .val .null, rv b4, .unset, .unset] [(.ref b4), .null, (.ref sv), (.ref b5), (.ref b5)])) (fun _ k => XS.aload X5.here hx rfl (hb hby at_88) rfl rfl k) ?_
      obtain ⟨_, _, ⟨T6, L6, kk6, nn6⟩, -, X6, ⟨Lc6, hQ6, lq6, yq6, zz6⟩, st6⟩ := X5.specialBack hx (y := (⟨"com/example/hearsay_rules/hearsayrules/Problem", "<init>", "(Lcom/example/hearsay_rules/hearsayrules/Problem$Severity;Ljava/lang/String;Ljava/lang/String;)V"⟩ : MethodName)) rfl hown4 (mvT hZ4 (ww hw 32 rfl)) (mvT hZ4 (ww hw 33 rfl)) (mvT hZ4 (ww hw 34 rfl)) (by decide) (own_back (W := 1) (rmP1 l Z a0 hw [] b5 sv b4 h5 n0 O5 g_b5 A5 F_severity_b5 F_position_b5 F_message_b5 ) hZ4 (ww hw 34 rfl) (ww hw 31 rfl) (by decide) (by decide)) (g := (mkF m 90 #[iv p1, iv p2, iv p3, rv sv, iv yy2, .val .null, rv b4, .unset, .unset] [(.ref b4), .null, (.ref sv), (.ref b5), (.ref b5)])) rfl (by rw [hml]; rfl) (Steps.refl _) (a := b5) (argsL := [(.ref sv), .null, (.ref b4)]) (rest := [(.ref b5)]) (lenOf pd__Lcom_example_hearsay_rules_hearsayrules_Problem_Severity_Ljava_lang_String_Ljava_lang_String__V rfl) rfl (by show 2 * 0 + _ ≤ _; exact Nat.le_of_eq rfl) (hb hby at_90) (fun _ _ => ⟨rfl, e5, (by decide : 7 + 0 ≤ _), (by decide : 15 + 0 ≤ _)⟩)
      dsimp only [Pt.U, Pt.locs, Pt.cells, Pt.slots] at X6 lq6 yq6 zz6 st6 hQ6
      subst lq6 yq6 zz6
      obtain ⟨rfl, Nq6, kq6, eq6, fq6_0, fq6_1, fq6_2⟩ := hQ6
      have N6 := Fr.app N4 Nq6
      have O6 : Old Z n0 T6.heap := O5.keep kq6 (allS g_b5 all0)
      have CR6 : CHr Z EL s.vm h0 T4.vm T6.heap := CR5.trans (CHr.keep kq6 (sfS sf_b5 sf0) CR5.1)
      refine Go.tr (f' := (mkF m 93 #[iv p1, iv p2, iv p3, rv sv, iv yy2, .val .null, rv b4, .unset, .unset] [(.ref b5)])) st6 ?_
      obtain ⟨cq7, kq7, q7a, q7b, q7c⟩ := isOf hZ4 rfl eq6
      obtain ⟨_, _, ⟨T7, L7, kk7, nn7⟩, -, X7, ⟨Lc7, hQ7, lq7, yq7, zz7⟩, st7⟩ := X6.virtualBack hx (y := (⟨"com/example/hearsay_rules/hearsayrules/Problem", "text", "()Ljava/lang/String;"⟩ : MethodName)) (z := (⟨"com/example/hearsay_rules/hearsayrules/Problem", "text", "()Ljava/lang/String;"⟩ : MethodName)) hown4 (mvT hZ4 (ww hw 47 rfl)) (mvT hZ4 (ww hw 48 rfl)) (notFace_of_selects (args := #[]) (mvT hZ4 (ww hw 50 rfl))) (mvT hZ4 (ww hw 50 rfl)) (mvT hZ4 (ww hw 49 rfl)) (by decide) (own_back (W := 0) (rmTn l Z a0 hw [] b5 b4 T6.heap n0 O6 eq6 fq6_1 fq6_2) hZ4 (ww hw 51 rfl) (ww hw 31 rfl) (by decide) (by decide)) q7a q7c (g := (mkF m 93 #[iv p1, iv p2, iv p3, rv sv, iv yy2, .val .null, rv b4, .unset, .unset] [(.ref b5)])) rfl (by rw [hml]; rfl) (Steps.refl _) (argsL := []) (rest := []) (lenOf pd___Ljava_lang_String_ rfl) rfl (by show 2 * 0 + _ ≤ _; exact Nat.le_of_eq rfl) (hb hby at_93) (fun _ _ => ⟨rfl, rfl, (by decide : 7 + 0 ≤ _), (by decide : 15 + 0 ≤ _)⟩)
      dsimp only [Pt.U, Pt.locs, Pt.cells, Pt.slots] at X7 lq7 yq7 zz7 st7 hQ7
      subst lq7 yq7 zz7
      obtain ⟨rfl, Nq7, kq7⟩ := hQ7
      have N7 := Fr.app N6 Nq7
      refine Go.tr (f' := (mkF m 96 #[iv p1, iv p2, iv p3, rv sv, iv yy2, .val .null, rv b4, .unset, .unset] [(.ref b4)])) st7 ?_
      refine Go.st (f' := (mkF m 98 #[iv p1, iv p2, iv p3, rv sv, iv yy2, .val .null, rv b4, rv b4, .unset] [])) (fun _ k => XS.astore X7.here hx rfl (hb hby at_96) rfl rfl (l' := #[iv p1, iv p2, iv p3, rv sv, iv yy2, .val .null, rv b4, rv b4, .unset]) rfl k) ?_
      refine Go.st (f' := (mkF m 100 #[iv p1, iv p2, iv p3, rv sv, iv yy2, .val .null, rv b4, rv b4, .unset] [.null])) (fun _ k => XS.aload X7.here hx rfl (hb hby at_98) rfl rfl k) ?_
      refine Go.st (f' := (mkF m 103 #[iv p1, iv p2, iv p3, rv sv, iv yy2, .val .null, rv b4, rv b4, .unset] [])) (fun _ k => XS.ifnonnullNo X7.here hx rfl (hb hby at_100) rfl k) ?_
      refine Go.st (f' := (mkF m 105 #[iv p1, iv p2, iv p3, rv sv, iv yy2, .val .null, rv b4, rv b4, .unset] [(.ref b4)])) (fun _ k => XS.aload X7.here hx rfl (hb hby at_103) rfl rfl k) ?_
      refine Go.st (f' := (mkF m 108 #[iv p1, iv p2, iv p3, rv sv, iv yy2, .val .null, rv b4, rv b4, .unset] [])) (fun _ k => XS.ifnullNo X7.here hx rfl (hb hby at_105) rfl k) ?_
      refine Go.st (f' := (mkF m 110 #[iv p1, iv p2, iv p3, rv sv, iv yy2, .val .null, rv b4, rv b4, .unset] [(.ref b4)])) (fun _ k => XS.aload X7.here hx rfl (hb hby at_108) rfl rfl k) ?_
      refine Go.st (f' := (mkF m 112 #[iv p1, iv p2, iv p3, rv sv, iv yy2, .val .null, rv b4, rv b4, .unset] [(.ref b4), (.ref b4)])) (fun _ k => XS.aload X7.here hx rfl (hb hby at_110) rfl rfl k) ?_
      have ft9 := ((eq4.ext E5).keep kq6)
      obtain ⟨cq8, kq8, q8a, q8b, q8c⟩ := isOf hZ4 kq7 ft9
      obtain ⟨_, _, ⟨T8, L8, kk8, nn8⟩, -, X8, ⟨Lc8, hQ8, lq8, yq8, zz8⟩, st8⟩ := X7.virtualBack hx (y := (⟨"java/lang/String", "equals", "(Ljava/lang/Object;)Z"⟩ : MethodName)) (z := (⟨"java/lang/String", "equals", "(Ljava/lang/Object;)Z"⟩ : MethodName)) hown4 (mvT hZ4 (ww hw 52 rfl)) (mvT hZ4 (ww hw 53 rfl)) (notFace_of_selects (args := #[]) (mvT hZ4 (ww hw 55 rfl))) (mvT hZ4 (ww hw 55 rfl)) (mvT hZ4 (ww hw 54 rfl)) (by decide) (own_back (W := 0) (st_eqs l Z a0 hw [] b4 T6.heap n0 O6) hZ4 (ww hw 56 rfl) (ww hw 9 rfl) (by decide) (by decide)) q8a q8c (g := (mkF m 112 #[iv p1, iv p2, iv p3, rv sv, iv yy2, .val .null, rv b4, rv b4, .unset] [(.ref b4), (.ref b4)])) rfl (by rw [hml]; rfl) (Steps.refl _) (argsL := [(.ref b4)]) (rest := []) (lenOf pd__Ljava_lang_Object__Z rfl) rfl (by show 2 * 0 + _ ≤ _; exact Nat.le_of_eq rfl) (hb hby at_112) (fun _ _ => ⟨rfl, kq7, (by decide : 7 + 0 ≤ _), (by decide : 15 + 0 ≤ _)⟩)
      dsimp only [Pt.U, Pt.locs, Pt.cells, Pt.slots] at X8 lq8 yq8 zz8 st8 hQ8
      subst lq8 yq8 zz8
      obtain ⟨rfl, Nq8, kq8⟩ := hQ8
      have N8 := Fr.app N7 Nq8
      refine Go.tr (f' := (mkF m 115 #[iv p1, iv p2, iv p3, rv sv, iv yy2, .val .null, rv b4, rv b4, .unset] [(.int 1)])) st8 ?_
      refine Go.st (f' := (mkF m 118 #[iv p1, iv p2, iv p3, rv sv, iv yy2, .val .null, rv b4, rv b4, .unset] [])) (fun _ k => XS.ifNo X8.here hx rfl (hb hby at_115) rfl (by decide) k) ?_
      refine Go.st (f' := (mkF m 119 #[iv p1, iv p2, iv p3, rv sv, iv yy2, .val .null, rv b4, rv b4, .unset] [(.int 1)])) (fun _ k => XS.iconst X8.here hx rfl (hb hby at_118) k) ?_
      refine Go.st (f' := (mkF m 123 #[iv p1, iv p2, iv p3, rv sv, iv yy2, .val .null, rv b4, rv b4, .unset] [(.int 1)])) (fun _ k => XS.goto X8.here hx rfl (pc0 := 119) (pc' := 123) rfl (hb hby at_119) (by decide) (by decide) k) ?_
      have ft10 := (Nat.le_trans (Nat.le_trans hk4 E5.1) kq6.1)
      refine GoW.retB X8 hlk hx (t := .boolean) hret (by simp) (hb hby at_123) kq8 hS4 ft10 hZ4 hEL CR6 hh ?_ (by decide) (by decide)
      exact ⟨rfl, N8⟩
    · refine Go.st (f' := (mkF m 30 #[iv p1, iv p2, iv p3, rv sv, iv yy2, .unset, .unset, .unset, .unset] [])) (fun _ k => XS.ifYes XJ1.here hx rfl (pc0 := 23) (pc' := 30) rfl (hb hby at_23) rfl ((if0 _ _).trans (feq cd3).2) (by decide) (by decide) k) ?_
      refine Go.st (f' := (mkF m 32 #[iv p1, iv p2, iv p3, rv sv, iv yy2, .unset, .unset, .unset, .unset] [(.int yy2)])) (fun _ k => XS.iload XJ1.here hx rfl (hb hby at_30) rfl k) ?_
      refine Go.st (f' := (mkF m 33 #[iv p1, iv p2, iv p3, rv sv, iv yy2, .unset, .unset, .unset, .unset] [(.int 1), (.int yy2)])) (fun _ k => XS.iconst XJ1.here hx rfl (hb hby at_32) k) ?_
      refine Go.st (f' := (mkF m 34 #[iv p1, iv p2, iv p3, rv sv, iv yy2, .unset, .unset, .unset, .unset] [(.int (yy2 - (1 : Int32)))])) (fun _ k => XS.isub XJ1.here hx rfl (hb hby at_33) rfl k) ?_
      refine Go.st (f' := (mkF m 35 #[iv p1, iv p2, iv p3, rv sv, iv yy2, .unset, .unset, .unset, .unset] [(.int p1), (.int (yy2 - (1 : Int32)))])) (fun _ k => XS.iloadN XJ1.here hx rfl (hb hby at_34) rfl k) ?_
      refine Go.st (f' := (mkF m 37 #[iv p1, iv p2, iv p3, rv sv, iv yy2, .unset, .unset, .unset, .unset] [(.int 8), (.int p1), (.int (yy2 - (1 : Int32)))])) (fun _ k => XS.bipush XJ1.here hx rfl (hb hby at_35) k) ?_
      refine Go.st (f' := (mkF m 38 #[iv p1, iv p2, iv p3, rv sv, iv yy2, .unset, .unset, .unset, .unset] [(.int ((p1.toUInt32 >>> ((8 : Int32) &&& 31).toUInt32).toInt32)), (.int (yy2 - (1 : Int32)))])) (fun _ k => XS.iushr XJ1.here hx rfl (hb hby at_37) rfl k) ?_
      refine Go.st (f' := (mkF m 41 #[iv p1, iv p2, iv p3, rv sv, iv yy2, .unset, .unset, .unset, .unset] [(.int 255), (.int ((p1.toUInt32 >>> ((8 : Int32) &&& 31).toUInt32).toInt32)), (.int (yy2 - (1 : Int32)))])) (fun _ k => XS.sipush XJ1.here hx rfl (hb hby at_38) k) ?_
      refine Go.st (f' := (mkF m 42 #[iv p1, iv p2, iv p3, rv sv, iv yy2, .unset, .unset, .unset, .unset] [(.int (((p1.toUInt32 >>> ((8 : Int32) &&& 31).toUInt32).toInt32) &&& (255 : Int32))), (.int (yy2 - (1 : Int32)))])) (fun _ k => XS.iand XJ1.here hx rfl (hb hby at_41) rfl k) ?_
      refine Go.st (f' := (mkF m 43 #[iv p1, iv p2, iv p3, rv sv, iv yy2, .unset, .unset, .unset, .unset] [(.int p1), (.int (((p1.toUInt32 >>> ((8 : Int32) &&& 31).toUInt32).toInt32) &&& (255 : Int32))), (.int (yy2 - (1 : Int32)))])) (fun _ k => XS.iloadN XJ1.here hx rfl (hb hby at_42) rfl k) ?_
      refine Go.st (f' := (mkF m 45 #[iv p1, iv p2, iv p3, rv sv, iv yy2, .unset, .unset, .unset, .unset] [(.int 16), (.int p1), (.int (((p1.toUInt32 >>> ((8 : Int32) &&& 31).toUInt32).toInt32) &&& (255 : Int32))), (.int (yy2 - (1 : Int32)))])) (fun _ k => XS.bipush XJ1.here hx rfl (hb hby at_43) k) ?_
      refine Go.st (f' := (mkF m 46 #[iv p1, iv p2, iv p3, rv sv, iv yy2, .unset, .unset, .unset, .unset] [(.int ((p1.toUInt32 >>> ((16 : Int32) &&& 31).toUInt32).toInt32)), (.int (((p1.toUInt32 >>> ((8 : Int32) &&& 31).toUInt32).toInt32) &&& (255 : Int32))), (.int (yy2 - (1 : Int32)))])) (fun _ k => XS.iushr XJ1.here hx rfl (hb hby at_45) rfl k) ?_
      refine Go.st (f' := (mkF m 49 #[iv p1, iv p2, iv p3, rv sv, iv yy2, .unset, .unset, .unset, .unset] [(.int 255), (.int ((p1.toUInt32 >>> ((16 : Int32) &&& 31).toUInt32).toInt32)), (.int (((p1.toUInt32 >>> ((8 : Int32) &&& 31).toUInt32).toInt32) &&& (255 : Int32))), (.int (yy2 - (1 : Int32)))])) (fun _ k => XS.sipush XJ1.here hx rfl (hb hby at_46) k) ?_
      refine Go.st (f' := (mkF m 50 #[iv p1, iv p2, iv p3, rv sv, iv yy2, .unset, .unset, .unset, .unset] [(.int (((p1.toUInt32 >>> ((16 : Int32) &&& 31).toUInt32).toInt32) &&& (255 : Int32))), (.int (((p1.toUInt32 >>> ((8 : Int32) &&& 31).toUInt32).toInt32) &&& (255 : Int32))), (.int (yy2 - (1 : Int32)))])) (fun _ k => XS.iand XJ1.here hx rfl (hb hby at_49) rfl k) ?_
      obtain ⟨_, _, ⟨T11, L11, kk11, nn11⟩, -, Xw11, hSw11, hgw11, ⟨Lc11, hQ11, lq11, yq11, zz11, crw11⟩, st11⟩ := callSS XJ1 hx (y := (⟨"com/example/hearsay_rules/hearsayrules/ProblemTextPinLaw", "mk", "(III)Ljava/lang/String;"⟩ : MethodName)) hownJ1 (mvT hZJ1 (ww hw 3 rfl)) (mvT hZJ1 (ww hw 4 rfl)) (mvT hZJ1 (ww hw 5 rfl)) (mvT hZJ1 (ww hw 6 rfl)) (by decide) (own_backW (W := 0) (rmM l Z a0 hw [] (yy2 - (1 : Int32)) (((p1.toUInt32 >>> ((8 : Int32) &&& 31).toUInt32).toInt32) &&& (255 : Int32)) (((p1.toUInt32 >>> ((16 : Int32) &&& 31).toUInt32).toInt32) &&& (255 : Int32)) w_ERROR w_WARNING i_COMPACT_STRINGS v_SIOOBE_FORMATTER hJ1 n0 OJ1 (own_255 _) (own_255 _) WW) hZJ1 (ww hw 6 rfl) (ww hw 5 rfl) (by decide) (by decide) hEL CRJ1.1) (g := (mkF m 50 #[iv p1, iv p2, iv p3, rv sv, iv yy2, .unset, .unset, .unset, .unset] [(.int (((p1.toUInt32 >>> ((16 : Int32) &&& 31).toUInt32).toInt32) &&& (255 : Int32))), (.int (((p1.toUInt32 >>> ((8 : Int32) &&& 31).toUInt32).toInt32) &&& (255 : Int32))), (.int (yy2 - (1 : Int32)))])) rfl (by rw [hml]; rfl) (argsL := [(.int (yy2 - (1 : Int32))), (.int (((p1.toUInt32 >>> ((8 : Int32) &&& 31).toUInt32).toInt32) &&& (255 : Int32))), (.int (((p1.toUInt32 >>> ((16 : Int32) &&& 31).toUInt32).toInt32) &&& (255 : Int32)))]) (rest := []) (lenOf pd__III_Ljava_lang_String_ rfl) rfl (by show 2 * 0 + _ ≤ _; exact Nat.le_of_eq rfl) (hb hby at_50) (fun _ _ => ⟨rfl, eJ1, (by decide : 0 + 6 ≤ _), (by decide : 0 + 12 ≤ _)⟩)
      dsimp only [Pt.U, Pt.locs, Pt.cells, Pt.slots] at Xw11 lq11 yq11 zz11 st11 hQ11 hSw11 hgw11 crw11
      subst lq11 yq11 zz11
      obtain ⟨X11, hS11, hZ11, hown11⟩ := rebS hSJ1 (by rw [eJ1]; exact hkJ1) Xw11 hSw11 hgw11 hZJ1 hownJ1
      obtain ⟨b11, tt11, kt11, n11, es11, rfl, Nq11, zb11, kq11, eq11, cq11, fq11, vq11, ln11, sl11, si11⟩ := hQ11
      have N11 := Fr.app NJ1 Nq11
      have ne_w_ERROR_b11 : w_ERROR ≠ b11 := Nat.ne_of_lt (Nat.lt_of_lt_of_le lt_w_ERROR (Nat.le_trans OJ1.2.1 zb11))
      have ne_w_WARNING_b11 : w_WARNING ≠ b11 := Nat.ne_of_lt (Nat.lt_of_lt_of_le lt_w_WARNING (Nat.le_trans OJ1.2.1 zb11))
      have g_b11 : n0 ≤ b11 := Nat.le_trans (OJ1.1 ▸ OJ1.2.1) zb11
      have O11 : Old Z n0 T11.heap := OJ1.keep kq11 all0
      have lt_b11 := eq11.lt
      have lt_tt11 := vq11.lt
      have nt_b11_tt11 : b11 ≠ tt11 := Exa.neArv eq11 vq11 (ww hw 8 rfl)
      have hk11 : T11.heap.size ≤ T11.heap.size := Nat.le_refl _
      have CR11 := CRJ1.trans crw11
      refine Go.tr (f' := (mkF m 53 #[iv p1, iv p2, iv p3, rv sv, iv yy2, .unset, .unset, .unset, .unset] [(.ref b11)])) st11 ?_
      refine Go.st (f' := (mkF m 55 #[iv p1, iv p2, iv p3, rv sv, iv yy2, rv b11, .unset, .unset, .unset] [])) (fun _ k => XS.astore X11.here hx rfl (hb hby at_53) rfl rfl (l' := #[iv p1, iv p2, iv p3, rv sv, iv yy2, rv b11, .unset, .unset, .unset]) rfl k) ?_
      refine Go.st (f' := (mkF m 56 #[iv p1, iv p2, iv p3, rv sv, iv yy2, rv b11, .unset, .unset, .unset] [(.int p2)])) (fun _ k => XS.iloadN X11.here hx rfl (hb hby at_55) rfl k) ?_
      refine Go.st (f' := (mkF m 57 #[iv p1, iv p2, iv p3, rv sv, iv yy2, rv b11, .unset, .unset, .unset] [(.int 3), (.int p2)])) (fun _ k => XS.iconst X11.here hx rfl (hb hby at_56) k) ?_
      refine Go.st (f' := (mkF m 58 #[iv p1, iv p2, iv p3, rv sv, iv yy2, rv b11, .unset, .unset, .unset] [(.int (p2 &&& (3 : Int32)))])) (fun _ k => XS.iand X11.here hx rfl (hb hby at_57) rfl k) ?_
      refine Go.st (f' := (mkF m 59 #[iv p1, iv p2, iv p3, rv sv, iv yy2, rv b11, .unset, .unset, .unset] [(.int 3), (.int (p2 &&& (3 : Int32)))])) (fun _ k => XS.iconst X11.here hx rfl (hb hby at_58) k) ?_
      refine Go.st (f' := (mkF m 60 #[iv p1, iv p2, iv p3, rv sv, iv yy2, rv b11, .unset, .unset, .unset] [(.int ((p2 &&& (3 : Int32)) % (3 : Int32)))])) (fun _ k => iremM (g := (mkF m 59 #[.val (.int p1), .val (.int p2), .val (.int p3), .val (.ref sv), .val (.int yy2), .val (.ref b11), .unset, .unset, .unset] [(.int (3 : Int32)), (.int (p2 &&& (3 : Int32)))])) X11 hx rfl (hb hby at_59) rfl (by decide) k) ?_
      refine Go.st (f' := (mkF m 61 #[iv p1, iv p2, iv p3, rv sv, iv yy2, rv b11, .unset, .unset, .unset] [(.int p2), (.int ((p2 &&& (3 : Int32)) % (3 : Int32)))])) (fun _ k => XS.iloadN X11.here hx rfl (hb hby at_60) rfl k) ?_
      refine Go.st (f' := (mkF m 63 #[iv p1, iv p2, iv p3, rv sv, iv yy2, rv b11, .unset, .unset, .unset] [(.int 8), (.int p2), (.int ((p2 &&& (3 : Int32)) % (3 : Int32)))])) (fun _ k => XS.bipush X11.here hx rfl (hb hby at_61) k) ?_
      refine Go.st (f' := (mkF m 64 #[iv p1, iv p2, iv p3, rv sv, iv yy2, rv b11, .unset, .unset, .unset] [(.int ((p2.toUInt32 >>> ((8 : Int32) &&& 31).toUInt32).toInt32)), (.int ((p2 &&& (3 : Int32)) % (3 : Int32)))])) (fun _ k => XS.iushr X11.here hx rfl (hb hby at_63) rfl k) ?_
      refine Go.st (f' := (mkF m 67 #[iv p1, iv p2, iv p3, rv sv, iv yy2, rv b11, .unset, .unset, .unset] [(.int 255), (.int ((p2.toUInt32 >>> ((8 : Int32) &&& 31).toUInt32).toInt32)), (.int ((p2 &&& (3 : Int32)) % (3 : Int32)))])) (fun _ k => XS.sipush X11.here hx rfl (hb hby at_64) k) ?_
      refine Go.st (f' := (mkF m 68 #[iv p1, iv p2, iv p3, rv sv, iv yy2, rv b11, .unset, .unset, .unset] [(.int (((p2.toUInt32 >>> ((8 : Int32) &&& 31).toUInt32).toInt32) &&& (255 : Int32))), (.int ((p2 &&& (3 : Int32)) % (3 : Int32)))])) (fun _ k => XS.iand X11.here hx rfl (hb hby at_67) rfl k) ?_
      refine Go.st (f' := (mkF m 69 #[iv p1, iv p2, iv p3, rv sv, iv yy2, rv b11, .unset, .unset, .unset] [(.int p2), (.int (((p2.toUInt32 >>> ((8 : Int32) &&& 31).toUInt32).toInt32) &&& (255 : Int32))), (.int ((p2 &&& (3 : Int32)) % (3 : Int32)))])) (fun _ k => XS.iloadN X11.here hx rfl (hb hby at_68) rfl k) ?_
      refine Go.st (f' := (mkF m 71 #[iv p1, iv p2, iv p3, rv sv, iv yy2, rv b11, .unset, .unset, .unset] [(.int 16), (.int p2), (.int (((p2.toUInt32 >>> ((8 : Int32) &&& 31).toUInt32).toInt32) &&& (255 : Int32))), (.int ((p2 &&& (3 : Int32)) % (3 : Int32)))])) (fun _ k => XS.bipush X11.here hx rfl (hb hby at_69) k) ?_
      refine Go.st (f' := (mkF m 72 #[iv p1, iv p2, iv p3, rv sv, iv yy2, rv b11, .unset, .unset, .unset] [(.int ((p2.toUInt32 >>> ((16 : Int32) &&& 31).toUInt32).toInt32)), (.int (((p2.toUInt32 >>> ((8 : Int32) &&& 31).toUInt32).toInt32) &&& (255 : Int32))), (.int ((p2 &&& (3 : Int32)) % (3 : Int32)))])) (fun _ k => XS.iushr X11.here hx rfl (hb hby at_71) rfl k) ?_
      refine Go.st (f' := (mkF m 75 #[iv p1, iv p2, iv p3, rv sv, iv yy2, rv b11, .unset, .unset, .unset] [(.int 255), (.int ((p2.toUInt32 >>> ((16 : Int32) &&& 31).toUInt32).toInt32)), (.int (((p2.toUInt32 >>> ((8 : Int32) &&& 31).toUInt32).toInt32) &&& (255 : Int32))), (.int ((p2 &&& (3 : Int32)) % (3 : Int32)))])) (fun _ k => XS.sipush X11.here hx rfl (hb hby at_72) k) ?_
      refine Go.st (f' := (mkF m 76 #[iv p1, iv p2, iv p3, rv sv, iv yy2, rv b11, .unset, .unset, .unset] [(.int (((p2.toUInt32 >>> ((16 : Int32) &&& 31).toUInt32).toInt32) &&& (255 : Int32))), (.int (((p2.toUInt32 >>> ((8 : Int32) &&& 31).toUInt32).toInt32) &&& (255 : Int32))), (.int ((p2 &&& (3 : Int32)) % (3 : Int32)))])) (fun _ k => XS.iand X11.here hx rfl (hb hby at_75) rfl k) ?_
      obtain ⟨_, _, ⟨T12, L12, kk12, nn12⟩, -, Xw12, hSw12, hgw12, ⟨Lc12, hQ12, lq12, yq12, zz12, crw12⟩, st12⟩ := callSS X11 hx (y := (⟨"com/example/hearsay_rules/hearsayrules/ProblemTextPinLaw", "mk", "(III)Ljava/lang/String;"⟩ : MethodName)) hown11 (mvT hZ11 (ww hw 3 rfl)) (mvT hZ11 (ww hw 4 rfl)) (mvT hZ11 (ww hw 5 rfl)) (mvT hZ11 (ww hw 6 rfl)) (by decide) (own_backW (W := 0) (rmM l Z a0 hw [] ((p2 &&& (3 : Int32)) % (3 : Int32)) (((p2.toUInt32 >>> ((8 : Int32) &&& 31).toUInt32).toInt32) &&& (255 : Int32)) (((p2.toUInt32 >>> ((16 : Int32) &&& 31).toUInt32).toInt32) &&& (255 : Int32)) w_ERROR w_WARNING i_COMPACT_STRINGS v_SIOOBE_FORMATTER T11.heap n0 O11 (own_255 _) (own_255 _) WW) hZ11 (ww hw 6 rfl) (ww hw 5 rfl) (by decide) (by decide) hEL CR11.1) (g := (mkF m 76 #[iv p1, iv p2, iv p3, rv sv, iv yy2, rv b11, .unset, .unset, .unset] [(.int (((p2.toUInt32 >>> ((16 : Int32) &&& 31).toUInt32).toInt32) &&& (255 : Int32))), (.int (((p2.toUInt32 >>> ((8 : Int32) &&& 31).toUInt32).toInt32) &&& (255 : Int32))), (.int ((p2 &&& (3 : Int32)) % (3 : Int32)))])) rfl (by rw [hml]; rfl) (argsL := [(.int ((p2 &&& (3 : Int32)) % (3 : Int32))), (.int (((p2.toUInt32 >>> ((8 : Int32) &&& 31).toUInt32).toInt32) &&& (255 : Int32))), (.int (((p2.toUInt32 >>> ((16 : Int32) &&& 31).toUInt32).toInt32) &&& (255 : Int32)))]) (rest := []) (lenOf pd__III_Ljava_lang_String_ rfl) rfl (by show 2 * 0 + _ ≤ _; exact Nat.le_of_eq rfl) (hb hby at_76) (fun _ _ => ⟨rfl, rfl, (by decide : 6 + 6 ≤ _), (by decide : 12 + 12 ≤ _)⟩)
      dsimp only [Pt.U, Pt.locs, Pt.cells, Pt.slots] at Xw12 lq12 yq12 zz12 st12 hQ12 hSw12 hgw12 crw12
      subst lq12 yq12 zz12
      obtain ⟨X12, hS12, hZ12, hown12⟩ := rebS hS11 hk11 Xw12 hSw12 hgw12 hZ11 hown11
      obtain ⟨b12, tt12, kt12, n12, es12, rfl, Nq12, zb12, kq12, eq12, cq12, fq12, vq12, ln12, sl12, si12⟩ := hQ12
      have N12 := Fr.app N11 Nq12
      have ne_b11_b12 : b11 ≠ b12 := Nat.ne_of_lt (Nat.lt_of_lt_of_le lt_b11 zb12)
      have ne_tt11_b12 : tt11 ≠ b12 := Nat.ne_of_lt (Nat.lt_of_lt_of_le lt_tt11 zb12)
      have ne_w_ERROR_b12 : w_ERROR ≠ b12 := Nat.ne_of_lt (Nat.lt_of_lt_of_le lt_w_ERROR (Nat.le_trans O11.2.1 zb12))
      have ne_w_WARNING_b12 : w_WARNING ≠ b12 := Nat.ne_of_lt (Nat.lt_of_lt_of_le lt_w_WARNING (Nat.le_trans O11.2.1 zb12))
      have g_b12 : n0 ≤ b12 := Nat.le_trans (O11.1 ▸ O11.2.1) zb12
      have O12 : Old Z n0 T12.heap := O11.keep kq12 all0
      have lt_b12 := eq12.lt
      have lt_tt12 := vq12.lt
      have ft13 := (eq11.keep kq12)
      have nt_b11_tt12 : b11 ≠ tt12 := Exa.neArv ft13 vq12 (ww hw 8 rfl)
      have nt_b12_tt12 : b12 ≠ tt12 := Exa.neArv eq12 vq12 (ww hw 8 rfl)
      have hk12 : T12.heap.size ≤ T12.heap.size := Nat.le_refl _
      have CR12 := CR11.trans crw12
      refine Go.tr (f' := (mkF m 79 #[iv p1, iv p2, iv p3, rv sv, iv yy2, rv b11, .unset, .unset, .unset] [(.ref b12)])) st12 ?_
      refine Go.st (f' := (mkF m 81 #[iv p1, iv p2, iv p3, rv sv, iv yy2, rv b11, rv b12, .unset, .unset] [])) (fun _ k => XS.astore X12.here hx rfl (hb hby at_79) rfl rfl (l' := #[iv p1, iv p2, iv p3, rv sv, iv yy2, rv b11, rv b12, .unset, .unset]) rfl k) ?_
      obtain ⟨T14, h14, X14, e14, E14, A14, D14, -, st14⟩ := newO X12 hx hZ12 hown12 (ww hw 29 rfl) (ww hw 30 rfl) (ww hw 31 rfl) rfl (g := (mkF m 81 #[iv p1, iv p2, iv p3, rv sv, iv yy2, rv b11, rv b12, .unset, .unset] [])) rfl (hb hby at_81) (by decide) (by decide)
      obtain ⟨b14, g14⟩ : ∃ z, z = T12.heap.size := ⟨_, rfl⟩
      rw [← g14] at A14 D14 st14
      have ft15 := (Nat.lt_of_lt_of_le lt_b11 kq12.1)
      have ne_b11_b14 : b11 ≠ b14 := Nat.ne_of_lt (Nat.lt_of_lt_of_eq ft15 g14.symm)
      have ft16 := (Nat.lt_of_lt_of_le lt_tt11 kq12.1)
      have ne_tt11_b14 : tt11 ≠ b14 := Nat.ne_of_lt (Nat.lt_of_lt_of_eq ft16 g14.symm)
      have ne_b12_b14 : b12 ≠ b14 := Nat.ne_of_lt (Nat.lt_of_lt_of_eq lt_b12 g14.symm)
      have ne_tt12_b14 : tt12 ≠ b14 := Nat.ne_of_lt (Nat.lt_of_lt_of_eq lt_tt12 g14.symm)
      have ne_w_ERROR_b14 : w_ERROR ≠ b14 := Nat.ne_of_lt (Nat.lt_of_lt_of_le lt_w_ERROR (Nat.le_trans O12.2.1 (Nat.le_of_eq g14.symm)))
      have ne_w_WARNING_b14 : w_WARNING ≠ b14 := Nat.ne_of_lt (Nat.lt_of_lt_of_le lt_w_WARNING (Nat.le_trans O12.2.1 (Nat.le_of_eq g14.symm)))
      have g_b14 : n0 ≤ b14 := Nat.le_trans (O12.1 ▸ O12.2.1) (Nat.le_of_eq g14.symm)
      have O14 : Old Z n0 h14 := O12.ext E14
      have CR14 : CHr Z EL s.vm h0 T12.vm h14 := CR12.trans (CHr.ext E14 CR12.1)
      have sf_b14 : Safe Z EL T12.vm h14 b14 := (Safe.new (Nat.le_of_eq g14.symm)).ext E14 CR12.1
      have lt_b14 := A14.lt
      have F_severity_b14 : Fld Z h14 b14 "com/example/hearsay_rules/hearsayrules/Problem" "severity" "Lcom/example/hearsay_rules/hearsayrules/Problem$Severity;" .null := D14 (Or.inr (ww hw 42 rfl)) (ty := (.object "com/example/hearsay_rules/hearsayrules/Problem$Severity")) (by decide)
      have F_position_b14 : Fld Z h14 b14 "com/example/hearsay_rules/hearsayrules/Problem" "position" "Ljava/lang/String;" .null := D14 (Or.inr (ww hw 44 rfl)) (ty := (.object "java/lang/String")) (by decide)
      have F_message_b14 : Fld Z h14 b14 "com/example/hearsay_rules/hearsayrules/Problem" "message" "Ljava/lang/String;" .null := D14 (Or.inr (ww hw 46 rfl)) (ty := (.object "java/lang/String")) (by decide)
      refine Go.st (f' := (mkF m 84 #[iv p1, iv p2, iv p3, rv sv, iv yy2, rv b11, rv b12, .unset, .unset] [(.ref b14)])) (fun _ k => st14 _ k) ?_
      refine Go.st (f' := (mkF m 85 #[iv p1, iv p2, iv p3, rv sv, iv yy2, rv b11, rv b12, .unset, .unset] [(.ref b14), (.ref b14)])) (fun _ k => XS.dup X14.here hx rfl (hb hby at_84) rfl rfl k) ?_
      refine Go.st (f' := (mkF m 86 #[iv p1, iv p2, iv p3, rv sv, iv yy2, rv b11, rv b12, .unset, .unset] [(.ref sv), (.ref b14), (.ref b14)])) (fun _ k => XS.aloadN X14.here hx rfl (hb hby at_85) rfl rfl k) ?_
      refine Go.st (f' := (mkF m 88 #[iv p1, iv p2, iv p3, rv sv, iv yy2, rv b11, rv b12, .unset, .unset] [(.ref b11), (.ref sv), (.ref b14), (.ref b14)])) (fun _ k => XS.aload X14.here hx rfl (hb hby at_86) rfl rfl k) ?_
      refine Go.st (f' := (mkF m 90 #[iv p1, iv p2, iv p3, rv sv, iv yy2, rv b11, rv b12, .unset, .unset] [(.ref b12), (.ref b11), (.ref sv), (.ref b14), (.ref b14)])) (fun _ k => XS.aload X14.here hx rfl (hb hby at_88) rfl rfl k) ?_
      obtain ⟨_, _, ⟨T17, L17, kk17, nn17⟩, -, X17, ⟨Lc17, hQ17, lq17, yq17, zz17⟩, st17⟩ := X14.specialBack hx (y := (⟨"com/example/hearsay_rules/hearsayrules/Problem", "<init>", "(Lcom/example/hearsay_rules/hearsayrules/Problem$Severity;Ljava/lang/String;Ljava/lang/String;)V"⟩ : MethodName)) rfl hown12 (mvT hZ12 (ww hw 32 rfl)) (mvT hZ12 (ww hw 33 rfl)) (mvT hZ12 (ww hw 34 rfl)) (by decide) (own_back (W := 1) (rmP0 l Z a0 hw [] b14 sv b11 b12 h14 n0 O14 g_b14 A14 F_severity_b14 F_position_b14 F_message_b14 ) hZ12 (ww hw 34 rfl) (ww hw 31 rfl) (by decide) (by decide)) (g := (mkF m 90 #[iv p1, iv p2, iv p3, rv sv, iv yy2, rv b11, rv b12, .unset, .unset] [(.ref b12), (.ref b11), (.ref sv), (.ref b14), (.ref b14)])) rfl (by rw [hml]; rfl) (Steps.refl _) (a := b14) (argsL := [(.ref sv), (.ref b11), (.ref b12)]) (rest := [(.ref b14)]) (lenOf pd__Lcom_example_hearsay_rules_hearsayrules_Problem_Severity_Ljava_lang_String_Ljava_lang_String__V rfl) rfl (by show 2 * 0 + _ ≤ _; exact Nat.le_of_eq rfl) (hb hby at_90) (fun _ _ => ⟨rfl, e14, (by decide : 13 + 0 ≤ _), (by decide : 27 + 0 ≤ _)⟩)
      dsimp only [Pt.U, Pt.locs, Pt.cells, Pt.slots] at X17 lq17 yq17 zz17 st17 hQ17
      subst lq17 yq17 zz17
      obtain ⟨rfl, Nq17, kq17, eq17, fq17_0, fq17_1, fq17_2⟩ := hQ17
      have N17 := Fr.app N12 Nq17
      have O17 : Old Z n0 T17.heap := O14.keep kq17 (allS g_b14 all0)
      have CR17 : CHr Z EL s.vm h0 T12.vm T17.heap := CR14.trans (CHr.keep kq17 (sfS sf_b14 sf0) CR14.1)
      refine Go.tr (f' := (mkF m 93 #[iv p1, iv p2, iv p3, rv sv, iv yy2, rv b11, rv b12, .unset, .unset] [(.ref b14)])) st17 ?_
      have ft19 := ((ft13.ext E14).keep kq17)
      have ft20 := (((cq11.keep kq12 nin0).ext E14).keep kq17 (ninS ne_b11_b14 nin0))
      have ft21 := (((fq11.keep kq12 nin0).ext E14).keep kq17 (ninS ne_b11_b14 nin0))
      have ft22 := (((vq11.keep kq12 nin0).ext E14).keep kq17 (ninS ne_tt11_b14 nin0))
      have ft23 := ((eq12.ext E14).keep kq17)
      have ft24 := ((cq12.ext E14).keep kq17 (ninS ne_b12_b14 nin0))
      have ft25 := ((fq12.ext E14).keep kq17 (ninS ne_b12_b14 nin0))
      have ft26 := ((vq12.ext E14).keep kq17 (ninS ne_tt12_b14 nin0))
      obtain ⟨cq18, kq_18, q18a, q18b, q18c⟩ := isOf hZ12 rfl eq17
      obtain ⟨_, _, ⟨T18, L18, kk18, nn18⟩, -, Xw18, hSw18, hgw18, ⟨Lc18, hQ18, lq18, yq18, zz18, crw18⟩, st18⟩ := X17.virtualBackS hx (y := (⟨"com/example/hearsay_rules/hearsayrules/Problem", "text", "()Ljava/lang/String;"⟩ : MethodName)) (z := (⟨"com/example/hearsay_rules/hearsayrules/Problem", "text", "()Ljava/lang/String;"⟩ : MethodName)) hown12 (mvT hZ12 (ww hw 47 rfl)) (mvT hZ12 (ww hw 48 rfl)) (notFace_of_selects (args := #[]) (mvT hZ12 (ww hw 50 rfl))) (mvT hZ12 (ww hw 50 rfl)) (mvT hZ12 (ww hw 49 rfl)) (by decide) (own_backW (W := 0) (rmT l Z a0 hw [] b14 b11 tt11 kt11 n11 es11 b12 tt12 kt12 n12 es12 w_ERROR w_WARNING i_COMPACT_STRINGS v_SIOOBE_FORMATTER T17.heap n0 O17 ln11 ln12 sl11 sl12 eq17 fq17_1 fq17_2 ft19 ft20 ft21 ft22 ft23 ft24 ft25 ft26 WW) hZ12 (ww hw 51 rfl) (ww hw 31 rfl) (by decide) (by decide) hEL CR17.1) q18a q18c (g := (mkF m 93 #[iv p1, iv p2, iv p3, rv sv, iv yy2, rv b11, rv b12, .unset, .unset] [(.ref b14)])) rfl (by rw [hml]; rfl) (Steps.refl _) (argsL := []) (rest := []) (lenOf pd___Ljava_lang_String_ rfl) rfl (by show 2 * 0 + _ ≤ _; exact Nat.le_of_eq rfl) (hb hby at_93) (fun _ _ => ⟨rfl, rfl, (by decide : 13 + 6 ≤ _), (by decide : 27 + 42 ≤ _)⟩)
      dsimp only [Pt.U, Pt.locs, Pt.cells, Pt.slots] at Xw18 lq18 yq18 zz18 st18 hQ18 hSw18 hgw18 crw18
      subst lq18 yq18 zz18
      have ft27 := (Nat.le_trans (Nat.le_trans hk12 E14.1) kq17.1)
      obtain ⟨X18, hS18, hZ18, hown18⟩ := rebS hS12 ft27 Xw18 hSw18 hgw18 hZ12 hown12
      obtain ⟨b18, tt18, kt18, n18, rfl, Nq18, zb18, kq18, eq18, cq18, fq18, vq18, ln18⟩ := hQ18
      have N18 := Fr.app N17 Nq18
      have ft28 := (Safe.keep kq17 (sfS sf_b14 sf0) CR14.1 sf_b14)
      have ft29 := (Nat.lt_of_lt_of_le lt_b14 kq17.1)
      have ft30 := (Nat.lt_of_lt_of_le (Nat.lt_of_lt_of_le ft15 E14.1) kq17.1)
      have ne_b11_b18 : b11 ≠ b18 := Nat.ne_of_lt (Nat.lt_of_lt_of_le ft30 zb18)
      have ft31 := (Nat.lt_of_lt_of_le (Nat.lt_of_lt_of_le ft16 E14.1) kq17.1)
      have ne_tt11_b18 : tt11 ≠ b18 := Nat.ne_of_lt (Nat.lt_of_lt_of_le ft31 zb18)
      have ft32 := (Nat.lt_of_lt_of_le (Nat.lt_of_lt_of_le lt_b12 E14.1) kq17.1)
      have ne_b12_b18 : b12 ≠ b18 := Nat.ne_of_lt (Nat.lt_of_lt_of_le ft32 zb18)
      have ft33 := (Nat.lt_of_lt_of_le (Nat.lt_of_lt_of_le lt_tt12 E14.1) kq17.1)
      have ne_tt12_b18 : tt12 ≠ b18 := Nat.ne_of_lt (Nat.lt_of_lt_of_le ft33 zb18)
      have ne_b14_b18 : b14 ≠ b18 := Nat.ne_of_lt (Nat.lt_of_lt_of_le ft29 zb18)
      have ne_w_ERROR_b18 : w_ERROR ≠ b18 := Nat.ne_of_lt (Nat.lt_of_lt_of_le lt_w_ERROR (Nat.le_trans O17.2.1 zb18))
      have ne_w_WARNING_b18 : w_WARNING ≠ b18 := Nat.ne_of_lt (Nat.lt_of_lt_of_le lt_w_WARNING (Nat.le_trans O17.2.1 zb18))
      have g_b18 : n0 ≤ b18 := Nat.le_trans (O17.1 ▸ O17.2.1) zb18
      have O18 : Old Z n0 T18.heap := O17.keep kq18 all0
      have lt_b18 := eq18.lt
      have lt_tt18 := vq18.lt
      have hk18 : T18.heap.size ≤ T18.heap.size := Nat.le_refl _
      have sf34 := crw18.safe ft29 ft28
      have CR18 := CR17.trans crw18
      refine Go.tr (f' := (mkF m 96 #[iv p1, iv p2, iv p3, rv sv, iv yy2, rv b11, rv b12, .unset, .unset] [(.ref b18)])) st18 ?_
      refine Go.st (f' := (mkF m 98 #[iv p1, iv p2, iv p3, rv sv, iv yy2, rv b11, rv b12, rv b18, .unset] [])) (fun _ k => XS.astore X18.here hx rfl (hb hby at_96) rfl rfl (l' := #[iv p1, iv p2, iv p3, rv sv, iv yy2, rv b11, rv b12, rv b18, .unset]) rfl k) ?_
      refine Go.st (f' := (mkF m 100 #[iv p1, iv p2, iv p3, rv sv, iv yy2, rv b11, rv b12, rv b18, .unset] [(.ref b11)])) (fun _ k => XS.aload X18.here hx rfl (hb hby at_98) rfl rfl k) ?_
      refine Go.st (f' := (mkF m 124 #[iv p1, iv p2, iv p3, rv sv, iv yy2, rv b11, rv b12, rv b18, .unset] [])) (fun _ k => XS.ifnonnullYes X18.here hx rfl (pc0 := 100) (pc' := 124) rfl (hb hby at_100) rfl (by decide) (by decide) k) ?_
      refine Go.st (f' := (mkF m 126 #[iv p1, iv p2, iv p3, rv sv, iv yy2, rv b11, rv b12, rv b18, .unset] [(.ref b18)])) (fun _ k => XS.aload X18.here hx rfl (hb hby at_124) rfl rfl k) ?_
      refine Go.st (f' := (mkF m 131 #[iv p1, iv p2, iv p3, rv sv, iv yy2, rv b11, rv b12, rv b18, .unset] [])) (fun _ k => XS.ifnonnullYes X18.here hx rfl (pc0 := 126) (pc' := 131) rfl (hb hby at_126) rfl (by decide) (by decide) k) ?_
      refine Go.st (f' := (mkF m 133 #[iv p1, iv p2, iv p3, rv sv, iv yy2, rv b11, rv b12, rv b18, .unset] [(.ref b11)])) (fun _ k => XS.aload X18.here hx rfl (hb hby at_131) rfl rfl k) ?_
      have ft36 := (ft19.keep kq18)
      have ft37 := (ft20.keep kq18 nin0)
      have ft38 := (ft21.keep kq18 nin0)
      have ft39 := (ft22.keep kq18 nin0)
      obtain ⟨cq35, kq35, q35a, q35b, q35c⟩ := isOf hZ18 rfl ft36
      obtain ⟨_, _, ⟨T35, L35, kk35, nn35⟩, -, X35, ⟨Lc35, hQ35, lq35, yq35, zz35⟩, st35⟩ := X18.virtualBack hx (y := (⟨"java/lang/String", "length", "()I"⟩ : MethodName)) (z := (⟨"java/lang/String", "length", "()I"⟩ : MethodName)) hown18 (mvT hZ18 (ww hw 171 rfl)) (mvT hZ18 (ww hw 88 rfl)) (notFace_of_selects (args := #[]) (mvT hZ18 (ww hw 90 rfl))) (mvT hZ18 (ww hw 90 rfl)) (mvT hZ18 (ww hw 89 rfl)) (by decide) (own_back (W := 0) (slen l Z a0 hw [] b11 tt11 kt11 n11 es11 w_ERROR w_WARNING i_COMPACT_STRINGS v_SIOOBE_FORMATTER T18.heap n0 O18 ft36 ft37 ft38 ft39 WW) hZ18 (ww hw 91 rfl) (ww hw 9 rfl) (by decide) (by decide)) q35a q35c (g := (mkF m 133 #[iv p1, iv p2, iv p3, rv sv, iv yy2, rv b11, rv b12, rv b18, .unset] [(.ref b11)])) rfl (by rw [hml]; rfl) (Steps.refl _) (argsL := []) (rest := []) (lenOf pd___I rfl) rfl (by show 2 * 0 + _ ≤ _; exact Nat.le_of_eq rfl) (hb hby at_133) (fun _ _ => ⟨rfl, rfl, (by decide : 19 + 0 ≤ _), (by decide : 69 + 0 ≤ _)⟩)
      dsimp only [Pt.U, Pt.locs, Pt.cells, Pt.slots] at X35 lq35 yq35 zz35 st35 hQ35
      subst lq35 yq35 zz35
      obtain ⟨rfl, Nq35, kq35⟩ := hQ35
      have N35 := Fr.app N18 Nq35
      refine Go.tr (f' := (mkF m 136 #[iv p1, iv p2, iv p3, rv sv, iv yy2, rv b11, rv b12, rv b18, .unset] [(.int n11)])) st35 ?_
      refine Go.st (f' := (mkF m 137 #[iv p1, iv p2, iv p3, rv sv, iv yy2, rv b11, rv b12, rv b18, .unset] [(.int 2), (.int n11)])) (fun _ k => XS.iconst X35.here hx rfl (hb hby at_136) k) ?_
      refine Go.st (f' := (mkF m 138 #[iv p1, iv p2, iv p3, rv sv, iv yy2, rv b11, rv b12, rv b18, .unset] [(.int (n11 + (2 : Int32)))])) (fun _ k => XS.iadd X35.here hx rfl (hb hby at_137) rfl k) ?_
      refine Go.st (f' := (mkF m 140 #[iv p1, iv p2, iv p3, rv sv, iv yy2, rv b11, rv b12, rv b18, .unset] [(.ref b12), (.int (n11 + (2 : Int32)))])) (fun _ k => XS.aload X35.here hx rfl (hb hby at_138) rfl rfl k) ?_
      have ft41 := (ft23.keep kq18)
      have ft42 := (ft24.keep kq18 nin0)
      have ft43 := (ft25.keep kq18 nin0)
      have ft44 := (ft26.keep kq18 nin0)
      obtain ⟨cq40, kq40, q40a, q40b, q40c⟩ := isOf hZ18 kq35 ft41
      obtain ⟨_, _, ⟨T40, L40, kk40, nn40⟩, -, X40, ⟨Lc40, hQ40, lq40, yq40, zz40⟩, st40⟩ := X35.virtualBack hx (y := (⟨"java/lang/String", "length", "()I"⟩ : MethodName)) (z := (⟨"java/lang/String", "length", "()I"⟩ : MethodName)) hown18 (mvT hZ18 (ww hw 171 rfl)) (mvT hZ18 (ww hw 88 rfl)) (notFace_of_selects (args := #[]) (mvT hZ18 (ww hw 90 rfl))) (mvT hZ18 (ww hw 90 rfl)) (mvT hZ18 (ww hw 89 rfl)) (by decide) (own_back (W := 1) (slen l Z a0 hw [] b12 tt12 kt12 n12 es12 w_ERROR w_WARNING i_COMPACT_STRINGS v_SIOOBE_FORMATTER T18.heap n0 O18 ft41 ft42 ft43 ft44 WW) hZ18 (ww hw 91 rfl) (ww hw 9 rfl) (by decide) (by decide)) q40a q40c (g := (mkF m 140 #[iv p1, iv p2, iv p3, rv sv, iv yy2, rv b11, rv b12, rv b18, .unset] [(.ref b12), (.int (n11 + (2 : Int32)))])) rfl (by rw [hml]; rfl) (Steps.refl _) (argsL := []) (rest := [(.int (n11 + (2 : Int32)))]) (lenOf pd___I rfl) rfl (by show 2 * 0 + _ ≤ _; exact Nat.le_of_eq rfl) (hb hby at_140) (fun _ _ => ⟨rfl, kq35, (by decide : 19 + 0 ≤ _), (by decide : 69 + 0 ≤ _)⟩)
      dsimp only [Pt.U, Pt.locs, Pt.cells, Pt.slots] at X40 lq40 yq40 zz40 st40 hQ40
      subst lq40 yq40 zz40
      obtain ⟨rfl, Nq40, kq40⟩ := hQ40
      have N40 := Fr.app N35 Nq40
      refine Go.tr (f' := (mkF m 143 #[iv p1, iv p2, iv p3, rv sv, iv yy2, rv b11, rv b12, rv b18, .unset] [(.int n12), (.int (n11 + (2 : Int32)))])) st40 ?_
      refine Go.st (f' := (mkF m 144 #[iv p1, iv p2, iv p3, rv sv, iv yy2, rv b11, rv b12, rv b18, .unset] [(.int ((n11 + (2 : Int32)) + n12))])) (fun _ k => XS.iadd X40.here hx rfl (hb hby at_143) rfl k) ?_
      obtain ⟨yy45, hyy45⟩ : ∃ z, z = ((n11 + (2 : Int32)) + n12) := ⟨_, rfl⟩
      rw [← hyy45]
      refine Go.st (f' := (mkF m 146 #[iv p1, iv p2, iv p3, rv sv, iv yy2, rv b11, rv b12, rv b18, iv yy45] [])) (fun _ k => XS.istore X40.here hx rfl (hb hby at_144) rfl (l' := #[iv p1, iv p2, iv p3, rv sv, iv yy2, rv b11, rv b12, rv b18, iv yy45]) rfl k) ?_
      refine Go.st (f' := (mkF m 148 #[iv p1, iv p2, iv p3, rv sv, iv yy2, rv b11, rv b12, rv b18, iv yy45] [(.ref b18)])) (fun _ k => XS.aload X40.here hx rfl (hb hby at_146) rfl rfl k) ?_
      obtain ⟨cq46, kq46, q46a, q46b, q46c⟩ := isOf hZ18 kq40 eq18
      obtain ⟨_, _, ⟨T46, L46, kk46, nn46⟩, -, X46, ⟨Lc46, hQ46, lq46, yq46, zz46⟩, st46⟩ := X40.virtualBack hx (y := (⟨"java/lang/String", "length", "()I"⟩ : MethodName)) (z := (⟨"java/lang/String", "length", "()I"⟩ : MethodName)) hown18 (mvT hZ18 (ww hw 171 rfl)) (mvT hZ18 (ww hw 88 rfl)) (notFace_of_selects (args := #[]) (mvT hZ18 (ww hw 90 rfl))) (mvT hZ18 (ww hw 90 rfl)) (mvT hZ18 (ww hw 89 rfl)) (by decide) (own_back (W := 0) (slen l Z a0 hw [] b18 tt18 kt18 n18 ((([] ++ es11) ++ [(.int (58 : Int32)), (.int (32 : Int32))]) ++ es12) w_ERROR w_WARNING i_COMPACT_STRINGS v_SIOOBE_FORMATTER T18.heap n0 O18 eq18 cq18 fq18 vq18 WW) hZ18 (ww hw 91 rfl) (ww hw 9 rfl) (by decide) (by decide)) q46a q46c (g := (mkF m 148 #[iv p1, iv p2, iv p3, rv sv, iv yy2, rv b11, rv b12, rv b18, iv yy45] [(.ref b18)])) rfl (by rw [hml]; rfl) (Steps.refl _) (argsL := []) (rest := []) (lenOf pd___I rfl) rfl (by show 2 * 0 + _ ≤ _; exact Nat.le_of_eq rfl) (hb hby at_148) (fun _ _ => ⟨rfl, kq40, (by decide : 19 + 0 ≤ _), (by decide : 69 + 0 ≤ _)⟩)
      dsimp only [Pt.U, Pt.locs, Pt.cells, Pt.slots] at X46 lq46 yq46 zz46 st46 hQ46
      subst lq46 yq46 zz46
      obtain ⟨rfl, Nq46, kq46⟩ := hQ46
      have N46 := Fr.app N40 Nq46
      refine Go.tr (f' := (mkF m 151 #[iv p1, iv p2, iv p3, rv sv, iv yy2, rv b11, rv b12, rv b18, iv yy45] [(.int n18)])) st46 ?_
      refine Go.st (f' := (mkF m 153 #[iv p1, iv p2, iv p3, rv sv, iv yy2, rv b11, rv b12, rv b18, iv yy45] [(.int yy45), (.int n18)])) (fun _ k => XS.iload X46.here hx rfl (hb hby at_151) rfl k) ?_
      refine Go.st (f' := (mkF m 158 #[iv p1, iv p2, iv p3, rv sv, iv yy2, rv b11, rv b12, rv b18, iv yy45] [])) (fun _ k => XS.icmpYes X46.here hx rfl (pc0 := 153) (pc' := 158) rfl (hb hby at_153) rfl (teq ((own_sum ln11 ln12 ln18 sl11 sl12).trans hyy45.symm)).1 (by decide) (by decide) k) ?_
      refine Go.st (f' := (mkF m 160 #[iv p1, iv p2, iv p3, rv sv, iv yy2, rv b11, rv b12, rv b18, iv yy45] [(.ref b18)])) (fun _ k => XS.aload X46.here hx rfl (hb hby at_158) rfl rfl k) ?_
      refine Go.st (f' := (mkF m 162 #[iv p1, iv p2, iv p3, rv sv, iv yy2, rv b11, rv b12, rv b18, iv yy45] [(.ref b11), (.ref b18)])) (fun _ k => XS.aload X46.here hx rfl (hb hby at_160) rfl rfl k) ?_
      refine Go.st (f' := (mkF m 164 #[iv p1, iv p2, iv p3, rv sv, iv yy2, rv b11, rv b12, rv b18, iv yy45] [(.ref b12), (.ref b11), (.ref b18)])) (fun _ k => XS.aload X46.here hx rfl (hb hby at_162) rfl rfl k) ?_
      refine Go.st (f' := (mkF m 165 #[iv p1, iv p2, iv p3, rv sv, iv yy2, rv b11, rv b12, rv b18, iv yy45] [(.int 0), (.ref b12), (.ref b11), (.ref b18)])) (fun _ k => XS.iconst X46.here hx rfl (hb hby at_164) k) ?_
      obtain ⟨_, _, ⟨T47, L47, kk47, nn47⟩, -, X47, ⟨Lc47, hQ47, lq47, yq47, zz47⟩, st47⟩ := Jvm.LawKit.callS X46 hx (y := (⟨"com/example/hearsay_rules/hearsayrules/ProblemTextPinLaw", "at", "(Ljava/lang/String;Ljava/lang/String;Ljava/lang/String;I)Z"⟩ : MethodName)) hown18 (mvT hZ18 (ww hw 172 rfl)) (mvT hZ18 (ww hw 173 rfl)) (mvT hZ18 (ww hw 5 rfl)) (mvT hZ18 (ww hw 174 rfl)) (by decide) (own_back (W := 0) (rmAt l Z a0 hw [] b18 tt18 kt18 n18 b11 tt11 kt11 n11 es11 b12 tt12 kt12 n12 es12 (0 : Int32) w_ERROR w_WARNING i_COMPACT_STRINGS v_SIOOBE_FORMATTER T18.heap n0 O18 (by decide) ln18 ln11 ln12 sl11 sl12 si11 si12 eq18 cq18 fq18 vq18 ft36 ft37 ft38 ft39 ft41 ft42 ft43 ft44 WW) hZ18 (ww hw 174 rfl) (ww hw 5 rfl) (by decide) (by decide)) (g := (mkF m 165 #[iv p1, iv p2, iv p3, rv sv, iv yy2, rv b11, rv b12, rv b18, iv yy45] [(.int 0), (.ref b12), (.ref b11), (.ref b18)])) rfl (by rw [hml]; rfl) (argsL := [(.ref b18), (.ref b11), (.ref b12), (.int (0 : Int32))]) (rest := []) (lenOf pd__Ljava_lang_String_Ljava_lang_String_Ljava_lang_String_I_Z rfl) rfl (by show 2 * 0 + _ ≤ _; exact Nat.le_of_eq rfl) (hb hby at_165) (fun _ _ => ⟨rfl, kq46, (by decide : 19 + 0 ≤ _), (by decide : 69 + 0 ≤ _)⟩)
      dsimp only [Pt.U, Pt.locs, Pt.cells, Pt.slots] at X47 lq47 yq47 zz47 st47 hQ47
      subst lq47 yq47 zz47
      obtain ⟨rfl, Nq47, kq47⟩ := hQ47
      have N47 := Fr.app N46 Nq47
      refine Go.st (f' := (mkF m 168 #[iv p1, iv p2, iv p3, rv sv, iv yy2, rv b11, rv b12, rv b18, iv yy45] [(.int 1)])) (fun _ k => st47 _ k) ?_
      refine Go.st (f' := (mkF m 171 #[iv p1, iv p2, iv p3, rv sv, iv yy2, rv b11, rv b12, rv b18, iv yy45] [])) (fun _ k => XS.ifNo X47.here hx rfl (hb hby at_168) rfl (by decide) k) ?_
      refine Go.st (f' := (mkF m 173 #[iv p1, iv p2, iv p3, rv sv, iv yy2, rv b11, rv b12, rv b18, iv yy45] [(.ref b18)])) (fun _ k => XS.aload X47.here hx rfl (hb hby at_171) rfl rfl k) ?_
      refine Go.st (f' := (mkF m 175 #[iv p1, iv p2, iv p3, rv sv, iv yy2, rv b11, rv b12, rv b18, iv yy45] [(.ref b11), (.ref b18)])) (fun _ k => XS.aload X47.here hx rfl (hb hby at_173) rfl rfl k) ?_
      refine Go.st (f' := (mkF m 177 #[iv p1, iv p2, iv p3, rv sv, iv yy2, rv b11, rv b12, rv b18, iv yy45] [(.ref b12), (.ref b11), (.ref b18)])) (fun _ k => XS.aload X47.here hx rfl (hb hby at_175) rfl rfl k) ?_
      refine Go.st (f' := (mkF m 178 #[iv p1, iv p2, iv p3, rv sv, iv yy2, rv b11, rv b12, rv b18, iv yy45] [(.int 1), (.ref b12), (.ref b11), (.ref b18)])) (fun _ k => XS.iconst X47.here hx rfl (hb hby at_177) k) ?_
      obtain ⟨_, _, ⟨T48, L48, kk48, nn48⟩, -, X48, ⟨Lc48, hQ48, lq48, yq48, zz48⟩, st48⟩ := Jvm.LawKit.callS X47 hx (y := (⟨"com/example/hearsay_rules/hearsayrules/ProblemTextPinLaw", "at", "(Ljava/lang/String;Ljava/lang/String;Ljava/lang/String;I)Z"⟩ : MethodName)) hown18 (mvT hZ18 (ww hw 172 rfl)) (mvT hZ18 (ww hw 173 rfl)) (mvT hZ18 (ww hw 5 rfl)) (mvT hZ18 (ww hw 174 rfl)) (by decide) (own_back (W := 0) (rmAt l Z a0 hw [] b18 tt18 kt18 n18 b11 tt11 kt11 n11 es11 b12 tt12 kt12 n12 es12 (1 : Int32) w_ERROR w_WARNING i_COMPACT_STRINGS v_SIOOBE_FORMATTER T18.heap n0 O18 (by decide) ln18 ln11 ln12 sl11 sl12 si11 si12 eq18 cq18 fq18 vq18 ft36 ft37 ft38 ft39 ft41 ft42 ft43 ft44 WW) hZ18 (ww hw 174 rfl) (ww hw 5 rfl) (by decide) (by decide)) (g := (mkF m 178 #[iv p1, iv p2, iv p3, rv sv, iv yy2, rv b11, rv b12, rv b18, iv yy45] [(.int 1), (.ref b12), (.ref b11), (.ref b18)])) rfl (by rw [hml]; rfl) (argsL := [(.ref b18), (.ref b11), (.ref b12), (.int (1 : Int32))]) (rest := []) (lenOf pd__Ljava_lang_String_Ljava_lang_String_Ljava_lang_String_I_Z rfl) rfl (by show 2 * 0 + _ ≤ _; exact Nat.le_of_eq rfl) (hb hby at_178) (fun _ _ => ⟨rfl, kq47, (by decide : 19 + 0 ≤ _), (by decide : 69 + 0 ≤ _)⟩)
      dsimp only [Pt.U, Pt.locs, Pt.cells, Pt.slots] at X48 lq48 yq48 zz48 st48 hQ48
      subst lq48 yq48 zz48
      obtain ⟨rfl, Nq48, kq48⟩ := hQ48
      have N48 := Fr.app N47 Nq48
      refine Go.st (f' := (mkF m 181 #[iv p1, iv p2, iv p3, rv sv, iv yy2, rv b11, rv b12, rv b18, iv yy45] [(.int 1)])) (fun _ k => st48 _ k) ?_
      refine Go.st (f' := (mkF m 184 #[iv p1, iv p2, iv p3, rv sv, iv yy2, rv b11, rv b12, rv b18, iv yy45] [])) (fun _ k => XS.ifNo X48.here hx rfl (hb hby at_181) rfl (by decide) k) ?_
      refine Go.st (f' := (mkF m 186 #[iv p1, iv p2, iv p3, rv sv, iv yy2, rv b11, rv b12, rv b18, iv yy45] [(.ref b18)])) (fun _ k => XS.aload X48.here hx rfl (hb hby at_184) rfl rfl k) ?_
      refine Go.st (f' := (mkF m 188 #[iv p1, iv p2, iv p3, rv sv, iv yy2, rv b11, rv b12, rv b18, iv yy45] [(.ref b11), (.ref b18)])) (fun _ k => XS.aload X48.here hx rfl (hb hby at_186) rfl rfl k) ?_
      refine Go.st (f' := (mkF m 190 #[iv p1, iv p2, iv p3, rv sv, iv yy2, rv b11, rv b12, rv b18, iv yy45] [(.ref b12), (.ref b11), (.ref b18)])) (fun _ k => XS.aload X48.here hx rfl (hb hby at_188) rfl rfl k) ?_
      refine Go.st (f' := (mkF m 191 #[iv p1, iv p2, iv p3, rv sv, iv yy2, rv b11, rv b12, rv b18, iv yy45] [(.int 2), (.ref b12), (.ref b11), (.ref b18)])) (fun _ k => XS.iconst X48.here hx rfl (hb hby at_190) k) ?_
      obtain ⟨_, _, ⟨T49, L49, kk49, nn49⟩, -, X49, ⟨Lc49, hQ49, lq49, yq49, zz49⟩, st49⟩ := Jvm.LawKit.callS X48 hx (y := (⟨"com/example/hearsay_rules/hearsayrules/ProblemTextPinLaw", "at", "(Ljava/lang/String;Ljava/lang/String;Ljava/lang/String;I)Z"⟩ : MethodName)) hown18 (mvT hZ18 (ww hw 172 rfl)) (mvT hZ18 (ww hw 173 rfl)) (mvT hZ18 (ww hw 5 rfl)) (mvT hZ18 (ww hw 174 rfl)) (by decide) (own_back (W := 0) (rmAt l Z a0 hw [] b18 tt18 kt18 n18 b11 tt11 kt11 n11 es11 b12 tt12 kt12 n12 es12 (2 : Int32) w_ERROR w_WARNING i_COMPACT_STRINGS v_SIOOBE_FORMATTER T18.heap n0 O18 (by decide) ln18 ln11 ln12 sl11 sl12 si11 si12 eq18 cq18 fq18 vq18 ft36 ft37 ft38 ft39 ft41 ft42 ft43 ft44 WW) hZ18 (ww hw 174 rfl) (ww hw 5 rfl) (by decide) (by decide)) (g := (mkF m 191 #[iv p1, iv p2, iv p3, rv sv, iv yy2, rv b11, rv b12, rv b18, iv yy45] [(.int 2), (.ref b12), (.ref b11), (.ref b18)])) rfl (by rw [hml]; rfl) (argsL := [(.ref b18), (.ref b11), (.ref b12), (.int (2 : Int32))]) (rest := []) (lenOf pd__Ljava_lang_String_Ljava_lang_String_Ljava_lang_String_I_Z rfl) rfl (by show 2 * 0 + _ ≤ _; exact Nat.le_of_eq rfl) (hb hby at_191) (fun _ _ => ⟨rfl, kq48, (by decide : 19 + 0 ≤ _), (by decide : 69 + 0 ≤ _)⟩)
      dsimp only [Pt.U, Pt.locs, Pt.cells, Pt.slots] at X49 lq49 yq49 zz49 st49 hQ49
      subst lq49 yq49 zz49
      obtain ⟨rfl, Nq49, kq49⟩ := hQ49
      have N49 := Fr.app N48 Nq49
      refine Go.st (f' := (mkF m 194 #[iv p1, iv p2, iv p3, rv sv, iv yy2, rv b11, rv b12, rv b18, iv yy45] [(.int 1)])) (fun _ k => st49 _ k) ?_
      refine Go.st (f' := (mkF m 197 #[iv p1, iv p2, iv p3, rv sv, iv yy2, rv b11, rv b12, rv b18, iv yy45] [])) (fun _ k => XS.ifNo X49.here hx rfl (hb hby at_194) rfl (by decide) k) ?_
      refine Go.st (f' := (mkF m 199 #[iv p1, iv p2, iv p3, rv sv, iv yy2, rv b11, rv b12, rv b18, iv yy45] [(.ref b18)])) (fun _ k => XS.aload X49.here hx rfl (hb hby at_197) rfl rfl k) ?_
      refine Go.st (f' := (mkF m 201 #[iv p1, iv p2, iv p3, rv sv, iv yy2, rv b11, rv b12, rv b18, iv yy45] [(.ref b11), (.ref b18)])) (fun _ k => XS.aload X49.here hx rfl (hb hby at_199) rfl rfl k) ?_
      refine Go.st (f' := (mkF m 203 #[iv p1, iv p2, iv p3, rv sv, iv yy2, rv b11, rv b12, rv b18, iv yy45] [(.ref b12), (.ref b11), (.ref b18)])) (fun _ k => XS.aload X49.here hx rfl (hb hby at_201) rfl rfl k) ?_
      refine Go.st (f' := (mkF m 204 #[iv p1, iv p2, iv p3, rv sv, iv yy2, rv b11, rv b12, rv b18, iv yy45] [(.int 3), (.ref b12), (.ref b11), (.ref b18)])) (fun _ k => XS.iconst X49.here hx rfl (hb hby at_203) k) ?_
      obtain ⟨_, _, ⟨T50, L50, kk50, nn50⟩, -, X50, ⟨Lc50, hQ50, lq50, yq50, zz50⟩, st50⟩ := Jvm.LawKit.callS X49 hx (y := (⟨"com/example/hearsay_rules/hearsayrules/ProblemTextPinLaw", "at", "(Ljava/lang/String;Ljava/lang/String;Ljava/lang/String;I)Z"⟩ : MethodName)) hown18 (mvT hZ18 (ww hw 172 rfl)) (mvT hZ18 (ww hw 173 rfl)) (mvT hZ18 (ww hw 5 rfl)) (mvT hZ18 (ww hw 174 rfl)) (by decide) (own_back (W := 0) (rmAt l Z a0 hw [] b18 tt18 kt18 n18 b11 tt11 kt11 n11 es11 b12 tt12 kt12 n12 es12 (3 : Int32) w_ERROR w_WARNING i_COMPACT_STRINGS v_SIOOBE_FORMATTER T18.heap n0 O18 (by decide) ln18 ln11 ln12 sl11 sl12 si11 si12 eq18 cq18 fq18 vq18 ft36 ft37 ft38 ft39 ft41 ft42 ft43 ft44 WW) hZ18 (ww hw 174 rfl) (ww hw 5 rfl) (by decide) (by decide)) (g := (mkF m 204 #[iv p1, iv p2, iv p3, rv sv, iv yy2, rv b11, rv b12, rv b18, iv yy45] [(.int 3), (.ref b12), (.ref b11), (.ref b18)])) rfl (by rw [hml]; rfl) (argsL := [(.ref b18), (.ref b11), (.ref b12), (.int (3 : Int32))]) (rest := []) (lenOf pd__Ljava_lang_String_Ljava_lang_String_Ljava_lang_String_I_Z rfl) rfl (by show 2 * 0 + _ ≤ _; exact Nat.le_of_eq rfl) (hb hby at_204) (fun _ _ => ⟨rfl, kq49, (by decide : 19 + 0 ≤ _), (by decide : 69 + 0 ≤ _)⟩)
      dsimp only [Pt.U, Pt.locs, Pt.cells, Pt.slots] at X50 lq50 yq50 zz50 st50 hQ50
      subst lq50 yq50 zz50
      obtain ⟨rfl, Nq50, kq50⟩ := hQ50
      have N50 := Fr.app N49 Nq50
      refine Go.st (f' := (mkF m 207 #[iv p1, iv p2, iv p3, rv sv, iv yy2, rv b11, rv b12, rv b18, iv yy45] [(.int 1)])) (fun _ k => st50 _ k) ?_
      refine Go.st (f' := (mkF m 210 #[iv p1, iv p2, iv p3, rv sv, iv yy2, rv b11, rv b12, rv b18, iv yy45] [])) (fun _ k => XS.ifNo X50.here hx rfl (hb hby at_207) rfl (by decide) k) ?_
      refine Go.st (f' := (mkF m 212 #[iv p1, iv p2, iv p3, rv sv, iv yy2, rv b11, rv b12, rv b18, iv yy45] [(.ref b18)])) (fun _ k => XS.aload X50.here hx rfl (hb hby at_210) rfl rfl k) ?_
      refine Go.st (f' := (mkF m 214 #[iv p1, iv p2, iv p3, rv sv, iv yy2, rv b11, rv b12, rv b18, iv yy45] [(.ref b11), (.ref b18)])) (fun _ k => XS.aload X50.here hx rfl (hb hby at_212) rfl rfl k) ?_
      refine Go.st (f' := (mkF m 216 #[iv p1, iv p2, iv p3, rv sv, iv yy2, rv b11, rv b12, rv b18, iv yy45] [(.ref b12), (.ref b11), (.ref b18)])) (fun _ k => XS.aload X50.here hx rfl (hb hby at_214) rfl rfl k) ?_
      refine Go.st (f' := (mkF m 217 #[iv p1, iv p2, iv p3, rv sv, iv yy2, rv b11, rv b12, rv b18, iv yy45] [(.int 4), (.ref b12), (.ref b11), (.ref b18)])) (fun _ k => XS.iconst X50.here hx rfl (hb hby at_216) k) ?_
      obtain ⟨_, _, ⟨T51, L51, kk51, nn51⟩, -, X51, ⟨Lc51, hQ51, lq51, yq51, zz51⟩, st51⟩ := Jvm.LawKit.callS X50 hx (y := (⟨"com/example/hearsay_rules/hearsayrules/ProblemTextPinLaw", "at", "(Ljava/lang/String;Ljava/lang/String;Ljava/lang/String;I)Z"⟩ : MethodName)) hown18 (mvT hZ18 (ww hw 172 rfl)) (mvT hZ18 (ww hw 173 rfl)) (mvT hZ18 (ww hw 5 rfl)) (mvT hZ18 (ww hw 174 rfl)) (by decide) (own_back (W := 0) (rmAt l Z a0 hw [] b18 tt18 kt18 n18 b11 tt11 kt11 n11 es11 b12 tt12 kt12 n12 es12 (4 : Int32) w_ERROR w_WARNING i_COMPACT_STRINGS v_SIOOBE_FORMATTER T18.heap n0 O18 (by decide) ln18 ln11 ln12 sl11 sl12 si11 si12 eq18 cq18 fq18 vq18 ft36 ft37 ft38 ft39 ft41 ft42 ft43 ft44 WW) hZ18 (ww hw 174 rfl) (ww hw 5 rfl) (by decide) (by decide)) (g := (mkF m 217 #[iv p1, iv p2, iv p3, rv sv, iv yy2, rv b11, rv b12, rv b18, iv yy45] [(.int 4), (.ref b12), (.ref b11), (.ref b18)])) rfl (by rw [hml]; rfl) (argsL := [(.ref b18), (.ref b11), (.ref b12), (.int (4 : Int32))]) (rest := []) (lenOf pd__Ljava_lang_String_Ljava_lang_String_Ljava_lang_String_I_Z rfl) rfl (by show 2 * 0 + _ ≤ _; exact Nat.le_of_eq rfl) (hb hby at_217) (fun _ _ => ⟨rfl, kq50, (by decide : 19 + 0 ≤ _), (by decide : 69 + 0 ≤ _)⟩)
      dsimp only [Pt.U, Pt.locs, Pt.cells, Pt.slots] at X51 lq51 yq51 zz51 st51 hQ51
      subst lq51 yq51 zz51
      obtain ⟨rfl, Nq51, kq51⟩ := hQ51
      have N51 := Fr.app N50 Nq51
      refine Go.st (f' := (mkF m 220 #[iv p1, iv p2, iv p3, rv sv, iv yy2, rv b11, rv b12, rv b18, iv yy45] [(.int 1)])) (fun _ k => st51 _ k) ?_
      refine Go.st (f' := (mkF m 223 #[iv p1, iv p2, iv p3, rv sv, iv yy2, rv b11, rv b12, rv b18, iv yy45] [])) (fun _ k => XS.ifNo X51.here hx rfl (hb hby at_220) rfl (by decide) k) ?_
      refine Go.st (f' := (mkF m 225 #[iv p1, iv p2, iv p3, rv sv, iv yy2, rv b11, rv b12, rv b18, iv yy45] [(.ref b18)])) (fun _ k => XS.aload X51.here hx rfl (hb hby at_223) rfl rfl k) ?_
      refine Go.st (f' := (mkF m 227 #[iv p1, iv p2, iv p3, rv sv, iv yy2, rv b11, rv b12, rv b18, iv yy45] [(.ref b11), (.ref b18)])) (fun _ k => XS.aload X51.here hx rfl (hb hby at_225) rfl rfl k) ?_
      refine Go.st (f' := (mkF m 229 #[iv p1, iv p2, iv p3, rv sv, iv yy2, rv b11, rv b12, rv b18, iv yy45] [(.ref b12), (.ref b11), (.ref b18)])) (fun _ k => XS.aload X51.here hx rfl (hb hby at_227) rfl rfl k) ?_
      refine Go.st (f' := (mkF m 230 #[iv p1, iv p2, iv p3, rv sv, iv yy2, rv b11, rv b12, rv b18, iv yy45] [(.int 5), (.ref b12), (.ref b11), (.ref b18)])) (fun _ k => XS.iconst X51.here hx rfl (hb hby at_229) k) ?_
      obtain ⟨_, _, ⟨T52, L52, kk52, nn52⟩, -, X52, ⟨Lc52, hQ52, lq52, yq52, zz52⟩, st52⟩ := Jvm.LawKit.callS X51 hx (y := (⟨"com/example/hearsay_rules/hearsayrules/ProblemTextPinLaw", "at", "(Ljava/lang/String;Ljava/lang/String;Ljava/lang/String;I)Z"⟩ : MethodName)) hown18 (mvT hZ18 (ww hw 172 rfl)) (mvT hZ18 (ww hw 173 rfl)) (mvT hZ18 (ww hw 5 rfl)) (mvT hZ18 (ww hw 174 rfl)) (by decide) (own_back (W := 0) (rmAt l Z a0 hw [] b18 tt18 kt18 n18 b11 tt11 kt11 n11 es11 b12 tt12 kt12 n12 es12 (5 : Int32) w_ERROR w_WARNING i_COMPACT_STRINGS v_SIOOBE_FORMATTER T18.heap n0 O18 (by decide) ln18 ln11 ln12 sl11 sl12 si11 si12 eq18 cq18 fq18 vq18 ft36 ft37 ft38 ft39 ft41 ft42 ft43 ft44 WW) hZ18 (ww hw 174 rfl) (ww hw 5 rfl) (by decide) (by decide)) (g := (mkF m 230 #[iv p1, iv p2, iv p3, rv sv, iv yy2, rv b11, rv b12, rv b18, iv yy45] [(.int 5), (.ref b12), (.ref b11), (.ref b18)])) rfl (by rw [hml]; rfl) (argsL := [(.ref b18), (.ref b11), (.ref b12), (.int (5 : Int32))]) (rest := []) (lenOf pd__Ljava_lang_String_Ljava_lang_String_Ljava_lang_String_I_Z rfl) rfl (by show 2 * 0 + _ ≤ _; exact Nat.le_of_eq rfl) (hb hby at_230) (fun _ _ => ⟨rfl, kq51, (by decide : 19 + 0 ≤ _), (by decide : 69 + 0 ≤ _)⟩)
      dsimp only [Pt.U, Pt.locs, Pt.cells, Pt.slots] at X52 lq52 yq52 zz52 st52 hQ52
      subst lq52 yq52 zz52
      obtain ⟨rfl, Nq52, kq52⟩ := hQ52
      have N52 := Fr.app N51 Nq52
      refine Go.st (f' := (mkF m 233 #[iv p1, iv p2, iv p3, rv sv, iv yy2, rv b11, rv b12, rv b18, iv yy45] [(.int 1)])) (fun _ k => st52 _ k) ?_
      refine Go.st (f' := (mkF m 236 #[iv p1, iv p2, iv p3, rv sv, iv yy2, rv b11, rv b12, rv b18, iv yy45] [])) (fun _ k => XS.ifNo X52.here hx rfl (hb hby at_233) rfl (by decide) k) ?_
      refine Go.st (f' := (mkF m 237 #[iv p1, iv p2, iv p3, rv sv, iv yy2, rv b11, rv b12, rv b18, iv yy45] [(.int 1)])) (fun _ k => XS.iconst X52.here hx rfl (hb hby at_236) k) ?_
      refine Go.st (f' := (mkF m 241 #[iv p1, iv p2, iv p3, rv sv, iv yy2, rv b11, rv b12, rv b18, iv yy45] [(.int 1)])) (fun _ k => XS.goto X52.here hx rfl (pc0 := 237) (pc' := 241) rfl (hb hby at_237) (by decide) (by decide) k) ?_
      refine GoW.retB X52 hlk hx (t := .boolean) hret (by simp) (hb hby at_241) kq52 hS18 hk18 hZ18 hEL CR18 hh ?_ (by decide) (by decide)
      exact ⟨rfl, N52⟩
  refine Go.st (f' := (mkF m 1 #[iv p1, iv p2, iv p3, .unset, .unset, .unset, .unset, .unset, .unset] [(.int p3)])) (fun _ k => XS.iloadN X0.here hx rfl (hb hby at_0) rfl k) ?_
  refine Go.st (f' := (mkF m 2 #[iv p1, iv p2, iv p3, .unset, .unset, .unset, .unset, .unset, .unset] [(.int 1), (.int p3)])) (fun _ k => XS.iconst X0.here hx rfl (hb hby at_1) k) ?_
  refine Go.st (f' := (mkF m 3 #[iv p1, iv p2, iv p3, .unset, .unset, .unset, .unset, .unset, .unset] [(.int (p3 &&& (1 : Int32)))])) (fun _ k => XS.iand X0.here hx rfl (hb hby at_2) rfl k) ?_
  by_cases cd53 : (p3 &&& (1 : Int32)) = (0 : Int32)
  · refine Go.st (f' := (mkF m 6 #[iv p1, iv p2, iv p3, .unset, .unset, .unset, .unset, .unset, .unset] [])) (fun _ k => XS.ifNo X0.here hx rfl (hb hby at_3) rfl ((if0 _ _).trans (teq cd53).2) k) ?_
    obtain ⟨T54, X54, e54, st54⟩ := getS2 X0 hx hZ hown (host := "") (Or.inl (ww hw 0 rfl)) Via.refl e0 (S_w_ERROR.ext O0.2) (g := (mkF m 6 #[iv p1, iv p2, iv p3, .unset, .unset, .unset, .unset, .unset, .unset] [])) rfl (hb hby at_6)
    refine Go.st (f' := (mkF m 9 #[iv p1, iv p2, iv p3, .unset, .unset, .unset, .unset, .unset, .unset] [(.ref w_ERROR)])) (fun _ k => st54 _ k) ?_
    refine Go.st (f' := (mkF m 15 #[iv p1, iv p2, iv p3, .unset, .unset, .unset, .unset, .unset, .unset] [(.ref w_ERROR)])) (fun _ k => XS.goto X54.here hx rfl (pc0 := 9) (pc' := 15) rfl (hb hby at_9) (by decide) (by decide) k) ?_
    exact U _ h0 s.vm _ _ w_ERROR X54 e54 O0 N0 hS (Nat.zero_le _) hZ hown CR0
  · refine Go.st (f' := (mkF m 12 #[iv p1, iv p2, iv p3, .unset, .unset, .unset, .unset, .unset, .unset] [])) (fun _ k => XS.ifYes X0.here hx rfl (pc0 := 3) (pc' := 12) rfl (hb hby at_3) rfl ((if0 _ _).trans (feq cd53).2) (by decide) (by decide) k) ?_
    obtain ⟨T55, X55, e55, st55⟩ := getS2 X0 hx hZ hown (host := "") (Or.inl (ww hw 57 rfl)) Via.refl e0 (S_w_WARNING.ext O0.2) (g := (mkF m 12 #[iv p1, iv p2, iv p3, .unset, .unset, .unset, .unset, .unset, .unset] [])) rfl (hb hby at_12)
    refine Go.st (f' := (mkF m 15 #[iv p1, iv p2, iv p3, .unset, .unset, .unset, .unset, .unset, .unset] [(.ref w_WARNING)])) (fun _ k => st55 _ k) ?_
    exact U _ h0 s.vm _ _ w_WARNING X55 e55 O0 N0 hS (Nat.zero_le _) hZ hown CR0
set_option maxRecDepth 65536 in
set_option maxHeartbeats 40000000 in
theorem comes_1 {Post : Tables → Env → Array Value → State → Outcome → State → Prop} (hpost : ∀ tb e args s v u, (limb_1_1.after args s (.returned v) u = true ∧ limb_1_2.after args s (.returned v) u = true ∧ True) → ReturnedEndW s (.returned v) u (Jvm.fieldLocs frame_1_writes args s ++ Jvm.arrayLocs frame_1_arrays args s ++ Jvm.staticLocs frame_1_statics s) 40 2240 → Post tb e args s (.returned v) u) :
    ArmFor flags0 classFile x code maxLocals ret World_1 tables_1 room_1 Calls_1 rest_1 Pre_1 Post := by
  intro l hfl _ _ p e ha hc hk s m args below hf hA hF happ hP
  obtain ⟨hcalls, hrest, hpre⟩ := hP
  obtain ⟨-, -, -, hnamed, -, -, -, hat⟩ := (Spec.applies_iff hf).mp happ
  obtain ⟨hg, hn⟩ := and_e (Cond.before_iff.mp (show (Jvm.Cond.and given_1 narrow_1).before args s = true from hpre))
  obtain ⟨g1, g2⟩ := and_e hg
  obtain ⟨g3, g4⟩ := and_e g2
  obtain ⟨g5, g6⟩ := and_e g4
  obtain ⟨v0, v1, v2, rfl⟩ : ∃ v0 v1 v2 : Value, args = #[v0, v1, v2] := by
    have hs : args.size = 3 := by simpa [Cond.value, given_1] using g1
    obtain ⟨L⟩ := args
    match L, hs with
    | [v0, v1, v2], _ => exact ⟨v0, v1, v2, rfl⟩
  have hw := fun d (hd : d ∈ tables_1) => atoms_spec (ws := Jvm.Cond.code x code maxLocals ret :: tables_1) hat d (List.mem_cons_of_mem _ hd)
  have hfit : Fit s := fun {y c} hc i hi => by
    obtain ⟨ha, rfl⟩ := Array.getElem?_eq_some_iff.mp hc
    have q := List.all_eq_true.mp ((Array.all_eq_true_iff_forall_mem.mp hF) _ (Array.getElem_mem ha)) i (List.mem_range.mpr hi)
    simpa [Array.getElem?_eq_getElem hi] using q
  obtain ⟨hsets, hown0⟩ := atoms_of _ (rest_1_c_eq ▸ (show rest_1_c.before _ s = true from hrest))
  have hr0 := Cond.before_iff.mp hown0
  obtain ⟨i0, ei0⟩ := is_v g3
  obtain rfl : v0 = (.int i0) := Option.some.inj ei0
  obtain ⟨i1, ei1⟩ := is_v g5
  obtain rfl : v1 = (.int i1) := Option.some.inj ei1
  obtain ⟨i2, ei2⟩ := is_v g6
  obtain rfl : v2 = (.int i2) := Option.some.inj ei2
  obtain ⟨q1, q2⟩ := and_e hn
  obtain ⟨w_ERROR, ev_w_ERROR⟩ := exa_v q1
  obtain ⟨w_WARNING, ev_w_WARNING⟩ := exa_v q2
  have S_w_ERROR := Sta.start ev_w_ERROR (Or.inr ⟨hw _ (List.mem_of_getElem? (i := 1) rfl), hw _ (List.mem_of_getElem? (i := 2) rfl)⟩)
  have E_w_ERROR := Exa.start ev_w_ERROR q1
  have S_w_WARNING := Sta.start ev_w_WARNING (Or.inr ⟨hw _ (List.mem_of_getElem? (i := 1) rfl), hw _ (List.mem_of_getElem? (i := 58) rfl)⟩)
  have E_w_WARNING := Exa.start ev_w_WARNING q2
  obtain ⟨i_COMPACT_STRINGS, ev_i_COMPACT_STRINGS⟩ := is_v (Cond.before_iff.mp (hsets _ (List.mem_of_getElem? (i := 1) rfl)))
  have S_i_COMPACT_STRINGS := Sta.start ev_i_COMPACT_STRINGS (Or.inl (hsets _ (List.mem_of_getElem? (i := 0) rfl)))
  have nz_i_COMPACT_STRINGS : ¬ i_COMPACT_STRINGS = (0 : Int32) := own_ne_int (Cond.before_iff.mp (hsets _ (List.mem_of_getElem? (i := 2) rfl))) ev_i_COMPACT_STRINGS
  obtain ⟨v_SIOOBE_FORMATTER, ev_v_SIOOBE_FORMATTER, r_v_SIOOBE_FORMATTER⟩ := isR_v (Cond.before_iff.mp (hsets _ (List.mem_of_getElem? (i := 8) rfl)))
  have S_v_SIOOBE_FORMATTER := Sta.start ev_v_SIOOBE_FORMATTER (Or.inl (hsets _ (List.mem_of_getElem? (i := 7) rfl)))
  have WW : World1 s  w_ERROR w_WARNING  i_COMPACT_STRINGS v_SIOOBE_FORMATTER := ⟨S_i_COMPACT_STRINGS, nz_i_COMPACT_STRINGS, S_v_SIOOBE_FORMATTER, r_v_SIOOBE_FORMATTER, S_w_ERROR, E_w_ERROR, S_w_WARNING, E_w_WARNING⟩
  have hCH : CHv s EL s.vm s.heap := CHv.start (own_EL hw) (fun p hp => hcalls.1 p hp) (hsets _ (List.mem_of_getElem? (i := 2) rfl)) (own_wS hw _ (by simp [Bundle.stringAtoms])) (own_wS hw _ (by simp [Bundle.stringAtoms, Bundle.sN]))
  obtain ⟨n, o, h1, h2, h3, _, L, rfl, ⟨rfl, N⟩, -, hq⟩ := rm0 l s _ hw tables_1 i0 i1 i2  w_ERROR w_WARNING  i_COMPACT_STRINGS v_SIOOBE_FORMATTER s.heap s.heap.size (Old.start s) WW  p e ha hc hk s m _ below hf ((Spec.applies_iff_loose hf).mp happ).1 ⟨rfl, State.Warmed39.refl s, rfl, hCH⟩ trivial
  refine ⟨n, _, h1, h2, h3, hpost _ _ _ _ _ _ ⟨Cond.after_iff.mpr rfl, Cond.after_iff.mpr (eq_i res_at (Term.int_eval (1)) rfl), trivial⟩ ⟨hq.1, hq.2.1, hq.2.2.1, (hq.2.2.2.sift fun y hy => Or.inr (N y hy)).mono (by decide) (by decide)⟩⟩
theorem main_1_1 : Claimed_1_1 := comes_1 fun _ _ _ _ _ _ h hF => ⟨h.1, hF⟩
theorem main_1_2 : Claimed_1_2 := comes_1 fun _ _ _ _ _ _ h hF => ⟨h.2.1, hF⟩
end Jvm.Pilot.@@N@@
namespace Jvm.Pilot.@@N@@
open Jvm Jvm.ClassFile Sem Op Lib Jvm.Free Jvm.Stand Jvm.Pilot.@@N@@.Jvm.D
/-! MADE BY PROGRAM (witnessworld.py) out of the Statement's table words and the real class files: 29 classes; the members and pool entries that the words name. The judged class is class 1, her method 1. -/
namespace start1
open Jvm.ClassFile
def u (s : String) : CpInfo := .utf8 (stringToUtf16 s)
/-- a pool by its gaps: so many unusable entries, then the entry; so many at the end -/
def gap : Nat → List CpInfo → List CpInfo
  | 0, r => r
  | n + 1, r => .unusable :: gap n r
def poolList (es : List (Nat × CpInfo)) (last : Nat) : List CpInfo := es.foldr (fun e r => gap e.1 (e.2 :: r)) (gap last [])
def pool (es : List (Nat × CpInfo)) (last : Nat) : Array CpInfo := ⟨poolList es last⟩
def fileOf (pool : Array CpInfo) (this : Nat) (attrs : Array Attribute := #[]) (ms : Array MethodInfo := #[]) (fl : Nat := 33) (sup : Nat := 0) (ifs : Array Nat := #[]) (fds : Array FieldInfo := #[]) : ClassFile where
  minorVersion := 0
  majorVersion := 65
  constantPool := pool
  accessFlags := fl
  thisClass := this
  superClass := sup
  interfaces := ifs
  fields := fds
  methods := ms
  attributes := attrs
def plain (name : String) (sup : Option ClassId) : Class where
  name := name
  kind := .ordinary
  loader := none
  accessFlags := 33
  super := sup
  interfaces := #[]
  cf := none
  fields := #[]
  methods := #[]
  instanceTypes := #[]
  staticTypes := #[]
  resolved := #[]
  callSites := []
  init := .initialized
  statics := none
  mirror := none

def pool0 : Array CpInfo := pool [(5, u "<init>"), (0, u "()V"), (1, .class_ 10), (1, u "java/lang/Object")] 113

def k0c0 : Code := { maxStack := 0, maxLocals := 1, code := object_method_1_code, exceptionTable := #[], attributes := #[] }
def k0m0 : Method := { name := "<init>", desc := "()V", sig := { parameters := [], returnType := none }, accessFlags := 1, code := some k0c0 }
/-- java/lang/Object -/
def k0 : Class := { plain "java/lang/Object" none with
  accessFlags := 33
  interfaces := #[]
  cf := some (fileOf pool0 8 #[] #[{ accessFlags := 1, nameIndex := 5, descriptorIndex := 6, attributes := #[] }] 33 0 #[] #[])
  fields := #[]
  methods := #[k0m0]
  instanceTypes := #[]
  staticTypes := #[]
  resolved := Array.replicate 124 none
  statics := none }

def pool1 : Array CpInfo := pool [(2, .class_ 4), (1, u "java/lang/Object"), (0, u "<init>"), (0, u "()V"), (0, .fieldref 8 9), (0, .class_ 10), (0, .nameAndType 11 12), (0, u "com/example/hearsay_rules/hearsayrules/Problem$Severity"), (0, u "ERROR"), (0, u "Lcom/example/hearsay_rules/hearsayrules/Problem$Severity;"), (0, .fieldref 8 14), (0, .nameAndType 15 12), (0, u "WARNING"), (0, .methodref 17 18), (0, .class_ 19), (0, .nameAndType 20 21), (0, u "com/example/hearsay_rules/hearsayrules/ProblemTextPinLaw"), (0, u "mk"), (0, u "(III)Ljava/lang/String;"), (0, .class_ 23), (0, u "com/example/hearsay_rules/hearsayrules/Problem"), (0, .methodref 22 25), (0, .nameAndType 5 26), (0, u "(Lcom/example/hearsay_rules/hearsayrules/Problem$Severity;Ljava/lang/String;Ljava/lang/String;)V"), (0, .methodref 22 28), (0, .nameAndType 29 30), (0, u "text"), (0, u "()Ljava/lang/String;"), (0, .methodref 32 33), (0, .class_ 34), (0, .nameAndType 35 36), (0, u "java/lang/String"), (0, u "equals"), (0, u "(Ljava/lang/Object;)Z"), (0, .methodref 32 38), (0, .nameAndType 39 40), (0, u "length"), (0, u "()I"), (0, .methodref 17 42), (0, .nameAndType 43 44), (0, u "at"), (0, u "(Ljava/lang/String;Ljava/lang/String;Ljava/lang/String;I)Z"), (0, .methodref 32 46), (0, .nameAndType 5 47), (0, u "([C)V"), (0, .methodref 32 49), (0, .nameAndType 50 51), (0, u "charAt"), (0, u "(I)C"), (2, u "law"), (0, u "(III)Z")] 5

def k1m0 : Method := { name := "<init>", desc := "()V", sig := { parameters := [], returnType := none }, accessFlags := 1, code := none }
def k1c1 : Code := { maxStack := 5, maxLocals := 9, code := code, exceptionTable := #[], attributes := #[] }
def k1m1 : Method := { name := "law", desc := "(III)Z", sig := { parameters := [.int, .int, .int], returnType := some .boolean }, accessFlags := 9, code := some k1c1 }
def k1c2 : Code := { maxStack := 3, maxLocals := 4, code := method_3_code, exceptionTable := #[], attributes := #[] }
def k1m2 : Method := { name := "mk", desc := "(III)Ljava/lang/String;", sig := { parameters := [.int, .int, .int], returnType := some (.object "java/lang/String") }, accessFlags := 10, code := some k1c2 }
def k1c3 : Code := { maxStack := 3, maxLocals := 6, code := method_4_code, exceptionTable := #[], attributes := #[] }
def k1m3 : Method := { name := "at", desc := "(Ljava/lang/String;Ljava/lang/String;Ljava/lang/String;I)Z", sig := { parameters := [(.object "java/lang/String"), (.object "java/lang/String"), (.object "java/lang/String"), .int], returnType := some .boolean }, accessFlags := 10, code := some k1c3 }
/-- com/example/hearsay_rules/hearsayrules/ProblemTextPinLaw -/
def k1 : Class := { plain "com/example/hearsay_rules/hearsayrules/ProblemTextPinLaw" (some 0) with
  accessFlags := 49
  interfaces := #[]
  cf := some (fileOf pool1 17 #[] #[{ accessFlags := 1, nameIndex := 5, descriptorIndex := 6, attributes := #[] }, { accessFlags := 9, nameIndex := 54, descriptorIndex := 55, attributes := #[] }, { accessFlags := 10, nameIndex := 20, descriptorIndex := 21, attributes := #[] }, { accessFlags := 10, nameIndex := 43, descriptorIndex := 44, attributes := #[] }] 49 2 #[] #[])
  fields := #[]
  methods := #[k1m0, k1m1, k1m2, k1m3]
  instanceTypes := #[]
  staticTypes := #[]
  resolved := Array.replicate 61 none
  statics := none }

def pool2 : Array CpInfo := pool [(1, .class_ 2), (0, u "java/lang/constant/Constable"), (0, .class_ 4), (0, u "java/lang/Object")] 6

/-- java/lang/constant/Constable -/
def k2 : Class := { plain "java/lang/constant/Constable" (some 0) with
  accessFlags := 1537
  interfaces := #[]
  cf := some (fileOf pool2 1 #[] #[] 1537 3 #[] #[])
  fields := #[]
  methods := #[]
  instanceTypes := #[]
  staticTypes := #[]
  resolved := Array.replicate 11 none
  statics := none }

def pool3 : Array CpInfo := pool [(1, .class_ 2), (0, u "java/lang/Comparable"), (0, .class_ 4), (0, u "java/lang/Object")] 7

/-- java/lang/Comparable -/
def k3 : Class := { plain "java/lang/Comparable" (some 0) with
  accessFlags := 1537
  interfaces := #[]
  cf := some (fileOf pool3 1 #[] #[] 1537 3 #[] #[])
  fields := #[]
  methods := #[]
  instanceTypes := #[]
  staticTypes := #[]
  resolved := Array.replicate 12 none
  statics := none }

def pool4 : Array CpInfo := pool [(1, .class_ 2), (0, u "java/io/Serializable"), (0, .class_ 4), (0, u "java/lang/Object")] 2

/-- java/io/Serializable -/
def k4 : Class := { plain "java/io/Serializable" (some 0) with
  accessFlags := 1537
  interfaces := #[]
  cf := some (fileOf pool4 1 #[] #[] 1537 3 #[] #[])
  fields := #[]
  methods := #[]
  instanceTypes := #[]
  staticTypes := #[]
  resolved := Array.replicate 7 none
  statics := none }

def pool5 : Array CpInfo := pool [(2, .class_ 4), (1, u "java/lang/Enum"), (0, u "name"), (0, u "Ljava/lang/String;"), (2, u "ordinal"), (0, u "I"), (1, .class_ 14), (1, u "java/lang/Object"), (4, u "hash"), (86, .class_ 108), (1, u "java/lang/Enum$EnumDesc"), (2, .class_ 112), (0, u "java/lang/constant/Constable"), (0, .class_ 114), (0, u "java/lang/Comparable"), (0, .class_ 116), (0, u "java/io/Serializable")] 87

/-- java/lang/Enum -/
def k5 : Class := { plain "java/lang/Enum" (some 0) with
  accessFlags := 1057
  interfaces := #[2, 3, 4]
  cf := some (fileOf pool5 2 #[.nestMembers #[106]] #[] 1057 12 #[111, 113, 115] #[{ accessFlags := 18, nameIndex := 5, descriptorIndex := 6, attributes := #[] }, { accessFlags := 18, nameIndex := 9, descriptorIndex := 10, attributes := #[] }, { accessFlags := 2, nameIndex := 19, descriptorIndex := 10, attributes := #[] }])
  fields := #[{ name := "name", type := (.object "java/lang/String"), accessFlags := 18, slot := 0, constantValue := 0 }, { name := "ordinal", type := .int, accessFlags := 18, slot := 1, constantValue := 0 }, { name := "hash", type := .int, accessFlags := 2, slot := 2, constantValue := 0 }]
  methods := #[]
  instanceTypes := #[(.object "java/lang/String"), .int, .int]
  staticTypes := #[]
  resolved := Array.replicate 204 none
  statics := none }

def pool6 : Array CpInfo := pool [(1, .class_ 2), (0, u "com/example/hearsay_rules/hearsayrules/Problem$Severity"), (2, u "ERROR"), (0, u "Lcom/example/hearsay_rules/hearsayrules/Problem$Severity;"), (2, u "WARNING"), (2, u "$VALUES"), (0, u "[Lcom/example/hearsay_rules/hearsayrules/Problem$Severity;"), (6, .class_ 22), (1, u "java/lang/Enum"), (25, .class_ 49), (0, u "com/example/hearsay_rules/hearsayrules/Problem")] 2

/-- com/example/hearsay_rules/hearsayrules/Problem$Severity -/
def k6 : Class := { plain "com/example/hearsay_rules/hearsayrules/Problem$Severity" (some 5) with
  accessFlags := 16433
  interfaces := #[]
  cf := some (fileOf pool6 1 #[.nestHost 48] #[] 16433 20 #[] #[{ accessFlags := 16409, nameIndex := 5, descriptorIndex := 6, attributes := #[] }, { accessFlags := 16409, nameIndex := 9, descriptorIndex := 6, attributes := #[] }, { accessFlags := 4122, nameIndex := 12, descriptorIndex := 13, attributes := #[] }])
  fields := #[{ name := "ERROR", type := (.object "com/example/hearsay_rules/hearsayrules/Problem$Severity"), accessFlags := 16409, slot := 0, constantValue := 0 }, { name := "WARNING", type := (.object "com/example/hearsay_rules/hearsayrules/Problem$Severity"), accessFlags := 16409, slot := 1, constantValue := 0 }, { name := "$VALUES", type := (.array (.object "com/example/hearsay_rules/hearsayrules/Problem$Severity")), accessFlags := 4122, slot := 2, constantValue := 0 }]
  methods := #[]
  instanceTypes := #[(.object "java/lang/String"), .int, .int]
  staticTypes := #[(.object "com/example/hearsay_rules/hearsayrules/Problem$Severity"), (.object "com/example/hearsay_rules/hearsayrules/Problem$Severity"), (.array (.object "com/example/hearsay_rules/hearsayrules/Problem$Severity"))]
  resolved := Array.replicate 52 none
  statics := some 0 }

def pool7 : Array CpInfo := pool [(2, .class_ 4), (1, u "java/lang/CharSequence"), (42, .class_ 48), (0, u "java/lang/CharSequence$1CodePointIterator"), (10, .class_ 60), (0, u "java/lang/CharSequence$1CharIterator"), (5, .class_ 67), (0, u "java/lang/Object")] 63

/-- java/lang/CharSequence -/
def k7 : Class := { plain "java/lang/CharSequence" (some 0) with
  accessFlags := 1537
  interfaces := #[]
  cf := some (fileOf pool7 2 #[.nestMembers #[47, 59]] #[] 1537 66 #[] #[])
  fields := #[]
  methods := #[]
  instanceTypes := #[]
  staticTypes := #[]
  resolved := Array.replicate 131 none
  statics := none }

def pool8 : Array CpInfo := pool [(1, .class_ 2), (0, u "java/lang/constant/ConstantDesc"), (0, .class_ 4), (0, u "java/lang/Object")] 32

/-- java/lang/constant/ConstantDesc -/
def k8 : Class := { plain "java/lang/constant/ConstantDesc" (some 0) with
  accessFlags := 1537
  interfaces := #[]
  cf := some (fileOf pool8 1 #[] #[] 1537 3 #[] #[])
  fields := #[]
  methods := #[]
  instanceTypes := #[]
  staticTypes := #[]
  resolved := Array.replicate 37 none
  statics := none }

def pool9 : Array CpInfo := pool [(1, .methodref 2 3), (0, .class_ 4), (0, .nameAndType 5 6), (0, u "java/lang/Object"), (0, u "<init>"), (0, u "()V"), (0, .string 8), (0, u ""), (0, .fieldref 10 11), (0, .class_ 12), (0, .nameAndType 13 14), (0, u "java/lang/String"), (0, u "value"), (0, u "[B"), (0, .fieldref 10 16), (0, .nameAndType 17 18), (0, u "coder"), (0, u "B"), (2, u "hash"), (0, u "I"), (2, u "hashIsZero"), (0, u "Z"), (0, .methodref 10 28), (0, .nameAndType 5 29), (0, u "([CIILjava/lang/Void;)V"), (8, .fieldref 10 39), (0, .nameAndType 40 26), (0, u "COMPACT_STRINGS"), (1, .class_ 44), (1, u "java/lang/StringUTF16"), (0, u "compress"), (1, .methodref 42 48), (0, .nameAndType 49 50), (0, u "coderFromArrayLen"), (0, u "([BI)B"), (3, .methodref 55 56), (0, .class_ 57), (0, .nameAndType 58 59), (0, u "java/util/Arrays"), (0, u "copyOfRange"), (0, u "([BII)[B"), (47, .class_ 109), (1, u "java/lang/StringLatin1"), (32, u "()Z"), (34, .methodref 42 178), (0, .nameAndType 45 179), (0, u "([CII)[B"), (13, .class_ 195), (1, u "java/lang/System"), (16, .methodref 193 213), (0, .nameAndType 214 215), (0, u "arraycopy"), (0, u "(Ljava/lang/Object;ILjava/lang/Object;II)V"), (118, u "()I"), (0, .methodref 10 336), (0, .nameAndType 17 337), (0, u "()B"), (2, u "()[B"), (22, u "([BI)C"), (27, u "(II)V"), (35, u "(I)C"), (61, .methodref 10 490), (0, .nameAndType 5 491), (0, u "(Ljava/lang/AbstractStringBuilder;Ljava/lang/Void;)V"), (0, .methodref 10 493), (0, .nameAndType 494 142), (0, u "isLatin1"), (0, .methodref 107 496), (0, .nameAndType 497 363), (0, u "charAt"), (3, u "checkIndex"), (4, .nameAndType 507 334), (0, u "length"), (24, u "getBytes"), (10, u "equals"), (5, .methodref 550 506), (0, .class_ 551), (0, u "java/lang/AbstractStringBuilder"), (0, .methodref 550 553), (0, .nameAndType 554 340), (0, u "getValue"), (18, u "(Ljava/lang/Object;)Z"), (1, .class_ 576), (0, u "java/lang/CharSequence"), (22, u "CASE_INSENSITIVE_ORDER"), (0, u "Ljava/util/Comparator;"), (220, u "([BIB)V"), (188, u "([C)V"), (36, .methodref 550 493), (5, .fieldref 1054 1055), (0, .class_ 1056), (0, .nameAndType 1057 1058), (0, u "jdk/internal/util/Preconditions"), (0, u "SIOOBE_FORMATTER"), (0, u "Ljava/util/function/BiFunction;"), (0, .methodref 1054 1060), (0, .nameAndType 501 1061), (0, u "(IILjava/util/function/BiFunction;)I"), (39, u "serialPersistentFields"), (0, u "[Ljava/io/ObjectStreamField;"), (0, .class_ 1104), (0, u "java/lang/String$CaseInsensitiveComparator"), (1, .class_ 1107), (0, u "java/io/Serializable"), (0, .class_ 1109), (0, u "java/lang/Comparable"), (0, .class_ 1111), (0, u "java/lang/constant/Constable"), (0, .class_ 1113), (0, u "java/lang/constant/ConstantDesc"), (2, u "serialVersionUID"), (0, u "J"), (3, u "REPL"), (0, u "C"), (2, u "LATIN1"), (1, u "UTF16"), (105, u "(Ljava/lang/StringBuilder;)V")] 217

def k9m0 : Method := { name := "<init>", desc := "()V", sig := { parameters := [], returnType := none }, accessFlags := 1, code := none }
def k9c1 : Code := { maxStack := 5, maxLocals := 2, code := jdk_42_method_3_code, exceptionTable := #[], attributes := #[] }
def k9m1 : Method := { name := "<init>", desc := "([C)V", sig := { parameters := [(.array .char)], returnType := none }, accessFlags := 1, code := some k9c1 }
def k9c2 : Code := { maxStack := 3, maxLocals := 2, code := jdk_42_method_53_code, exceptionTable := #[], attributes := #[] }
def k9m2 : Method := { name := "<init>", desc := "(Ljava/lang/StringBuilder;)V", sig := { parameters := [(.object "java/lang/StringBuilder")], returnType := none }, accessFlags := 1, code := some k9c2 }
def k9c3 : Code := { maxStack := 2, maxLocals := 1, code := jdk_42_method_54_code, exceptionTable := #[], attributes := #[] }
def k9m3 : Method := { name := "length", desc := "()I", sig := { parameters := [], returnType := some .int }, accessFlags := 1, code := some k9c3 }
def k9c4 : Code := { maxStack := 2, maxLocals := 2, code := jdk_42_method_56_code, exceptionTable := #[], attributes := #[] }
def k9m4 : Method := { name := "charAt", desc := "(I)C", sig := { parameters := [.int], returnType := some .char }, accessFlags := 1, code := some k9c4 }
def k9c5 : Code := { maxStack := 2, maxLocals := 3, code := jdk_42_method_66_code, exceptionTable := #[], attributes := #[] }
def k9m5 : Method := { name := "equals", desc := "(Ljava/lang/Object;)Z", sig := { parameters := [(.object "java/lang/Object")], returnType := some .boolean }, accessFlags := 1, code := some k9c5 }
def k9c6 : Code := { maxStack := 5, maxLocals := 4, code := jdk_42_method_147_code, exceptionTable := #[], attributes := #[] }
def k9m6 : Method := { name := "getBytes", desc := "([BIB)V", sig := { parameters := [(.array .byte), .int, .byte], returnType := none }, accessFlags := 0, code := some k9c6 }
def k9c7 : Code := { maxStack := 4, maxLocals := 6, code := jdk_42_method_149_code, exceptionTable := #[], attributes := #[] }
def k9m7 : Method := { name := "<init>", desc := "([CIILjava/lang/Void;)V", sig := { parameters := [(.array .char), .int, .int, (.object "java/lang/Void")], returnType := none }, accessFlags := 2, code := some k9c7 }
def k9c8 : Code := { maxStack := 5, maxLocals := 5, code := jdk_42_method_150_code, exceptionTable := #[], attributes := #[] }
def k9m8 : Method := { name := "<init>", desc := "(Ljava/lang/AbstractStringBuilder;Ljava/lang/Void;)V", sig := { parameters := [(.object "java/lang/AbstractStringBuilder"), (.object "java/lang/Void")], returnType := none }, accessFlags := 0, code := some k9c8 }
def k9c9 : Code := { maxStack := 1, maxLocals := 1, code := jdk_42_method_152_code, exceptionTable := #[], attributes := #[] }
def k9m9 : Method := { name := "coder", desc := "()B", sig := { parameters := [], returnType := some .byte }, accessFlags := 0, code := some k9c9 }
def k9c10 : Code := { maxStack := 1, maxLocals := 1, code := jdk_42_method_154_code, exceptionTable := #[], attributes := #[] }
def k9m10 : Method := { name := "isLatin1", desc := "()Z", sig := { parameters := [], returnType := some .boolean }, accessFlags := 0, code := some k9c10 }
def k9c11 : Code := { maxStack := 3, maxLocals := 2, code := jdk_42_method_155_code, exceptionTable := #[], attributes := #[] }
def k9m11 : Method := { name := "checkIndex", desc := "(II)V", sig := { parameters := [.int, .int], returnType := none }, accessFlags := 8, code := some k9c11 }
/-- java/lang/String -/
def k9 : Class := { plain "java/lang/String" (some 0) with
  accessFlags := 49
  interfaces := #[4, 3, 7, 2, 8]
  cf := some (fileOf pool9 10 #[.nestMembers #[1103]] #[{ accessFlags := 1, nameIndex := 5, descriptorIndex := 6, attributes := #[] }, { accessFlags := 1, nameIndex := 5, descriptorIndex := 1010, attributes := #[] }, { accessFlags := 1, nameIndex := 5, descriptorIndex := 1233, attributes := #[] }, { accessFlags := 1, nameIndex := 507, descriptorIndex := 334, attributes := #[] }, { accessFlags := 1, nameIndex := 497, descriptorIndex := 427, attributes := #[] }, { accessFlags := 1, nameIndex := 543, descriptorIndex := 573, attributes := #[] }, { accessFlags := 0, nameIndex := 532, descriptorIndex := 821, attributes := #[] }, { accessFlags := 2, nameIndex := 5, descriptorIndex := 29, attributes := #[] }, { accessFlags := 0, nameIndex := 5, descriptorIndex := 491, attributes := #[] }, { accessFlags := 0, nameIndex := 17, descriptorIndex := 337, attributes := #[] }, { accessFlags := 0, nameIndex := 494, descriptorIndex := 142, attributes := #[] }, { accessFlags := 8, nameIndex := 501, descriptorIndex := 391, attributes := #[] }] 49 2 #[1106, 1108, 575, 1110, 1112] #[{ accessFlags := 18, nameIndex := 13, descriptorIndex := 14, attributes := #[] }, { accessFlags := 18, nameIndex := 17, descriptorIndex := 18, attributes := #[] }, { accessFlags := 2, nameIndex := 21, descriptorIndex := 22, attributes := #[] }, { accessFlags := 2, nameIndex := 25, descriptorIndex := 26, attributes := #[] }, { accessFlags := 26, nameIndex := 1116, descriptorIndex := 1117, attributes := #[] }, { accessFlags := 24, nameIndex := 40, descriptorIndex := 26, attributes := #[] }, { accessFlags := 26, nameIndex := 1101, descriptorIndex := 1102, attributes := #[] }, { accessFlags := 26, nameIndex := 1121, descriptorIndex := 1122, attributes := #[] }, { accessFlags := 25, nameIndex := 599, descriptorIndex := 600, attributes := #[] }, { accessFlags := 24, nameIndex := 1125, descriptorIndex := 18, attributes := #[] }, { accessFlags := 24, nameIndex := 1127, descriptorIndex := 18, attributes := #[] }])
  fields := #[{ name := "value", type := (.array .byte), accessFlags := 18, slot := 0, constantValue := 0 }, { name := "coder", type := .byte, accessFlags := 18, slot := 1, constantValue := 0 }, { name := "hash", type := .int, accessFlags := 2, slot := 2, constantValue := 0 }, { name := "hashIsZero", type := .boolean, accessFlags := 2, slot := 3, constantValue := 0 }, { name := "serialVersionUID", type := .long, accessFlags := 26, slot := 0, constantValue := 0 }, { name := "COMPACT_STRINGS", type := .boolean, accessFlags := 24, slot := 1, constantValue := 0 }, { name := "serialPersistentFields", type := (.array (.object "java/io/ObjectStreamField")), accessFlags := 26, slot := 2, constantValue := 0 }, { name := "REPL", type := .char, accessFlags := 26, slot := 3, constantValue := 0 }, { name := "CASE_INSENSITIVE_ORDER", type := (.object "java/util/Comparator"), accessFlags := 25, slot := 4, constantValue := 0 }, { name := "LATIN1", type := .byte, accessFlags := 24, slot := 5, constantValue := 0 }, { name := "UTF16", type := .byte, accessFlags := 24, slot := 6, constantValue := 0 }]
  methods := #[k9m0, k9m1, k9m2, k9m3, k9m4, k9m5, k9m6, k9m7, k9m8, k9m9, k9m10, k9m11]
  instanceTypes := #[(.array .byte), .byte, .int, .boolean]
  staticTypes := #[.long, .boolean, (.array (.object "java/io/ObjectStreamField")), .char, (.object "java/util/Comparator"), .byte, .byte]
  resolved := Array.replicate 1451 none
  statics := some 1 }

def pool10 : Array CpInfo := pool [(1, .methodref 2 3), (0, .class_ 4), (0, .nameAndType 5 6), (0, u "java/lang/Object"), (0, u "<init>"), (0, u "()V"), (0, .class_ 8), (0, u "java/lang/Record")] 13

def k10c0 : Code := { maxStack := 1, maxLocals := 1, code := jdk_30_method_1_code, exceptionTable := #[], attributes := #[] }
def k10m0 : Method := { name := "<init>", desc := "()V", sig := { parameters := [], returnType := none }, accessFlags := 4, code := some k10c0 }
/-- java/lang/Record -/
def k10 : Class := { plain "java/lang/Record" (some 0) with
  accessFlags := 1057
  interfaces := #[]
  cf := some (fileOf pool10 7 #[] #[{ accessFlags := 4, nameIndex := 5, descriptorIndex := 6, attributes := #[] }] 1057 2 #[] #[])
  fields := #[]
  methods := #[k10m0]
  instanceTypes := #[]
  staticTypes := #[]
  resolved := Array.replicate 22 none
  statics := none }

def pool11 : Array CpInfo := pool [(1, .methodref 2 3), (0, .class_ 4), (0, .nameAndType 5 6), (0, u "java/lang/Record"), (0, u "<init>"), (0, u "()V"), (0, .fieldref 8 9), (0, .class_ 10), (0, .nameAndType 11 12), (0, u "com/example/hearsay_rules/hearsayrules/Problem"), (0, u "severity"), (0, u "Lcom/example/hearsay_rules/hearsayrules/Problem$Severity;"), (0, .fieldref 8 14), (0, .nameAndType 15 16), (0, u "position"), (0, u "Ljava/lang/String;"), (0, .fieldref 8 18), (0, .nameAndType 19 16), (0, u "message"), (0, .class_ 21), (0, u "java/lang/StringBuilder"), (0, .methodref 20 3), (0, .methodref 20 24), (0, .nameAndType 25 26), (0, u "append"), (0, u "(Ljava/lang/String;)Ljava/lang/StringBuilder;"), (0, .string 28), (0, u ": "), (0, .methodref 20 30), (0, .nameAndType 31 32), (0, u "toString"), (0, u "()Ljava/lang/String;"), (11, .class_ 45), (0, u "java/io/Serializable"), (0, u "(Lcom/example/hearsay_rules/hearsayrules/Problem$Severity;Ljava/lang/String;Ljava/lang/String;)V"), (3, u "text"), (9, .class_ 61), (0, u "com/example/hearsay_rules/hearsayrules/Problem$Severity")] 21

def k11c0 : Code := { maxStack := 2, maxLocals := 4, code := prog_17_method_1_code, exceptionTable := #[], attributes := #[] }
def k11m0 : Method := { name := "<init>", desc := "(Lcom/example/hearsay_rules/hearsayrules/Problem$Severity;Ljava/lang/String;Ljava/lang/String;)V", sig := { parameters := [(.object "com/example/hearsay_rules/hearsayrules/Problem$Severity"), (.object "java/lang/String"), (.object "java/lang/String")], returnType := none }, accessFlags := 1, code := some k11c0 }
def k11c1 : Code := { maxStack := 2, maxLocals := 1, code := prog_17_method_2_code, exceptionTable := #[], attributes := #[] }
def k11m1 : Method := { name := "text", desc := "()Ljava/lang/String;", sig := { parameters := [], returnType := some (.object "java/lang/String") }, accessFlags := 1, code := some k11c1 }
/-- com/example/hearsay_rules/hearsayrules/Problem -/
def k11 : Class := { plain "com/example/hearsay_rules/hearsayrules/Problem" (some 10) with
  accessFlags := 49
  interfaces := #[4]
  cf := some (fileOf pool11 8 #[.nestMembers #[60]] #[{ accessFlags := 1, nameIndex := 5, descriptorIndex := 46, attributes := #[] }, { accessFlags := 1, nameIndex := 50, descriptorIndex := 32, attributes := #[] }] 49 2 #[44] #[{ accessFlags := 18, nameIndex := 11, descriptorIndex := 12, attributes := #[] }, { accessFlags := 18, nameIndex := 15, descriptorIndex := 16, attributes := #[] }, { accessFlags := 18, nameIndex := 19, descriptorIndex := 16, attributes := #[] }])
  fields := #[{ name := "severity", type := (.object "com/example/hearsay_rules/hearsayrules/Problem$Severity"), accessFlags := 18, slot := 0, constantValue := 0 }, { name := "position", type := (.object "java/lang/String"), accessFlags := 18, slot := 1, constantValue := 0 }, { name := "message", type := (.object "java/lang/String"), accessFlags := 18, slot := 2, constantValue := 0 }]
  methods := #[k11m0, k11m1]
  instanceTypes := #[(.object "com/example/hearsay_rules/hearsayrules/Problem$Severity"), (.object "java/lang/String"), (.object "java/lang/String")]
  staticTypes := #[]
  resolved := Array.replicate 83 none
  statics := none }

def pool12 : Array CpInfo := pool [(1, .class_ 2), (0, u "java/lang/Appendable"), (0, .class_ 4), (0, u "java/lang/Object")] 9

/-- java/lang/Appendable -/
def k12 : Class := { plain "java/lang/Appendable" (some 0) with
  accessFlags := 1537
  interfaces := #[]
  cf := some (fileOf pool12 1 #[] #[] 1537 3 #[] #[])
  fields := #[]
  methods := #[]
  instanceTypes := #[]
  staticTypes := #[]
  resolved := Array.replicate 14 none
  statics := none }

def pool13 : Array CpInfo := pool [(1, .class_ 2), (0, u "java/lang/String"), (0, .methodref 4 5), (0, .class_ 6), (0, .nameAndType 7 8), (0, u "java/lang/Object"), (0, u "<init>"), (0, u "()V"), (1, .class_ 12), (1, u "java/lang/AbstractStringBuilder"), (0, u "EMPTYVALUE"), (0, u "[B"), (0, .fieldref 10 16), (0, .nameAndType 17 14), (0, u "value"), (0, .fieldref 1 19), (0, .nameAndType 20 21), (0, u "COMPACT_STRINGS"), (0, u "Z"), (0, .fieldref 10 23), (0, .nameAndType 24 25), (0, u "coder"), (0, u "B"), (6, .methodref 1 33), (0, .nameAndType 34 35), (0, u "length"), (0, u "()I"), (4, .methodref 1 41), (0, .nameAndType 24 42), (0, u "()B"), (2, u "append"), (0, u "(Ljava/lang/String;)Ljava/lang/AbstractStringBuilder;"), (1, .class_ 49), (0, u "java/lang/CharSequence"), (19, u "(Ljava/lang/String;)V"), (5, u "maybeLatin1"), (3, .fieldref 10 80), (0, .nameAndType 81 82), (0, u "count"), (0, u "I"), (2, u "isLatin1"), (0, u "()Z"), (13, .methodref 10 101), (0, .nameAndType 102 103), (0, u "ensureCapacityInternal"), (0, u "(I)V"), (104, .methodref 10 209), (0, .nameAndType 210 211), (0, u "putStringAt"), (0, u "(ILjava/lang/String;)V"), (5, u "inflateIfNeededFor"), (2, .nameAndType 221 222), (0, u "getBytes"), (0, u "([BIB)V"), (174, .methodref 10 398), (0, .nameAndType 217 69), (0, .methodref 1 220), (3, u "()[B"), (40, .class_ 445), (0, u "java/lang/Appendable"), (106, u "getValue")] 56

def k13m0 : Method := { name := "<init>", desc := "()V", sig := { parameters := [], returnType := none }, accessFlags := 0, code := none }
def k13c1 : Code := { maxStack := 2, maxLocals := 2, code := jdk_68_method_2_code, exceptionTable := #[], attributes := #[] }
def k13m1 : Method := { name := "<init>", desc := "(I)V", sig := { parameters := [.int], returnType := none }, accessFlags := 0, code := some k13c1 }
def k13c2 : Code := { maxStack := 1, maxLocals := 1, code := jdk_68_method_6_code, exceptionTable := #[], attributes := #[] }
def k13m2 : Method := { name := "length", desc := "()I", sig := { parameters := [], returnType := some .int }, accessFlags := 1, code := some k13c2 }
def k13c3 : Code := { maxStack := 4, maxLocals := 3, code := jdk_68_method_9_code, exceptionTable := #[], attributes := #[] }
def k13m3 : Method := { name := "ensureCapacityInternal", desc := "(I)V", sig := { parameters := [.int], returnType := none }, accessFlags := 2, code := some k13c3 }
def k13c4 : Code := { maxStack := 3, maxLocals := 3, code := jdk_68_method_22_code, exceptionTable := #[], attributes := #[] }
def k13m4 : Method := { name := "append", desc := "(Ljava/lang/String;)Ljava/lang/AbstractStringBuilder;", sig := { parameters := [(.object "java/lang/String")], returnType := some (.object "java/lang/AbstractStringBuilder") }, accessFlags := 1, code := some k13c4 }
def k13c5 : Code := { maxStack := 1, maxLocals := 1, code := jdk_68_method_64_code, exceptionTable := #[], attributes := #[] }
def k13m5 : Method := { name := "getValue", desc := "()[B", sig := { parameters := [], returnType := some (.array .byte) }, accessFlags := 16, code := some k13c5 }
def k13c6 : Code := { maxStack := 1, maxLocals := 1, code := jdk_68_method_68_code, exceptionTable := #[], attributes := #[] }
def k13m6 : Method := { name := "isLatin1", desc := "()Z", sig := { parameters := [], returnType := some .boolean }, accessFlags := 16, code := some k13c6 }
def k13c7 : Code := { maxStack := 2, maxLocals := 2, code := jdk_68_method_71_code, exceptionTable := #[], attributes := #[] }
def k13m7 : Method := { name := "inflateIfNeededFor", desc := "(Ljava/lang/String;)V", sig := { parameters := [(.object "java/lang/String")], returnType := none }, accessFlags := 2, code := some k13c7 }
def k13c8 : Code := { maxStack := 4, maxLocals := 3, code := jdk_68_method_73_code, exceptionTable := #[], attributes := #[] }
def k13m8 : Method := { name := "putStringAt", desc := "(ILjava/lang/String;)V", sig := { parameters := [.int, (.object "java/lang/String")], returnType := none }, accessFlags := 2, code := some k13c8 }
/-- java/lang/AbstractStringBuilder -/
def k13 : Class := { plain "java/lang/AbstractStringBuilder" (some 0) with
  accessFlags := 1056
  interfaces := #[12, 7]
  cf := some (fileOf pool13 10 #[] #[{ accessFlags := 0, nameIndex := 7, descriptorIndex := 8, attributes := #[] }, { accessFlags := 0, nameIndex := 7, descriptorIndex := 103, attributes := #[] }, { accessFlags := 1, nameIndex := 34, descriptorIndex := 35, attributes := #[] }, { accessFlags := 2, nameIndex := 102, descriptorIndex := 103, attributes := #[] }, { accessFlags := 1, nameIndex := 45, descriptorIndex := 46, attributes := #[] }, { accessFlags := 16, nameIndex := 552, descriptorIndex := 403, attributes := #[] }, { accessFlags := 16, nameIndex := 85, descriptorIndex := 86, attributes := #[] }, { accessFlags := 2, nameIndex := 217, descriptorIndex := 69, attributes := #[] }, { accessFlags := 2, nameIndex := 210, descriptorIndex := 211, attributes := #[] }] 1056 4 #[444, 48] #[{ accessFlags := 0, nameIndex := 17, descriptorIndex := 14, attributes := #[] }, { accessFlags := 0, nameIndex := 24, descriptorIndex := 25, attributes := #[] }, { accessFlags := 0, nameIndex := 75, descriptorIndex := 21, attributes := #[] }, { accessFlags := 0, nameIndex := 81, descriptorIndex := 82, attributes := #[] }, { accessFlags := 26, nameIndex := 13, descriptorIndex := 14, attributes := #[] }])
  fields := #[{ name := "value", type := (.array .byte), accessFlags := 0, slot := 0, constantValue := 0 }, { name := "coder", type := .byte, accessFlags := 0, slot := 1, constantValue := 0 }, { name := "maybeLatin1", type := .boolean, accessFlags := 0, slot := 2, constantValue := 0 }, { name := "count", type := .int, accessFlags := 0, slot := 3, constantValue := 0 }, { name := "EMPTYVALUE", type := (.array .byte), accessFlags := 26, slot := 0, constantValue := 0 }]
  methods := #[k13m0, k13m1, k13m2, k13m3, k13m4, k13m5, k13m6, k13m7, k13m8]
  instanceTypes := #[(.array .byte), .byte, .boolean, .int]
  staticTypes := #[(.array .byte)]
  resolved := Array.replicate 609 none
  statics := none }

def pool14 : Array CpInfo := pool [(1, .methodref 2 3), (0, .class_ 4), (0, .nameAndType 5 6), (0, u "java/lang/AbstractStringBuilder"), (0, u "<init>"), (0, u "(I)V"), (11, .class_ 20), (1, u "java/lang/String"), (3, .class_ 26), (1, u "java/lang/StringBuilder"), (0, u "append"), (0, u "(Ljava/lang/String;)Ljava/lang/StringBuilder;"), (0, .methodref 2 30), (0, .nameAndType 27 31), (0, u "(Ljava/lang/String;)Ljava/lang/AbstractStringBuilder;"), (105, .methodref 18 138), (0, .nameAndType 5 139), (0, u "(Ljava/lang/StringBuilder;)V"), (5, u "()V"), (10, u "()I"), (186, .methodref 2 344), (0, .nameAndType 345 156), (0, u "length"), (3, .class_ 350), (0, u "java/lang/Appendable"), (0, .class_ 352), (0, u "java/io/Serializable"), (0, .class_ 354), (0, u "java/lang/Comparable"), (0, .class_ 356), (0, u "java/lang/CharSequence"), (0, u "serialVersionUID"), (0, u "J"), (40, u "toString"), (0, u "()Ljava/lang/String;")] 21

def k14c0 : Code := { maxStack := 2, maxLocals := 1, code := jdk_67_method_1_code, exceptionTable := #[], attributes := #[] }
def k14m0 : Method := { name := "<init>", desc := "()V", sig := { parameters := [], returnType := none }, accessFlags := 1, code := some k14c0 }
def k14c1 : Code := { maxStack := 2, maxLocals := 2, code := jdk_67_method_7_code, exceptionTable := #[], attributes := #[] }
def k14m1 : Method := { name := "append", desc := "(Ljava/lang/String;)Ljava/lang/StringBuilder;", sig := { parameters := [(.object "java/lang/String")], returnType := some (.object "java/lang/StringBuilder") }, accessFlags := 1, code := some k14c1 }
def k14c2 : Code := { maxStack := 3, maxLocals := 1, code := jdk_67_method_42_code, exceptionTable := #[], attributes := #[] }
def k14m2 : Method := { name := "toString", desc := "()Ljava/lang/String;", sig := { parameters := [], returnType := some (.object "java/lang/String") }, accessFlags := 1, code := some k14c2 }
def k14c3 : Code := { maxStack := 1, maxLocals := 1, code := jdk_67_method_93_code, exceptionTable := #[], attributes := #[] }
def k14m3 : Method := { name := "length", desc := "()I", sig := { parameters := [], returnType := some .int }, accessFlags := 4161, code := some k14c3 }
/-- java/lang/StringBuilder -/
def k14 : Class := { plain "java/lang/StringBuilder" (some 13) with
  accessFlags := 49
  interfaces := #[12, 4, 3, 7]
  cf := some (fileOf pool14 24 #[] #[{ accessFlags := 1, nameIndex := 5, descriptorIndex := 145, attributes := #[] }, { accessFlags := 1, nameIndex := 27, descriptorIndex := 28, attributes := #[] }, { accessFlags := 1, nameIndex := 399, descriptorIndex := 400, attributes := #[] }, { accessFlags := 4161, nameIndex := 345, descriptorIndex := 156, attributes := #[] }] 49 2 #[349, 351, 353, 355] #[{ accessFlags := 24, nameIndex := 357, descriptorIndex := 358, attributes := #[] }])
  fields := #[{ name := "serialVersionUID", type := .long, accessFlags := 24, slot := 0, constantValue := 0 }]
  methods := #[k14m0, k14m1, k14m2, k14m3]
  instanceTypes := #[(.array .byte), .byte, .boolean, .int]
  staticTypes := #[.long]
  resolved := Array.replicate 422 none
  statics := none }

def pool15 : Array CpInfo := pool [(2, .class_ 4), (1, u "java/lang/Object"), (0, u "<init>"), (0, u "()V"), (1, .class_ 10), (1, u "java/lang/System"), (0, u "allowSecurityManager"), (0, u "I"), (16, u "cons"), (0, u "Ljava/io/Console;"), (77, .class_ 110), (1, u "java/lang/System$CallersHolder"), (43, u "initialErrStream"), (0, u "Ljava/io/PrintStream;"), (19, u "security"), (0, u "Ljava/lang/SecurityManager;"), (31, .class_ 209), (0, u "java/lang/System$1"), (7, u "props"), (0, u "Ljava/util/Properties;"), (2, u "lineSeparator"), (0, u "Ljava/lang/String;"), (96, .class_ 321), (1, u "java/lang/System$LoggerFinder"), (5, .class_ 328), (0, u "java/lang/System$Logger"), (67, u "err"), (2, u "out"), (91, u "notSupportedJnuEncoding"), (15, u "in"), (17, u "initialIn"), (0, u "Ljava/io/InputStream;"), (35, u "bootLayer"), (0, u "Ljava/lang/ModuleLayer;"), (99, .class_ 664), (0, u "java/lang/System$2"), (9, u "NEVER"), (2, u "MAYBE"), (49, u "arraycopy"), (0, u "(Ljava/lang/Object;ILjava/lang/Object;II)V"), (72, .class_ 802), (0, u "java/lang/System$Logger$Level")] 31

def k15m0 : Method := { name := "<init>", desc := "()V", sig := { parameters := [], returnType := none }, accessFlags := 2, code := none }
def k15m1 : Method := { name := "arraycopy", desc := "(Ljava/lang/Object;ILjava/lang/Object;II)V", sig := { parameters := [(.object "java/lang/Object"), .int, (.object "java/lang/Object"), .int, .int], returnType := none }, accessFlags := 265, code := none }
/-- java/lang/System -/
def k15 : Class := { plain "java/lang/System" (some 0) with
  accessFlags := 49
  interfaces := #[]
  cf := some (fileOf pool15 8 #[.nestMembers #[319, 327, 801, 108, 663, 208]] #[{ accessFlags := 2, nameIndex := 5, descriptorIndex := 6, attributes := #[] }, { accessFlags := 265, nameIndex := 727, descriptorIndex := 728, attributes := #[] }] 49 2 #[] #[{ accessFlags := 25, nameIndex := 507, descriptorIndex := 526, attributes := #[] }, { accessFlags := 25, nameIndex := 399, descriptorIndex := 155, attributes := #[] }, { accessFlags := 25, nameIndex := 396, descriptorIndex := 155, attributes := #[] }, { accessFlags := 10, nameIndex := 525, descriptorIndex := 526, attributes := #[] }, { accessFlags := 26, nameIndex := 674, descriptorIndex := 12, attributes := #[] }, { accessFlags := 26, nameIndex := 677, descriptorIndex := 12, attributes := #[] }, { accessFlags := 10, nameIndex := 11, descriptorIndex := 12, attributes := #[] }, { accessFlags := 74, nameIndex := 175, descriptorIndex := 176, attributes := #[] }, { accessFlags := 10, nameIndex := 491, descriptorIndex := 222, attributes := #[] }, { accessFlags := 74, nameIndex := 29, descriptorIndex := 30, attributes := #[] }, { accessFlags := 74, nameIndex := 154, descriptorIndex := 155, attributes := #[] }, { accessFlags := 10, nameIndex := 217, descriptorIndex := 218, attributes := #[] }, { accessFlags := 10, nameIndex := 221, descriptorIndex := 222, attributes := #[] }, { accessFlags := 8, nameIndex := 562, descriptorIndex := 563, attributes := #[] }])
  fields := #[{ name := "in", type := (.object "java/io/InputStream"), accessFlags := 25, slot := 0, constantValue := 0 }, { name := "out", type := (.object "java/io/PrintStream"), accessFlags := 25, slot := 1, constantValue := 0 }, { name := "err", type := (.object "java/io/PrintStream"), accessFlags := 25, slot := 2, constantValue := 0 }, { name := "initialIn", type := (.object "java/io/InputStream"), accessFlags := 10, slot := 3, constantValue := 0 }, { name := "NEVER", type := .int, accessFlags := 26, slot := 4, constantValue := 0 }, { name := "MAYBE", type := .int, accessFlags := 26, slot := 5, constantValue := 0 }, { name := "allowSecurityManager", type := .int, accessFlags := 10, slot := 6, constantValue := 0 }, { name := "security", type := (.object "java/lang/SecurityManager"), accessFlags := 74, slot := 7, constantValue := 0 }, { name := "notSupportedJnuEncoding", type := (.object "java/lang/String"), accessFlags := 10, slot := 8, constantValue := 0 }, { name := "cons", type := (.object "java/io/Console"), accessFlags := 74, slot := 9, constantValue := 0 }, { name := "initialErrStream", type := (.object "java/io/PrintStream"), accessFlags := 74, slot := 10, constantValue := 0 }, { name := "props", type := (.object "java/util/Properties"), accessFlags := 10, slot := 11, constantValue := 0 }, { name := "lineSeparator", type := (.object "java/lang/String"), accessFlags := 10, slot := 12, constantValue := 0 }, { name := "bootLayer", type := (.object "java/lang/ModuleLayer"), accessFlags := 8, slot := 13, constantValue := 0 }]
  methods := #[k15m0, k15m1]
  instanceTypes := #[]
  staticTypes := #[(.object "java/io/InputStream"), (.object "java/io/PrintStream"), (.object "java/io/PrintStream"), (.object "java/io/InputStream"), .int, .int, .int, (.object "java/lang/SecurityManager"), (.object "java/lang/String"), (.object "java/io/Console"), (.object "java/io/PrintStream"), (.object "java/util/Properties"), (.object "java/lang/String"), (.object "java/lang/ModuleLayer")]
  resolved := Array.replicate 834 none
  statics := none }

def pool16 : Array CpInfo := pool [(2, .class_ 4), (1, u "java/lang/Object"), (0, u "<init>"), (0, u "()V"), (7, .class_ 16), (1, u "java/util/Arrays"), (57, .class_ 76), (1, u "java/util/Arrays$NaturalOrder"), (36, .class_ 115), (1, u "java/util/Arrays$LegacyMergeSort"), (1, u "Z"), (21, u "copyOfRange"), (10, .methodref 151 152), (0, .class_ 153), (0, .nameAndType 154 155), (0, u "java/lang/System"), (0, u "arraycopy"), (0, u "(Ljava/lang/Object;ILjava/lang/Object;II)V"), (148, .methodref 305 306), (0, .class_ 307), (0, .nameAndType 308 309), (0, u "java/lang/Math"), (0, u "min"), (0, u "(II)I"), (29, .methodref 14 340), (0, .nameAndType 341 342), (0, u "copyOfRangeByte"), (0, u "([BII)[B"), (0, .methodref 14 344), (0, .nameAndType 345 346), (0, u "checkLength"), (0, u "(II)V"), (28, .class_ 376), (0, u "java/util/Arrays$ArrayList"), (68, u "$assertionsDisabled"), (269, u "MIN_ARRAY_SORT_GRAN"), (0, u "I"), (2, u "INSERTIONSORT_THRESHOLD"), (255, .class_ 976), (0, u "java/util/Arrays$ArrayItr")] 52

def k16m0 : Method := { name := "<init>", desc := "()V", sig := { parameters := [], returnType := none }, accessFlags := 2, code := none }
def k16c1 : Code := { maxStack := 4, maxLocals := 2, code := jdk_65_method_131_code, exceptionTable := #[], attributes := #[] }
def k16m1 : Method := { name := "checkLength", desc := "(II)V", sig := { parameters := [.int, .int], returnType := none }, accessFlags := 10, code := some k16c1 }
def k16c2 : Code := { maxStack := 3, maxLocals := 3, code := jdk_65_method_132_code, exceptionTable := #[], attributes := #[] }
def k16m2 : Method := { name := "copyOfRange", desc := "([BII)[B", sig := { parameters := [(.array .byte), .int, .int], returnType := some (.array .byte) }, accessFlags := 9, code := some k16c2 }
def k16c3 : Code := { maxStack := 6, maxLocals := 5, code := jdk_65_method_133_code, exceptionTable := #[], attributes := #[] }
def k16m3 : Method := { name := "copyOfRangeByte", desc := "([BII)[B", sig := { parameters := [(.array .byte), .int, .int], returnType := some (.array .byte) }, accessFlags := 10, code := some k16c3 }
/-- java/util/Arrays -/
def k16 : Class := { plain "java/util/Arrays" (some 0) with
  accessFlags := 49
  interfaces := #[]
  cf := some (fileOf pool16 14 #[.nestMembers #[975, 375, 113, 74]] #[{ accessFlags := 2, nameIndex := 5, descriptorIndex := 6, attributes := #[] }, { accessFlags := 10, nameIndex := 345, descriptorIndex := 346, attributes := #[] }, { accessFlags := 9, nameIndex := 139, descriptorIndex := 342, attributes := #[] }, { accessFlags := 10, nameIndex := 341, descriptorIndex := 342, attributes := #[] }] 49 2 #[] #[{ accessFlags := 26, nameIndex := 715, descriptorIndex := 716, attributes := #[] }, { accessFlags := 26, nameIndex := 719, descriptorIndex := 716, attributes := #[] }, { accessFlags := 4120, nameIndex := 445, descriptorIndex := 117, attributes := #[] }])
  fields := #[{ name := "MIN_ARRAY_SORT_GRAN", type := .int, accessFlags := 26, slot := 0, constantValue := 0 }, { name := "INSERTIONSORT_THRESHOLD", type := .int, accessFlags := 26, slot := 1, constantValue := 0 }, { name := "$assertionsDisabled", type := .boolean, accessFlags := 4120, slot := 2, constantValue := 0 }]
  methods := #[k16m0, k16m1, k16m2, k16m3]
  instanceTypes := #[]
  staticTypes := #[.int, .int, .boolean]
  resolved := Array.replicate 1029 none
  statics := none }

def pool17 : Array CpInfo := pool [(1, .class_ 2), (0, u "java/lang/Math"), (1, .class_ 6), (1, u "java/lang/Object"), (0, u "<init>"), (0, u "()V"), (89, .class_ 100), (1, u "java/lang/Math$RandomNumberGeneratorHolder"), (71, u "negativeZeroFloatBits"), (0, u "J"), (2, u "negativeZeroDoubleBits"), (24, u "min"), (43, u "$assertionsDisabled"), (0, u "Z"), (88, u "(II)I"), (2, u "twoToTheDoubleScaleDown"), (0, u "D"), (4, u "twoToTheDoubleScaleUp"), (9, u "E"), (3, u "PI"), (2, u "TAU"), (2, u "DEGREES_TO_RADIANS"), (0, u "RADIANS_TO_DEGREES")] 94

def k17m0 : Method := { name := "<init>", desc := "()V", sig := { parameters := [], returnType := none }, accessFlags := 2, code := none }
def k17c1 : Code := { maxStack := 2, maxLocals := 2, code := jdk_29_method_69_code, exceptionTable := #[], attributes := #[] }
def k17m1 : Method := { name := "min", desc := "(II)I", sig := { parameters := [.int, .int], returnType := some .int }, accessFlags := 9, code := some k17c1 }
/-- java/lang/Math -/
def k17 : Class := { plain "java/lang/Math" (some 0) with
  accessFlags := 49
  interfaces := #[]
  cf := some (fileOf pool17 1 #[.nestMembers #[98]] #[{ accessFlags := 2, nameIndex := 7, descriptorIndex := 8, attributes := #[] }, { accessFlags := 9, nameIndex := 201, descriptorIndex := 335, attributes := #[] }] 49 4 #[] #[{ accessFlags := 25, nameIndex := 354, descriptorIndex := 339, attributes := #[] }, { accessFlags := 25, nameIndex := 358, descriptorIndex := 339, attributes := #[] }, { accessFlags := 25, nameIndex := 361, descriptorIndex := 339, attributes := #[] }, { accessFlags := 26, nameIndex := 364, descriptorIndex := 339, attributes := #[] }, { accessFlags := 26, nameIndex := 365, descriptorIndex := 339, attributes := #[] }, { accessFlags := 26, nameIndex := 172, descriptorIndex := 173, attributes := #[] }, { accessFlags := 26, nameIndex := 176, descriptorIndex := 173, attributes := #[] }, { accessFlags := 8, nameIndex := 344, descriptorIndex := 339, attributes := #[] }, { accessFlags := 8, nameIndex := 338, descriptorIndex := 339, attributes := #[] }, { accessFlags := 4120, nameIndex := 245, descriptorIndex := 246, attributes := #[] }])
  fields := #[{ name := "E", type := .double, accessFlags := 25, slot := 0, constantValue := 0 }, { name := "PI", type := .double, accessFlags := 25, slot := 1, constantValue := 0 }, { name := "TAU", type := .double, accessFlags := 25, slot := 2, constantValue := 0 }, { name := "DEGREES_TO_RADIANS", type := .double, accessFlags := 26, slot := 3, constantValue := 0 }, { name := "RADIANS_TO_DEGREES", type := .double, accessFlags := 26, slot := 4, constantValue := 0 }, { name := "negativeZeroFloatBits", type := .long, accessFlags := 26, slot := 5, constantValue := 0 }, { name := "negativeZeroDoubleBits", type := .long, accessFlags := 26, slot := 6, constantValue := 0 }, { name := "twoToTheDoubleScaleUp", type := .double, accessFlags := 8, slot := 7, constantValue := 0 }, { name := "twoToTheDoubleScaleDown", type := .double, accessFlags := 8, slot := 8, constantValue := 0 }, { name := "$assertionsDisabled", type := .boolean, accessFlags := 4120, slot := 9, constantValue := 0 }]
  methods := #[k17m0, k17m1]
  instanceTypes := #[]
  staticTypes := #[.double, .double, .double, .double, .double, .long, .long, .double, .double, .boolean]
  resolved := Array.replicate 460 none
  statics := none }

def pool18 : Array CpInfo := pool [(1, .class_ 2), (0, u "java/lang/String"), (1, .class_ 6), (1, u "java/lang/Object"), (0, u "<init>"), (0, u "()V"), (0, .methodref 1 10), (0, .nameAndType 11 12), (0, u "checkIndex"), (0, u "(II)V"), (1, .class_ 16), (1, u "java/lang/StringLatin1"), (36, u "([BI)C"), (67, u "$assertionsDisabled"), (0, u "Z"), (98, .class_ 223), (1, u "java/lang/StringLatin1$LinesSpliterator"), (28, u "charAt"), (137, .class_ 391), (0, u "java/lang/StringLatin1$CharsSpliterator")] 3

def k18m0 : Method := { name := "<init>", desc := "()V", sig := { parameters := [], returnType := none }, accessFlags := 0, code := none }
def k18c1 : Code := { maxStack := 2, maxLocals := 2, code := jdk_43_method_2_code, exceptionTable := #[], attributes := #[] }
def k18m1 : Method := { name := "charAt", desc := "([BI)C", sig := { parameters := [(.array .byte), .int], returnType := some .char }, accessFlags := 9, code := some k18c1 }
/-- java/lang/StringLatin1 -/
def k18 : Class := { plain "java/lang/StringLatin1" (some 0) with
  accessFlags := 48
  interfaces := #[]
  cf := some (fileOf pool18 14 #[.nestMembers #[390, 221]] #[{ accessFlags := 0, nameIndex := 7, descriptorIndex := 8, attributes := #[] }, { accessFlags := 9, nameIndex := 252, descriptorIndex := 53, attributes := #[] }] 48 4 #[] #[{ accessFlags := 4120, nameIndex := 121, descriptorIndex := 122, attributes := #[] }])
  fields := #[{ name := "$assertionsDisabled", type := .boolean, accessFlags := 4120, slot := 0, constantValue := 0 }]
  methods := #[k18m0, k18m1]
  instanceTypes := #[]
  staticTypes := #[.boolean]
  resolved := Array.replicate 395 none
  statics := none }

def pool19 : Array CpInfo := pool [(2, .class_ 4), (1, u "java/lang/Object"), (0, u "<init>"), (0, u "()V"), (17, .class_ 26), (1, u "jdk/internal/util/Preconditions"), (6, u "checkIndex"), (21, .class_ 56), (0, u "jdk/internal/util/Preconditions$4"), (57, .class_ 115), (0, u "jdk/internal/util/Preconditions$1"), (7, u "SIOOBE_FORMATTER"), (0, u "Ljava/util/function/BiFunction;"), (0, .class_ 126), (0, u "jdk/internal/util/Preconditions$2"), (3, u "AIOOBE_FORMATTER"), (0, .class_ 132), (0, u "jdk/internal/util/Preconditions$3"), (3, u "IOOBE_FORMATTER"), (41, u "(IILjava/util/function/BiFunction;)I")] 15

def k19m0 : Method := { name := "<init>", desc := "()V", sig := { parameters := [], returnType := none }, accessFlags := 1, code := none }
def k19c1 : Code := { maxStack := 3, maxLocals := 3, code := jdk_41_method_11_code, exceptionTable := #[], attributes := #[] }
def k19m1 : Method := { name := "checkIndex", desc := "(IILjava/util/function/BiFunction;)I", sig := { parameters := [.int, .int, (.object "java/util/function/BiFunction")], returnType := some .int }, accessFlags := 9, code := some k19c1 }
/-- jdk/internal/util/Preconditions -/
def k19 : Class := { plain "jdk/internal/util/Preconditions" (some 0) with
  accessFlags := 33
  interfaces := #[]
  cf := some (fileOf pool19 24 #[.nestMembers #[55, 131, 125, 114]] #[{ accessFlags := 1, nameIndex := 5, descriptorIndex := 6, attributes := #[] }, { accessFlags := 9, nameIndex := 33, descriptorIndex := 178, attributes := #[] }] 33 2 #[] #[{ accessFlags := 25, nameIndex := 123, descriptorIndex := 124, attributes := #[] }, { accessFlags := 25, nameIndex := 130, descriptorIndex := 124, attributes := #[] }, { accessFlags := 25, nameIndex := 136, descriptorIndex := 124, attributes := #[] }])
  fields := #[{ name := "SIOOBE_FORMATTER", type := (.object "java/util/function/BiFunction"), accessFlags := 25, slot := 0, constantValue := 0 }, { name := "AIOOBE_FORMATTER", type := (.object "java/util/function/BiFunction"), accessFlags := 25, slot := 1, constantValue := 0 }, { name := "IOOBE_FORMATTER", type := (.object "java/util/function/BiFunction"), accessFlags := 25, slot := 2, constantValue := 0 }]
  methods := #[k19m0, k19m1]
  instanceTypes := #[]
  staticTypes := #[(.object "java/util/function/BiFunction"), (.object "java/util/function/BiFunction"), (.object "java/util/function/BiFunction")]
  resolved := Array.replicate 194 none
  statics := some 2 }

def pool20 : Array CpInfo := pool [(6, .class_ 8), (1, u "java/lang/Object"), (0, u "<init>"), (0, u "()V"), (1, .class_ 14), (1, u "java/lang/StringUTF16"), (31, u "$assertionsDisabled"), (0, u "Z"), (13, u "HI_BYTE_SHIFT"), (0, u "I"), (2, u "LO_BYTE_SHIFT"), (49, .methodref 12 116), (0, .nameAndType 117 118), (0, u "compress"), (0, u "([CI[BII)I"), (3, u "([CII)[B"), (138, u "coderFromArrayLen"), (0, u "([BI)B"), (106, .class_ 371), (1, u "java/lang/StringUTF16$LinesSpliterator"), (58, u "MAX_LENGTH"), (196, .class_ 628), (0, u "java/lang/StringUTF16$CodePointsSpliterator"), (0, .class_ 630), (0, u "java/lang/StringUTF16$CharsSpliterator")] 4

def k20m0 : Method := { name := "<init>", desc := "()V", sig := { parameters := [], returnType := none }, accessFlags := 0, code := none }
def k20c1 : Code := { maxStack := 2, maxLocals := 2, code := jdk_52_method_15_code, exceptionTable := #[], attributes := #[] }
def k20m1 : Method := { name := "coderFromArrayLen", desc := "([BI)B", sig := { parameters := [(.array .byte), .int], returnType := some .byte }, accessFlags := 8, code := some k20c1 }
def k20c2 : Code := { maxStack := 5, maxLocals := 6, code := jdk_52_method_16_code, exceptionTable := #[], attributes := #[] }
def k20m2 : Method := { name := "compress", desc := "([CII)[B", sig := { parameters := [(.array .char), .int, .int], returnType := some (.array .byte) }, accessFlags := 9, code := some k20c2 }
def k20c3 : Code := { maxStack := 3, maxLocals := 7, code := jdk_52_method_21_code, exceptionTable := #[], attributes := #[] }
def k20m3 : Method := { name := "compress", desc := "([CI[BII)I", sig := { parameters := [(.array .char), .int, (.array .byte), .int, .int], returnType := some .int }, accessFlags := 9, code := some k20c3 }
/-- java/lang/StringUTF16 -/
def k20 : Class := { plain "java/lang/StringUTF16" (some 0) with
  accessFlags := 48
  interfaces := #[]
  cf := some (fileOf pool20 12 #[.nestMembers #[627, 629, 369]] #[{ accessFlags := 0, nameIndex := 9, descriptorIndex := 10, attributes := #[] }, { accessFlags := 8, nameIndex := 261, descriptorIndex := 262, attributes := #[] }, { accessFlags := 9, nameIndex := 117, descriptorIndex := 122, attributes := #[] }, { accessFlags := 9, nameIndex := 117, descriptorIndex := 118, attributes := #[] }] 48 6 #[] #[{ accessFlags := 26, nameIndex := 61, descriptorIndex := 62, attributes := #[] }, { accessFlags := 26, nameIndex := 65, descriptorIndex := 62, attributes := #[] }, { accessFlags := 24, nameIndex := 430, descriptorIndex := 62, attributes := #[] }, { accessFlags := 4120, nameIndex := 46, descriptorIndex := 47, attributes := #[] }])
  fields := #[{ name := "HI_BYTE_SHIFT", type := .int, accessFlags := 26, slot := 0, constantValue := 0 }, { name := "LO_BYTE_SHIFT", type := .int, accessFlags := 26, slot := 1, constantValue := 0 }, { name := "MAX_LENGTH", type := .int, accessFlags := 24, slot := 2, constantValue := 0 }, { name := "$assertionsDisabled", type := .boolean, accessFlags := 4120, slot := 3, constantValue := 0 }]
  methods := #[k20m0, k20m1, k20m2, k20m3]
  instanceTypes := #[]
  staticTypes := #[.int, .int, .int, .boolean]
  resolved := Array.replicate 635 none
  statics := none }

def pool21 : Array CpInfo := pool [(9, u "<init>"), (6, .class_ 18), (1, u "java/lang/Object"), (0, u "()V"), (1, .class_ 23), (1, u "jdk/internal/util/ArraysSupport"), (0, u "LOG2_ARRAY_LONG_INDEX_SCALE"), (0, u "I"), (2, u "U"), (0, u "Ljdk/internal/misc/Unsafe;"), (8, u "BIG_ENDIAN"), (0, u "Z"), (8, u "LOG2_BYTE_BIT_SIZE"), (4, u "LOG2_ARRAY_INT_INDEX_SCALE"), (54, u "JLA"), (0, u "Ljdk/internal/access/JavaLangAccess;"), (11, u "LOG2_ARRAY_BOOLEAN_INDEX_SCALE"), (9, u "LOG2_ARRAY_BYTE_INDEX_SCALE"), (5, u "LOG2_ARRAY_CHAR_INDEX_SCALE"), (5, u "LOG2_ARRAY_SHORT_INDEX_SCALE"), (18, u "LOG2_ARRAY_FLOAT_INDEX_SCALE"), (24, u "LOG2_ARRAY_DOUBLE_INDEX_SCALE"), (89, u "T_BOOLEAN"), (2, u "T_CHAR"), (1, u "T_FLOAT"), (1, u "T_DOUBLE"), (1, u "T_BYTE"), (1, u "T_SHORT"), (1, u "T_INT"), (1, u "T_LONG"), (1, u "SOFT_MAX_ARRAY_LENGTH")] 83

def k21m0 : Method := { name := "<init>", desc := "()V", sig := { parameters := [], returnType := none }, accessFlags := 2, code := none }
/-- jdk/internal/util/ArraysSupport -/
def k21 : Class := { plain "jdk/internal/util/ArraysSupport" (some 0) with
  accessFlags := 33
  interfaces := #[]
  cf := some (fileOf pool21 21 #[] #[{ accessFlags := 2, nameIndex := 9, descriptorIndex := 19, attributes := #[] }] 33 16 #[] #[{ accessFlags := 24, nameIndex := 28, descriptorIndex := 29, attributes := #[] }, { accessFlags := 26, nameIndex := 38, descriptorIndex := 39, attributes := #[] }, { accessFlags := 25, nameIndex := 121, descriptorIndex := 25, attributes := #[] }, { accessFlags := 25, nameIndex := 131, descriptorIndex := 25, attributes := #[] }, { accessFlags := 25, nameIndex := 137, descriptorIndex := 25, attributes := #[] }, { accessFlags := 25, nameIndex := 143, descriptorIndex := 25, attributes := #[] }, { accessFlags := 25, nameIndex := 53, descriptorIndex := 25, attributes := #[] }, { accessFlags := 25, nameIndex := 24, descriptorIndex := 25, attributes := #[] }, { accessFlags := 25, nameIndex := 162, descriptorIndex := 25, attributes := #[] }, { accessFlags := 25, nameIndex := 187, descriptorIndex := 25, attributes := #[] }, { accessFlags := 26, nameIndex := 48, descriptorIndex := 25, attributes := #[] }, { accessFlags := 25, nameIndex := 277, descriptorIndex := 25, attributes := #[] }, { accessFlags := 25, nameIndex := 280, descriptorIndex := 25, attributes := #[] }, { accessFlags := 25, nameIndex := 282, descriptorIndex := 25, attributes := #[] }, { accessFlags := 25, nameIndex := 284, descriptorIndex := 25, attributes := #[] }, { accessFlags := 25, nameIndex := 286, descriptorIndex := 25, attributes := #[] }, { accessFlags := 25, nameIndex := 288, descriptorIndex := 25, attributes := #[] }, { accessFlags := 25, nameIndex := 290, descriptorIndex := 25, attributes := #[] }, { accessFlags := 25, nameIndex := 292, descriptorIndex := 25, attributes := #[] }, { accessFlags := 26, nameIndex := 108, descriptorIndex := 109, attributes := #[] }, { accessFlags := 25, nameIndex := 294, descriptorIndex := 25, attributes := #[] }])
  fields := #[{ name := "U", type := (.object "jdk/internal/misc/Unsafe"), accessFlags := 24, slot := 0, constantValue := 0 }, { name := "BIG_ENDIAN", type := .boolean, accessFlags := 26, slot := 1, constantValue := 0 }, { name := "LOG2_ARRAY_BOOLEAN_INDEX_SCALE", type := .int, accessFlags := 25, slot := 2, constantValue := 0 }, { name := "LOG2_ARRAY_BYTE_INDEX_SCALE", type := .int, accessFlags := 25, slot := 3, constantValue := 0 }, { name := "LOG2_ARRAY_CHAR_INDEX_SCALE", type := .int, accessFlags := 25, slot := 4, constantValue := 0 }, { name := "LOG2_ARRAY_SHORT_INDEX_SCALE", type := .int, accessFlags := 25, slot := 5, constantValue := 0 }, { name := "LOG2_ARRAY_INT_INDEX_SCALE", type := .int, accessFlags := 25, slot := 6, constantValue := 0 }, { name := "LOG2_ARRAY_LONG_INDEX_SCALE", type := .int, accessFlags := 25, slot := 7, constantValue := 0 }, { name := "LOG2_ARRAY_FLOAT_INDEX_SCALE", type := .int, accessFlags := 25, slot := 8, constantValue := 0 }, { name := "LOG2_ARRAY_DOUBLE_INDEX_SCALE", type := .int, accessFlags := 25, slot := 9, constantValue := 0 }, { name := "LOG2_BYTE_BIT_SIZE", type := .int, accessFlags := 26, slot := 10, constantValue := 0 }, { name := "T_BOOLEAN", type := .int, accessFlags := 25, slot := 11, constantValue := 0 }, { name := "T_CHAR", type := .int, accessFlags := 25, slot := 12, constantValue := 0 }, { name := "T_FLOAT", type := .int, accessFlags := 25, slot := 13, constantValue := 0 }, { name := "T_DOUBLE", type := .int, accessFlags := 25, slot := 14, constantValue := 0 }, { name := "T_BYTE", type := .int, accessFlags := 25, slot := 15, constantValue := 0 }, { name := "T_SHORT", type := .int, accessFlags := 25, slot := 16, constantValue := 0 }, { name := "T_INT", type := .int, accessFlags := 25, slot := 17, constantValue := 0 }, { name := "T_LONG", type := .int, accessFlags := 25, slot := 18, constantValue := 0 }, { name := "JLA", type := (.object "jdk/internal/access/JavaLangAccess"), accessFlags := 26, slot := 19, constantValue := 0 }, { name := "SOFT_MAX_ARRAY_LENGTH", type := .int, accessFlags := 25, slot := 20, constantValue := 0 }]
  methods := #[k21m0]
  instanceTypes := #[]
  staticTypes := #[(.object "jdk/internal/misc/Unsafe"), .boolean, .int, .int, .int, .int, .int, .int, .int, .int, .int, .int, .int, .int, .int, .int, .int, .int, .int, (.object "jdk/internal/access/JavaLangAccess"), .int]
  resolved := Array.replicate 378 none
  statics := none }

def pool22 : Array CpInfo := pool [(1, u "java/lang/Cloneable"), (0, .class_ 1), (0, u "java/lang/Object"), (0, .class_ 3)] 3

/-- java/lang/Cloneable -/
def k22 : Class := { plain "java/lang/Cloneable" (some 0) with
  accessFlags := 1537
  interfaces := #[]
  cf := some (fileOf pool22 2 #[] #[] 1537 4 #[] #[])
  fields := #[]
  methods := #[]
  instanceTypes := #[]
  staticTypes := #[]
  resolved := Array.replicate 8 none
  statics := none }

/-- the primitive byte -/
def k23 : Class := { plain "byte" none with kind := .primitive 'B', accessFlags := 0x411 }
/-- [B -/
def k24 : Class := { plain "[B" (some 0) with kind := .array 23 .byte, interfaces := #[22, 4], accessFlags := 1041 }

/-- the primitive char -/
def k25 : Class := { plain "char" none with kind := .primitive 'C', accessFlags := 0x411 }
/-- [C -/
def k26 : Class := { plain "[C" (some 0) with kind := .array 25 .char, interfaces := #[22, 4], accessFlags := 1041 }

/-- the primitive int -/
def k27 : Class := { plain "int" none with kind := .primitive 'I', accessFlags := 0x411 }
/-- [I -/
def k28 : Class := { plain "[I" (some 0) with kind := .array 27 .int, interfaces := #[22, 4], accessFlags := 1041 }

def heap : Heap := #[{ cls := 6, slots := #[.ref 3, .ref 4, .null], vm := .statics 6 },
  { cls := 9, slots := #[.long 0, .int 1, .null, .int 0, .null, .int 0, .int 0], vm := .statics 9 },
  { cls := 19, slots := #[.null, .null, .null], vm := .statics 19 },
  { cls := 6, slots := #[.null, .int 0, .int 0], vm := .none },
  { cls := 6, slots := #[.null, .int 0, .int 0], vm := .none }]
def classes : Array Class := #[k0, k1, k2, k3, k4, k5, k6, k7, k8, k9, k10, k11, k12, k13, k14, k15, k16, k17, k18, k19, k20, k21, k22, k23, k24, k25, k26, k27, k28]
def interned : List (Array UInt16 × Addr) := []
def slotsUsed : Nat := 19
def theMethod : MethodId := ⟨1, 1⟩
def args0 : Array Value := #[.int 1, .int 2, .int 3]
def aboutOver (below : List Frame) : State where
  vm := { classes := classes, interned := interned.toArray }
  heap := heap
  slotsUsed := slotsUsed
  threads := #[{ frames := .invoking theMethod args0 :: below }]
def below0 : List Frame := [.native { method := ⟨0, 0⟩, args := #[] }]
def about1 : State := aboutOver below0
def p0 : Program := .bare "" "" ""
def e0 : Env := launch0.env 0 0 0
theorem w_frames : about1.frames = Frame.invoking theMethod args0 :: below0 := rfl
set_option maxRecDepth 65536 in
theorem w_args : argsFit about1.vm theMethod args0 = true := by decide +kernel
set_option maxRecDepth 65536 in
theorem w_heap : heapFits about1 = true := by decide +kernel
set_option maxRecDepth 65536 in
theorem w_runnable : about1.curStatus? = some .runnable := by decide +kernel
set_option maxRecDepth 65536 in
theorem w_alone : about1.alone = true := by decide +kernel
set_option maxRecDepth 65536 in
theorem w_named : about1.methodNamed? x = some theMethod := by decide +kernel
set_option maxRecDepth 65536 in
theorem w_hears : about1.hears theMethod below0 = true := by decide +kernel
set_option maxRecDepth 65536 in
theorem w_ripe : about1.ripe theMethod args0 below0 = true := by decide +kernel
theorem w_running : about1.status = .running := rfl
set_option maxRecDepth 65536 in
theorem w_room : about1.hasRoom e0.platform room_1 = true :=
  launch0.hasRoom_least _ room_1 (by decide +kernel) (by decide +kernel) (by decide +kernel) (by decide +kernel) (by decide +kernel) (by decide +kernel)
theorem allAtoms_all (ts : List Jvm.Cond) (a : Array Jvm.Value) (st : Jvm.State) : (allAtoms ts).before a st = ts.all (fun c => c.before a st) := by
  induction ts with
  | nil => rfl
  | cons c t ih =>
    show (Jvm.Cond.and c (allAtoms t)).before a st = _
    rw [Jvm.Cond.before_and, ih, List.all_cons]
def words1 : List Jvm.Cond := Jvm.Cond.code x code maxLocals ret :: tables_1
/-- a 'code' word, met by the world's own term for the bytes: nothing is compared byte by byte -/
theorem code_word {y : MethodName} {bytes : ByteArray} {mx : Nat} {rt : Option FieldType} {a : Array Value} {s : State} {m : MethodId} {meth : Method} {c : Code} (h1 : s.methodNamed? y = some m) (h2 : s.vm.method? m = some meth) (h3 : meth.code = some c) (h4 : c.code = bytes)
    (h5 : (c.maxLocals == mx && c.exceptionTable.isEmpty && decide (c.maxStack ≤ mostOperands) && decide (meth.sig.returnType = rt) && !meth.locks && decide (parseMethodDescriptor y.desc = some meth.sig)) = true) : (Jvm.Cond.code y bytes mx rt).before a s = true := by
  simp only [Bool.and_eq_true, beq_iff_eq, Bool.not_eq_true', decide_eq_true_eq] at h5
  obtain ⟨⟨⟨⟨⟨g1, g2⟩, g3⟩, g4⟩, g5⟩, g6⟩ := h5
  simp [Cond.before, Cond.holds, Cond.value, h1, h2, h3, h4, g1, g2, g3, g4, g5, g6]
def isCode : Jvm.Cond → Bool
  | .code _ _ _ _ => true
  | _ => false
theorem all_split {L : List Jvm.Cond} {P : Jvm.Cond → Bool} (h1 : L.all (fun c => isCode c || P c) = true) (h2 : ∀ c ∈ L.filter isCode, P c = true) : L.all P = true := by
  refine List.all_eq_true.mpr fun c hc => ?_
  have h := List.all_eq_true.mp h1 c hc
  rcases Bool.eq_false_or_eq_true (isCode c) with hi | hi
  · exact h2 c (List.mem_filter.mpr ⟨hc, hi⟩)
  · simpa [hi] using h
set_option maxRecDepth 65536 in
theorem w_c0 : (Jvm.Cond.code x code maxLocals ret).before args0 about1 = true := code_word (m := ⟨1, 1⟩) (meth := k1m1) (c := k1c1) (by decide +kernel) rfl rfl rfl (by decide +kernel)
set_option maxRecDepth 65536 in
theorem w_c1 : (Jvm.Cond.code ({ cls := "com/example/hearsay_rules/hearsayrules/ProblemTextPinLaw", name := "mk", desc := "(III)Ljava/lang/String;" } : Jvm.MethodName) method_3_code (4 : Nat) (Option.some (Jvm.ClassFile.FieldType.object "java/lang/String"))).before args0 about1 = true := code_word (m := ⟨1, 2⟩) (meth := k1m2) (c := k1c2) (by decide +kernel) rfl rfl rfl (by decide +kernel)
set_option maxRecDepth 65536 in
theorem w_c2 : (Jvm.Cond.code ({ cls := "java/lang/String", name := "<init>", desc := "([C)V" } : Jvm.MethodName) jdk_42_method_3_code (2 : Nat) (Option.none : Option Jvm.ClassFile.FieldType)).before args0 about1 = true := code_word (m := ⟨9, 1⟩) (meth := k9m1) (c := k9c1) (by decide +kernel) rfl rfl rfl (by decide +kernel)
set_option maxRecDepth 65536 in
theorem w_c3 : (Jvm.Cond.code ({ cls := "java/lang/String", name := "<init>", desc := "([CIILjava/lang/Void;)V" } : Jvm.MethodName) jdk_42_method_149_code (6 : Nat) (Option.none : Option Jvm.ClassFile.FieldType)).before args0 about1 = true := code_word (m := ⟨9, 7⟩) (meth := k9m7) (c := k9c7) (by decide +kernel) rfl rfl rfl (by decide +kernel)
set_option maxRecDepth 65536 in
theorem w_c4 : (Jvm.Cond.code ({ cls := "java/lang/Object", name := "<init>", desc := "()V" } : Jvm.MethodName) object_method_1_code (1 : Nat) (Option.none : Option Jvm.ClassFile.FieldType)).before args0 about1 = true := code_word (m := ⟨0, 0⟩) (meth := k0m0) (c := k0c0) (by decide +kernel) rfl rfl rfl (by decide +kernel)
set_option maxRecDepth 65536 in
theorem w_c5 : (Jvm.Cond.code ({ cls := "com/example/hearsay_rules/hearsayrules/Problem", name := "<init>", desc := "(Lcom/example/hearsay_rules/hearsayrules/Problem$Severity;Ljava/lang/String;Ljava/lang/String;)V" } : Jvm.MethodName) prog_17_method_1_code (4 : Nat) (Option.none : Option Jvm.ClassFile.FieldType)).before args0 about1 = true := code_word (m := ⟨11, 0⟩) (meth := k11m0) (c := k11c0) (by decide +kernel) rfl rfl rfl (by decide +kernel)
set_option maxRecDepth 65536 in
theorem w_c6 : (Jvm.Cond.code ({ cls := "java/lang/Record", name := "<init>", desc := "()V" } : Jvm.MethodName) jdk_30_method_1_code (1 : Nat) (Option.none : Option Jvm.ClassFile.FieldType)).before args0 about1 = true := code_word (m := ⟨10, 0⟩) (meth := k10m0) (c := k10c0) (by decide +kernel) rfl rfl rfl (by decide +kernel)
set_option maxRecDepth 65536 in
theorem w_c7 : (Jvm.Cond.code ({ cls := "com/example/hearsay_rules/hearsayrules/Problem", name := "text", desc := "()Ljava/lang/String;" } : Jvm.MethodName) prog_17_method_2_code (1 : Nat) (Option.some (Jvm.ClassFile.FieldType.object "java/lang/String"))).before args0 about1 = true := code_word (m := ⟨11, 1⟩) (meth := k11m1) (c := k11c1) (by decide +kernel) rfl rfl rfl (by decide +kernel)
set_option maxRecDepth 65536 in
theorem w_c8 : (Jvm.Cond.code ({ cls := "java/lang/String", name := "equals", desc := "(Ljava/lang/Object;)Z" } : Jvm.MethodName) jdk_42_method_66_code (3 : Nat) (Option.some Jvm.ClassFile.FieldType.boolean)).before args0 about1 = true := code_word (m := ⟨9, 5⟩) (meth := k9m5) (c := k9c5) (by decide +kernel) rfl rfl rfl (by decide +kernel)
set_option maxRecDepth 65536 in
theorem w_c9 : (Jvm.Cond.code ({ cls := "java/lang/StringBuilder", name := "<init>", desc := "()V" } : Jvm.MethodName) jdk_67_method_1_code (1 : Nat) (Option.none : Option Jvm.ClassFile.FieldType)).before args0 about1 = true := code_word (m := ⟨14, 0⟩) (meth := k14m0) (c := k14c0) (by decide +kernel) rfl rfl rfl (by decide +kernel)
set_option maxRecDepth 65536 in
theorem w_c10 : (Jvm.Cond.code ({ cls := "java/lang/AbstractStringBuilder", name := "<init>", desc := "(I)V" } : Jvm.MethodName) jdk_68_method_2_code (2 : Nat) (Option.none : Option Jvm.ClassFile.FieldType)).before args0 about1 = true := code_word (m := ⟨13, 1⟩) (meth := k13m1) (c := k13c1) (by decide +kernel) rfl rfl rfl (by decide +kernel)
set_option maxRecDepth 65536 in
theorem w_c11 : (Jvm.Cond.code ({ cls := "java/lang/StringBuilder", name := "append", desc := "(Ljava/lang/String;)Ljava/lang/StringBuilder;" } : Jvm.MethodName) jdk_67_method_7_code (2 : Nat) (Option.some (Jvm.ClassFile.FieldType.object "java/lang/StringBuilder"))).before args0 about1 = true := code_word (m := ⟨14, 1⟩) (meth := k14m1) (c := k14c1) (by decide +kernel) rfl rfl rfl (by decide +kernel)
set_option maxRecDepth 65536 in
theorem w_c12 : (Jvm.Cond.code ({ cls := "java/lang/AbstractStringBuilder", name := "append", desc := "(Ljava/lang/String;)Ljava/lang/AbstractStringBuilder;" } : Jvm.MethodName) jdk_68_method_22_code (3 : Nat) (Option.some (Jvm.ClassFile.FieldType.object "java/lang/AbstractStringBuilder"))).before args0 about1 = true := code_word (m := ⟨13, 4⟩) (meth := k13m4) (c := k13c4) (by decide +kernel) rfl rfl rfl (by decide +kernel)
set_option maxRecDepth 65536 in
theorem w_c13 : (Jvm.Cond.code ({ cls := "java/lang/String", name := "length", desc := "()I" } : Jvm.MethodName) jdk_42_method_54_code (1 : Nat) (Option.some Jvm.ClassFile.FieldType.int)).before args0 about1 = true := code_word (m := ⟨9, 3⟩) (meth := k9m3) (c := k9c3) (by decide +kernel) rfl rfl rfl (by decide +kernel)
set_option maxRecDepth 65536 in
theorem w_c14 : (Jvm.Cond.code ({ cls := "java/lang/String", name := "coder", desc := "()B" } : Jvm.MethodName) jdk_42_method_152_code (1 : Nat) (Option.some Jvm.ClassFile.FieldType.byte)).before args0 about1 = true := code_word (m := ⟨9, 9⟩) (meth := k9m9) (c := k9c9) (by decide +kernel) rfl rfl rfl (by decide +kernel)
set_option maxRecDepth 65536 in
theorem w_c15 : (Jvm.Cond.code ({ cls := "java/lang/AbstractStringBuilder", name := "ensureCapacityInternal", desc := "(I)V" } : Jvm.MethodName) jdk_68_method_9_code (3 : Nat) (Option.none : Option Jvm.ClassFile.FieldType)).before args0 about1 = true := code_word (m := ⟨13, 3⟩) (meth := k13m3) (c := k13c3) (by decide +kernel) rfl rfl rfl (by decide +kernel)
set_option maxRecDepth 65536 in
theorem w_c16 : (Jvm.Cond.code ({ cls := "java/lang/AbstractStringBuilder", name := "putStringAt", desc := "(ILjava/lang/String;)V" } : Jvm.MethodName) jdk_68_method_73_code (3 : Nat) (Option.none : Option Jvm.ClassFile.FieldType)).before args0 about1 = true := code_word (m := ⟨13, 8⟩) (meth := k13m8) (c := k13c8) (by decide +kernel) rfl rfl rfl (by decide +kernel)
set_option maxRecDepth 65536 in
theorem w_c17 : (Jvm.Cond.code ({ cls := "java/lang/AbstractStringBuilder", name := "inflateIfNeededFor", desc := "(Ljava/lang/String;)V" } : Jvm.MethodName) jdk_68_method_71_code (2 : Nat) (Option.none : Option Jvm.ClassFile.FieldType)).before args0 about1 = true := code_word (m := ⟨13, 7⟩) (meth := k13m7) (c := k13c7) (by decide +kernel) rfl rfl rfl (by decide +kernel)
set_option maxRecDepth 65536 in
theorem w_c18 : (Jvm.Cond.code ({ cls := "java/lang/String", name := "getBytes", desc := "([BIB)V" } : Jvm.MethodName) jdk_42_method_147_code (4 : Nat) (Option.none : Option Jvm.ClassFile.FieldType)).before args0 about1 = true := code_word (m := ⟨9, 6⟩) (meth := k9m6) (c := k9c6) (by decide +kernel) rfl rfl rfl (by decide +kernel)
set_option maxRecDepth 65536 in
theorem w_c19 : (Jvm.Cond.code ({ cls := "java/lang/StringBuilder", name := "toString", desc := "()Ljava/lang/String;" } : Jvm.MethodName) jdk_67_method_42_code (1 : Nat) (Option.some (Jvm.ClassFile.FieldType.object "java/lang/String"))).before args0 about1 = true := code_word (m := ⟨14, 2⟩) (meth := k14m2) (c := k14c2) (by decide +kernel) rfl rfl rfl (by decide +kernel)
set_option maxRecDepth 65536 in
theorem w_c20 : (Jvm.Cond.code ({ cls := "java/lang/String", name := "<init>", desc := "(Ljava/lang/StringBuilder;)V" } : Jvm.MethodName) jdk_42_method_53_code (2 : Nat) (Option.none : Option Jvm.ClassFile.FieldType)).before args0 about1 = true := code_word (m := ⟨9, 2⟩) (meth := k9m2) (c := k9c2) (by decide +kernel) rfl rfl rfl (by decide +kernel)
set_option maxRecDepth 65536 in
theorem w_c21 : (Jvm.Cond.code ({ cls := "java/lang/String", name := "<init>", desc := "(Ljava/lang/AbstractStringBuilder;Ljava/lang/Void;)V" } : Jvm.MethodName) jdk_42_method_150_code (5 : Nat) (Option.none : Option Jvm.ClassFile.FieldType)).before args0 about1 = true := code_word (m := ⟨9, 8⟩) (meth := k9m8) (c := k9c8) (by decide +kernel) rfl rfl rfl (by decide +kernel)
set_option maxRecDepth 65536 in
theorem w_c22 : (Jvm.Cond.code ({ cls := "java/lang/AbstractStringBuilder", name := "getValue", desc := "()[B" } : Jvm.MethodName) jdk_68_method_64_code (1 : Nat) (Option.some (Jvm.ClassFile.FieldType.array Jvm.ClassFile.FieldType.byte))).before args0 about1 = true := code_word (m := ⟨13, 5⟩) (meth := k13m5) (c := k13c5) (by decide +kernel) rfl rfl rfl (by decide +kernel)
set_option maxRecDepth 65536 in
theorem w_c23 : (Jvm.Cond.code ({ cls := "java/lang/StringBuilder", name := "length", desc := "()I" } : Jvm.MethodName) jdk_67_method_93_code (1 : Nat) (Option.some Jvm.ClassFile.FieldType.int)).before args0 about1 = true := code_word (m := ⟨14, 3⟩) (meth := k14m3) (c := k14c3) (by decide +kernel) rfl rfl rfl (by decide +kernel)
set_option maxRecDepth 65536 in
theorem w_c24 : (Jvm.Cond.code ({ cls := "java/lang/AbstractStringBuilder", name := "length", desc := "()I" } : Jvm.MethodName) jdk_68_method_6_code (1 : Nat) (Option.some Jvm.ClassFile.FieldType.int)).before args0 about1 = true := code_word (m := ⟨13, 2⟩) (meth := k13m2) (c := k13c2) (by decide +kernel) rfl rfl rfl (by decide +kernel)
set_option maxRecDepth 65536 in
theorem w_c25 : (Jvm.Cond.code ({ cls := "java/lang/AbstractStringBuilder", name := "isLatin1", desc := "()Z" } : Jvm.MethodName) jdk_68_method_68_code (1 : Nat) (Option.some Jvm.ClassFile.FieldType.boolean)).before args0 about1 = true := code_word (m := ⟨13, 6⟩) (meth := k13m6) (c := k13c6) (by decide +kernel) rfl rfl rfl (by decide +kernel)
set_option maxRecDepth 65536 in
theorem w_c26 : (Jvm.Cond.code ({ cls := "java/util/Arrays", name := "copyOfRange", desc := "([BII)[B" } : Jvm.MethodName) jdk_65_method_132_code (3 : Nat) (Option.some (Jvm.ClassFile.FieldType.array Jvm.ClassFile.FieldType.byte))).before args0 about1 = true := code_word (m := ⟨16, 2⟩) (meth := k16m2) (c := k16c2) (by decide +kernel) rfl rfl rfl (by decide +kernel)
set_option maxRecDepth 65536 in
theorem w_c27 : (Jvm.Cond.code ({ cls := "java/util/Arrays", name := "copyOfRangeByte", desc := "([BII)[B" } : Jvm.MethodName) jdk_65_method_133_code (5 : Nat) (Option.some (Jvm.ClassFile.FieldType.array Jvm.ClassFile.FieldType.byte))).before args0 about1 = true := code_word (m := ⟨16, 3⟩) (meth := k16m3) (c := k16c3) (by decide +kernel) rfl rfl rfl (by decide +kernel)
set_option maxRecDepth 65536 in
theorem w_c28 : (Jvm.Cond.code ({ cls := "java/util/Arrays", name := "checkLength", desc := "(II)V" } : Jvm.MethodName) jdk_65_method_131_code (2 : Nat) (Option.none : Option Jvm.ClassFile.FieldType)).before args0 about1 = true := code_word (m := ⟨16, 1⟩) (meth := k16m1) (c := k16c1) (by decide +kernel) rfl rfl rfl (by decide +kernel)
set_option maxRecDepth 65536 in
theorem w_c29 : (Jvm.Cond.code ({ cls := "java/lang/Math", name := "min", desc := "(II)I" } : Jvm.MethodName) jdk_29_method_69_code (2 : Nat) (Option.some Jvm.ClassFile.FieldType.int)).before args0 about1 = true := code_word (m := ⟨17, 1⟩) (meth := k17m1) (c := k17c1) (by decide +kernel) rfl rfl rfl (by decide +kernel)
set_option maxRecDepth 65536 in
theorem w_c30 : (Jvm.Cond.code ({ cls := "com/example/hearsay_rules/hearsayrules/ProblemTextPinLaw", name := "at", desc := "(Ljava/lang/String;Ljava/lang/String;Ljava/lang/String;I)Z" } : Jvm.MethodName) method_4_code (6 : Nat) (Option.some Jvm.ClassFile.FieldType.boolean)).before args0 about1 = true := code_word (m := ⟨1, 3⟩) (meth := k1m3) (c := k1c3) (by decide +kernel) rfl rfl rfl (by decide +kernel)
set_option maxRecDepth 65536 in
theorem w_c31 : (Jvm.Cond.code ({ cls := "java/lang/String", name := "charAt", desc := "(I)C" } : Jvm.MethodName) jdk_42_method_56_code (2 : Nat) (Option.some Jvm.ClassFile.FieldType.char)).before args0 about1 = true := code_word (m := ⟨9, 4⟩) (meth := k9m4) (c := k9c4) (by decide +kernel) rfl rfl rfl (by decide +kernel)
set_option maxRecDepth 65536 in
theorem w_c32 : (Jvm.Cond.code ({ cls := "java/lang/String", name := "isLatin1", desc := "()Z" } : Jvm.MethodName) jdk_42_method_154_code (1 : Nat) (Option.some Jvm.ClassFile.FieldType.boolean)).before args0 about1 = true := code_word (m := ⟨9, 10⟩) (meth := k9m10) (c := k9c10) (by decide +kernel) rfl rfl rfl (by decide +kernel)
set_option maxRecDepth 65536 in
theorem w_c33 : (Jvm.Cond.code ({ cls := "java/lang/StringLatin1", name := "charAt", desc := "([BI)C" } : Jvm.MethodName) jdk_43_method_2_code (2 : Nat) (Option.some Jvm.ClassFile.FieldType.char)).before args0 about1 = true := code_word (m := ⟨18, 1⟩) (meth := k18m1) (c := k18c1) (by decide +kernel) rfl rfl rfl (by decide +kernel)
set_option maxRecDepth 65536 in
theorem w_c34 : (Jvm.Cond.code ({ cls := "java/lang/String", name := "checkIndex", desc := "(II)V" } : Jvm.MethodName) jdk_42_method_155_code (2 : Nat) (Option.none : Option Jvm.ClassFile.FieldType)).before args0 about1 = true := code_word (m := ⟨9, 11⟩) (meth := k9m11) (c := k9c11) (by decide +kernel) rfl rfl rfl (by decide +kernel)
set_option maxRecDepth 65536 in
theorem w_c35 : (Jvm.Cond.code ({ cls := "jdk/internal/util/Preconditions", name := "checkIndex", desc := "(IILjava/util/function/BiFunction;)I" } : Jvm.MethodName) jdk_41_method_11_code (3 : Nat) (Option.some Jvm.ClassFile.FieldType.int)).before args0 about1 = true := code_word (m := ⟨19, 1⟩) (meth := k19m1) (c := k19c1) (by decide +kernel) rfl rfl rfl (by decide +kernel)
set_option maxRecDepth 65536 in
theorem w_c36 : (Jvm.Cond.code ({ cls := "java/lang/StringUTF16", name := "compress", desc := "([CII)[B" } : Jvm.MethodName) jdk_52_method_16_code (6 : Nat) (Option.some (Jvm.ClassFile.FieldType.array Jvm.ClassFile.FieldType.byte))).before args0 about1 = true := code_word (m := ⟨20, 2⟩) (meth := k20m2) (c := k20c2) (by decide +kernel) rfl rfl rfl (by decide +kernel)
set_option maxRecDepth 65536 in
theorem w_c37 : (Jvm.Cond.code ({ cls := "java/lang/StringUTF16", name := "compress", desc := "([CI[BII)I" } : Jvm.MethodName) jdk_52_method_21_code (7 : Nat) (Option.some Jvm.ClassFile.FieldType.int)).before args0 about1 = true := code_word (m := ⟨20, 3⟩) (meth := k20m3) (c := k20c3) (by decide +kernel) rfl rfl rfl (by decide +kernel)
set_option maxRecDepth 65536 in
theorem w_c38 : (Jvm.Cond.code ({ cls := "java/lang/StringUTF16", name := "coderFromArrayLen", desc := "([BI)B" } : Jvm.MethodName) jdk_52_method_15_code (2 : Nat) (Option.some Jvm.ClassFile.FieldType.byte)).before args0 about1 = true := code_word (m := ⟨20, 1⟩) (meth := k20m1) (c := k20c1) (by decide +kernel) rfl rfl rfl (by decide +kernel)
def codes1 : List Jvm.Cond := [Jvm.Cond.code x code maxLocals ret, Jvm.Cond.code ({ cls := "com/example/hearsay_rules/hearsayrules/ProblemTextPinLaw", name := "mk", desc := "(III)Ljava/lang/String;" } : Jvm.MethodName) method_3_code (4 : Nat) (Option.some (Jvm.ClassFile.FieldType.object "java/lang/String")), Jvm.Cond.code ({ cls := "java/lang/String", name := "<init>", desc := "([C)V" } : Jvm.MethodName) jdk_42_method_3_code (2 : Nat) (Option.none : Option Jvm.ClassFile.FieldType), Jvm.Cond.code ({ cls := "java/lang/String", name := "<init>", desc := "([CIILjava/lang/Void;)V" } : Jvm.MethodName) jdk_42_method_149_code (6 : Nat) (Option.none : Option Jvm.ClassFile.FieldType), Jvm.Cond.code ({ cls := "java/lang/Object", name := "<init>", desc := "()V" } : Jvm.MethodName) object_method_1_code (1 : Nat) (Option.none : Option Jvm.ClassFile.FieldType), Jvm.Cond.code ({ cls := "com/example/hearsay_rules/hearsayrules/Problem", name := "<init>", desc := "(Lcom/example/hearsay_rules/hearsayrules/Problem$Severity;Ljava/lang/String;Ljava/lang/String;)V" } : Jvm.MethodName) prog_17_method_1_code (4 : Nat) (Option.none : Option Jvm.ClassFile.FieldType), Jvm.Cond.code ({ cls := "java/lang/Record", name := "<init>", desc := "()V" } : Jvm.MethodName) jdk_30_method_1_code (1 : Nat) (Option.none : Option Jvm.ClassFile.FieldType), Jvm.Cond.code ({ cls := "com/example/hearsay_rules/hearsayrules/Problem", name := "text", desc := "()Ljava/lang/String;" } : Jvm.MethodName) prog_17_method_2_code (1 : Nat) (Option.some (Jvm.ClassFile.FieldType.object "java/lang/String")), Jvm.Cond.code ({ cls := "java/lang/String", name := "equals", desc := "(Ljava/lang/Object;)Z" } : Jvm.MethodName) jdk_42_method_66_code (3 : Nat) (Option.some Jvm.ClassFile.FieldType.boolean), Jvm.Cond.code ({ cls := "java/lang/StringBuilder", name := "<init>", desc := "()V" } : Jvm.MethodName) jdk_67_method_1_code (1 : Nat) (Option.none : Option Jvm.ClassFile.FieldType), Jvm.Cond.code ({ cls := "java/lang/AbstractStringBuilder", name := "<init>", desc := "(I)V" } : Jvm.MethodName) jdk_68_method_2_code (2 : Nat) (Option.none : Option Jvm.ClassFile.FieldType), Jvm.Cond.code ({ cls := "java/lang/StringBuilder", name := "append", desc := "(Ljava/lang/String;)Ljava/lang/StringBuilder;" } : Jvm.MethodName) jdk_67_method_7_code (2 : Nat) (Option.some (Jvm.ClassFile.FieldType.object "java/lang/StringBuilder")), Jvm.Cond.code ({ cls := "java/lang/AbstractStringBuilder", name := "append", desc := "(Ljava/lang/String;)Ljava/lang/AbstractStringBuilder;" } : Jvm.MethodName) jdk_68_method_22_code (3 : Nat) (Option.some (Jvm.ClassFile.FieldType.object "java/lang/AbstractStringBuilder")), Jvm.Cond.code ({ cls := "java/lang/String", name := "length", desc := "()I" } : Jvm.MethodName) jdk_42_method_54_code (1 : Nat) (Option.some Jvm.ClassFile.FieldType.int), Jvm.Cond.code ({ cls := "java/lang/String", name := "coder", desc := "()B" } : Jvm.MethodName) jdk_42_method_152_code (1 : Nat) (Option.some Jvm.ClassFile.FieldType.byte), Jvm.Cond.code ({ cls := "java/lang/AbstractStringBuilder", name := "ensureCapacityInternal", desc := "(I)V" } : Jvm.MethodName) jdk_68_method_9_code (3 : Nat) (Option.none : Option Jvm.ClassFile.FieldType), Jvm.Cond.code ({ cls := "java/lang/AbstractStringBuilder", name := "putStringAt", desc := "(ILjava/lang/String;)V" } : Jvm.MethodName) jdk_68_method_73_code (3 : Nat) (Option.none : Option Jvm.ClassFile.FieldType), Jvm.Cond.code ({ cls := "java/lang/AbstractStringBuilder", name := "inflateIfNeededFor", desc := "(Ljava/lang/String;)V" } : Jvm.MethodName) jdk_68_method_71_code (2 : Nat) (Option.none : Option Jvm.ClassFile.FieldType), Jvm.Cond.code ({ cls := "java/lang/String", name := "getBytes", desc := "([BIB)V" } : Jvm.MethodName) jdk_42_method_147_code (4 : Nat) (Option.none : Option Jvm.ClassFile.FieldType), Jvm.Cond.code ({ cls := "java/lang/StringBuilder", name := "toString", desc := "()Ljava/lang/String;" } : Jvm.MethodName) jdk_67_method_42_code (1 : Nat) (Option.some (Jvm.ClassFile.FieldType.object "java/lang/String")), Jvm.Cond.code ({ cls := "java/lang/String", name := "<init>", desc := "(Ljava/lang/StringBuilder;)V" } : Jvm.MethodName) jdk_42_method_53_code (2 : Nat) (Option.none : Option Jvm.ClassFile.FieldType), Jvm.Cond.code ({ cls := "java/lang/String", name := "<init>", desc := "(Ljava/lang/AbstractStringBuilder;Ljava/lang/Void;)V" } : Jvm.MethodName) jdk_42_method_150_code (5 : Nat) (Option.none : Option Jvm.ClassFile.FieldType), Jvm.Cond.code ({ cls := "java/lang/AbstractStringBuilder", name := "getValue", desc := "()[B" } : Jvm.MethodName) jdk_68_method_64_code (1 : Nat) (Option.some (Jvm.ClassFile.FieldType.array Jvm.ClassFile.FieldType.byte)), Jvm.Cond.code ({ cls := "java/lang/StringBuilder", name := "length", desc := "()I" } : Jvm.MethodName) jdk_67_method_93_code (1 : Nat) (Option.some Jvm.ClassFile.FieldType.int), Jvm.Cond.code ({ cls := "java/lang/AbstractStringBuilder", name := "length", desc := "()I" } : Jvm.MethodName) jdk_68_method_6_code (1 : Nat) (Option.some Jvm.ClassFile.FieldType.int), Jvm.Cond.code ({ cls := "java/lang/AbstractStringBuilder", name := "isLatin1", desc := "()Z" } : Jvm.MethodName) jdk_68_method_68_code (1 : Nat) (Option.some Jvm.ClassFile.FieldType.boolean), Jvm.Cond.code ({ cls := "java/util/Arrays", name := "copyOfRange", desc := "([BII)[B" } : Jvm.MethodName) jdk_65_method_132_code (3 : Nat) (Option.some (Jvm.ClassFile.FieldType.array Jvm.ClassFile.FieldType.byte)), Jvm.Cond.code ({ cls := "java/util/Arrays", name := "copyOfRangeByte", desc := "([BII)[B" } : Jvm.MethodName) jdk_65_method_133_code (5 : Nat) (Option.some (Jvm.ClassFile.FieldType.array Jvm.ClassFile.FieldType.byte)), Jvm.Cond.code ({ cls := "java/util/Arrays", name := "checkLength", desc := "(II)V" } : Jvm.MethodName) jdk_65_method_131_code (2 : Nat) (Option.none : Option Jvm.ClassFile.FieldType), Jvm.Cond.code ({ cls := "java/lang/Math", name := "min", desc := "(II)I" } : Jvm.MethodName) jdk_29_method_69_code (2 : Nat) (Option.some Jvm.ClassFile.FieldType.int), Jvm.Cond.code ({ cls := "com/example/hearsay_rules/hearsayrules/ProblemTextPinLaw", name := "at", desc := "(Ljava/lang/String;Ljava/lang/String;Ljava/lang/String;I)Z" } : Jvm.MethodName) method_4_code (6 : Nat) (Option.some Jvm.ClassFile.FieldType.boolean), Jvm.Cond.code ({ cls := "java/lang/String", name := "charAt", desc := "(I)C" } : Jvm.MethodName) jdk_42_method_56_code (2 : Nat) (Option.some Jvm.ClassFile.FieldType.char), Jvm.Cond.code ({ cls := "java/lang/String", name := "isLatin1", desc := "()Z" } : Jvm.MethodName) jdk_42_method_154_code (1 : Nat) (Option.some Jvm.ClassFile.FieldType.boolean), Jvm.Cond.code ({ cls := "java/lang/StringLatin1", name := "charAt", desc := "([BI)C" } : Jvm.MethodName) jdk_43_method_2_code (2 : Nat) (Option.some Jvm.ClassFile.FieldType.char), Jvm.Cond.code ({ cls := "java/lang/String", name := "checkIndex", desc := "(II)V" } : Jvm.MethodName) jdk_42_method_155_code (2 : Nat) (Option.none : Option Jvm.ClassFile.FieldType), Jvm.Cond.code ({ cls := "jdk/internal/util/Preconditions", name := "checkIndex", desc := "(IILjava/util/function/BiFunction;)I" } : Jvm.MethodName) jdk_41_method_11_code (3 : Nat) (Option.some Jvm.ClassFile.FieldType.int), Jvm.Cond.code ({ cls := "java/lang/StringUTF16", name := "compress", desc := "([CII)[B" } : Jvm.MethodName) jdk_52_method_16_code (6 : Nat) (Option.some (Jvm.ClassFile.FieldType.array Jvm.ClassFile.FieldType.byte)), Jvm.Cond.code ({ cls := "java/lang/StringUTF16", name := "compress", desc := "([CI[BII)I" } : Jvm.MethodName) jdk_52_method_21_code (7 : Nat) (Option.some Jvm.ClassFile.FieldType.int), Jvm.Cond.code ({ cls := "java/lang/StringUTF16", name := "coderFromArrayLen", desc := "([BI)B" } : Jvm.MethodName) jdk_52_method_15_code (2 : Nat) (Option.some Jvm.ClassFile.FieldType.byte)]
set_option maxRecDepth 65536 in
theorem codes_eq : words1.filter isCode = codes1 := rfl
theorem w_codes : ∀ c ∈ words1.filter isCode, c.before args0 about1 = true := by
  rw [codes_eq]
  intro c hc
  simp only [codes1, List.mem_cons, List.not_mem_nil, or_false] at hc
  rcases hc with rfl | rfl | rfl | rfl | rfl | rfl | rfl | rfl | rfl | rfl | rfl | rfl | rfl | rfl | rfl | rfl | rfl | rfl | rfl | rfl | rfl | rfl | rfl | rfl | rfl | rfl | rfl | rfl | rfl | rfl | rfl | rfl | rfl | rfl | rfl | rfl | rfl | rfl | rfl
  · exact w_c0
  · exact w_c1
  · exact w_c2
  · exact w_c3
  · exact w_c4
  · exact w_c5
  · exact w_c6
  · exact w_c7
  · exact w_c8
  · exact w_c9
  · exact w_c10
  · exact w_c11
  · exact w_c12
  · exact w_c13
  · exact w_c14
  · exact w_c15
  · exact w_c16
  · exact w_c17
  · exact w_c18
  · exact w_c19
  · exact w_c20
  · exact w_c21
  · exact w_c22
  · exact w_c23
  · exact w_c24
  · exact w_c25
  · exact w_c26
  · exact w_c27
  · exact w_c28
  · exact w_c29
  · exact w_c30
  · exact w_c31
  · exact w_c32
  · exact w_c33
  · exact w_c34
  · exact w_c35
  · exact w_c36
  · exact w_c37
  · exact w_c38
set_option maxRecDepth 65536 in
theorem w_t1 : (words1.take 24).all (fun c => isCode c || c.before args0 about1) = true := by decide +kernel
set_option maxRecDepth 65536 in
theorem w_t2 : ((words1.drop 24).take 24).all (fun c => isCode c || c.before args0 about1) = true := by decide +kernel
set_option maxRecDepth 65536 in
theorem w_t3 : (((words1.drop 24).drop 24).take 24).all (fun c => isCode c || c.before args0 about1) = true := by decide +kernel
set_option maxRecDepth 65536 in
theorem w_t4 : ((((words1.drop 24).drop 24).drop 24).take 24).all (fun c => isCode c || c.before args0 about1) = true := by decide +kernel
set_option maxRecDepth 65536 in
theorem w_t5 : (((((words1.drop 24).drop 24).drop 24).drop 24).take 24).all (fun c => isCode c || c.before args0 about1) = true := by decide +kernel
set_option maxRecDepth 65536 in
theorem w_t6 : ((((((words1.drop 24).drop 24).drop 24).drop 24).drop 24).take 24).all (fun c => isCode c || c.before args0 about1) = true := by decide +kernel
set_option maxRecDepth 65536 in
theorem w_t7 : (((((((words1.drop 24).drop 24).drop 24).drop 24).drop 24).drop 24).take 24).all (fun c => isCode c || c.before args0 about1) = true := by decide +kernel
set_option maxRecDepth 65536 in
theorem w_t8 : ((((((((words1.drop 24).drop 24).drop 24).drop 24).drop 24).drop 24).drop 24).take 24).all (fun c => isCode c || c.before args0 about1) = true := by decide +kernel
set_option maxRecDepth 65536 in
theorem w_t9 : ((((((((words1.drop 24).drop 24).drop 24).drop 24).drop 24).drop 24).drop 24).drop 24).all (fun c => isCode c || c.before args0 about1) = true := by decide +kernel
theorem w_tables : (allAtoms (Jvm.Cond.code x code maxLocals ret :: tables_1)).before args0 about1 = true := by
  rw [allAtoms_all]
  show words1.all (fun c => c.before args0 about1) = true
  refine all_split ?_ w_codes
  rw [← List.take_append_drop 24 words1, List.all_append, w_t1, ← List.take_append_drop 24 (words1.drop 24), List.all_append, w_t2, ← List.take_append_drop 24 ((words1.drop 24).drop 24), List.all_append, w_t3, ← List.take_append_drop 24 (((words1.drop 24).drop 24).drop 24), List.all_append, w_t4, ← List.take_append_drop 24 ((((words1.drop 24).drop 24).drop 24).drop 24), List.all_append, w_t5, ← List.take_append_drop 24 (((((words1.drop 24).drop 24).drop 24).drop 24).drop 24), List.all_append, w_t6, ← List.take_append_drop 24 ((((((words1.drop 24).drop 24).drop 24).drop 24).drop 24).drop 24), List.all_append, w_t7, ← List.take_append_drop 24 (((((((words1.drop 24).drop 24).drop 24).drop 24).drop 24).drop 24).drop 24), List.all_append, w_t8, w_t9]
  rfl
set_option maxRecDepth 65536 in
theorem w_rest : rest_1_c.before args0 about1 = true := by decide +kernel
set_option maxRecDepth 65536 in
theorem w_case : (Jvm.Cond.and given_1 narrow_1).before args0 about1 = true := by decide +kernel
set_option maxRecDepth 65536 in
theorem w_consts : constsHeld consts_1 about1 := Jvm.Lit.constsHeldB_iff.mp (by decide +kernel)
theorem w_applies : (headSpec (Jvm.Cond.code x code maxLocals ret :: tables_1) room_1).applies x e0.platform about1 = true :=
  (Spec.applies_iff w_frames).mpr ⟨w_running, w_runnable, w_alone, w_named, w_hears, w_ripe, w_room, w_tables⟩
theorem atStart : AtStart classFile x code maxLocals ret World_1 tables_1 room_1 Calls_1 rest_1 Pre_1 launch0 p0 e0 about1 theMethod args0 below0 :=
  ⟨lists_1, trivial, launch0.admits_env _ _ _, launch0.least_env, fairChoices_fair.cas, fairChoices_fair.clock, w_frames, w_args, w_heap, w_applies, ⟨w_consts, trivial⟩, w_rest, w_case⟩
end start1
theorem witness_1 : WitnessClaimed_1 := ⟨start1.p0, start1.e0, start1.about1, start1.theMethod, start1.args0, start1.below0, start1.atStart⟩
end Jvm.Pilot.@@N@@
