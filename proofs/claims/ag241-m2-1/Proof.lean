import JvmDerived
import JvmDerived.Pilot.@@N@@Statement
import JvmDerived.Pilot.@@N@@Code
set_option linter.unusedVariables false
set_option linter.unusedSimpArgs false
namespace Jvm.Pilot.@@N@@
open Jvm Jvm.ClassFile Sem Op Lib Jvm.Free Jvm.Stand Jvm.LawKit Jvm.RoadKit Bundle Jvm.Pilot.@@N@@.Jvm.D

/-- the run that stands at T with the top frame f ends, and its end is as P says -/
def Go (p : Program) (e : Env) (below : List Frame) (P : Outcome → State → Prop) (T : State) (f : JFrame) : Prop :=
  ∃ s₂ o, Steps p.tables e below (T.setTop f) s₂ ∧ s₂.status = .running ∧ Ended s₂ below o ∧ P o s₂
theorem Go.st {p : Program} {e : Env} {below : List Frame} {P : Outcome → State → Prop} {T T' : State} {f f' : JFrame}
    (h : ∀ t, Steps p.tables e below (T'.setTop f') t → Steps p.tables e below (T.setTop f) t) (k : Go p e below P T' f') : Go p e below P T f := by
  obtain ⟨s₂, o, a, b⟩ := k
  exact ⟨s₂, o, h _ a, b⟩
theorem Go.tr {p : Program} {e : Env} {below : List Frame} {P : Outcome → State → Prop} {T T' : State} {f f' : JFrame}
    (h : Steps p.tables e below (T.setTop f) (T'.setTop f')) (k : Go p e below P T' f') : Go p e below P T f := by
  obtain ⟨s₂, o, a, b⟩ := k
  exact ⟨s₂, o, h.trans a, b⟩
/-- what a contract says of the end -/
abbrev Done (s : State) (Q : Option Value → Heap → List Loc → Prop) (C S : Nat) (o : Outcome) (U' : State) : Prop :=
  ∃ v L, o = .returned v ∧ Q v U'.heap L ∧ FrameEnd s o U' L C S
theorem Go.ret {p : Program} {l : Launch} {e : Env} {R : Room} {s : State} {m : MethodId} {args : Array Value} {below : List Frame} {meth : Method} {c : Code} {T : State} {locs : List Loc} {cells slots : Nat} {h : Heap}
    {Q : Option Value → Heap → List Loc → Prop} {C S : Nat} {v : Option Value} {f : JFrame}
    (X : Stand p l e R s m args below meth c T locs cells slots) (hlk : meth.locks = false) (hv : meth.sig.returnType = none → v = none)
    (hs : ∀ fs, (∀ (f : JFrame) (acts : List Action), f.method = m → f.locked = none → f.entered = [] → (doReturn e (T.setTop f) acts v).1 = T.setFrames fs) → Steps p.tables e below (T.setTop f) (T.setFrames fs))
    (eT : T.heap = h) (hQ : Q v h locs) (hc : cells ≤ C) (hl : slots ≤ S) : Go p e below (Done s Q C S) T f := by
  obtain ⟨fs, hr, hrun, hended, hW, hsame⟩ := X.leave (v := v) hv hlk
  refine ⟨_, _, hs fs hr, hrun, hended, v, locs, rfl, ?_, ⟨_, rfl⟩, hW, hsame.mono hc hl⟩
  show Q v T.heap locs
  rw [eT]; exact hQ
theorem Go.retB {p : Program} {l : Launch} {e : Env} {R : Room} {s : State} {m : MethodId} {args : Array Value} {below : List Frame} {meth : Method} {c : Code} {T : State} {locs : List Loc} {cells slots : Nat} {h : Heap}
    {Q : Option Value → Heap → List Loc → Prop} {C S : Nat} {pc : Nat} {Ls : Array Slot} {z : Int32} {rest : List Value} {t : FieldType}
    (X : Stand p l e R s m args below meth c T locs cells slots) (hlk : meth.locks = false) (hx : p.tables.exec = Jvm.exec) (hret : meth.sig.returnType = some t) (ht : t = .boolean ∨ t = .byte ∨ t = .char ∨ t = .short)
    (hd : decode c.code pc = .ok (.ireturn, 1)) (eT : T.heap = h) (hQ : Q (some (.int (nar t z))) h locs) (hc : cells ≤ C) (hl : slots ≤ S) : Go p e below (Done s Q C S) T (mkF m pc Ls (.int z :: rest)) :=
  Go.ret X hlk (fun h => by rw [hret] at h; cases h) (fun _ hr => retN X hx hret ht hd hr) eT hQ hc hl
theorem Go.retV {p : Program} {l : Launch} {e : Env} {R : Room} {s : State} {m : MethodId} {args : Array Value} {below : List Frame} {meth : Method} {c : Code} {T : State} {locs : List Loc} {cells slots : Nat} {h : Heap}
    {Q : Option Value → Heap → List Loc → Prop} {C S : Nat} {pc : Nat} {Ls : Array Slot} {w : Value} {rest : List Value} {t : FieldType} {i : Instr}
    (X : Stand p l e R s m args below meth c T locs cells slots) (hlk : meth.locks = false) (hx : p.tables.exec = Jvm.exec) (hret : meth.sig.returnType = some t) (hn : narrow t w = w)
    (hi : (i = .ireturn ∧ (t = .int ∨ t = .boolean ∨ t = .byte ∨ t = .char ∨ t = .short) ∧ ∃ z, w = .int z) ∨ (i = .lreturn ∧ t = .long ∧ ∃ z, w = .long z) ∨ (i = .dreturn ∧ t = .double ∧ ∃ z, w = .double z) ∨ (i = .freturn ∧ t = .float ∧ ∃ z, w = .float z) ∨ (i = .areturn ∧ t.isReference = true ∧ w.isRef = true))
    (hd : decode c.code pc = .ok (i, 1)) (eT : T.heap = h) (hQ : Q (some w) h locs) (hc : cells ≤ C) (hl : slots ≤ S) : Go p e below (Done s Q C S) T (mkF m pc Ls (w :: rest)) :=
  Go.ret X hlk (fun h => by rw [hret] at h; cases h) (fun _ hr => retOut X hx hret hn hi hd hr) eT hQ hc hl
theorem Go.ret0 {p : Program} {l : Launch} {e : Env} {R : Room} {s : State} {m : MethodId} {args : Array Value} {below : List Frame} {meth : Method} {c : Code} {T : State} {locs : List Loc} {cells slots : Nat} {h : Heap}
    {Q : Option Value → Heap → List Loc → Prop} {C S : Nat} {pc : Nat} {Ls : Array Slot}
    (X : Stand p l e R s m args below meth c T locs cells slots) (hlk : meth.locks = false) (hx : p.tables.exec = Jvm.exec) (hret : meth.sig.returnType = none)
    (hd : decode c.code pc = .ok (.return_, 1)) (eT : T.heap = h) (hQ : Q none h locs) (hc : cells ≤ C) (hl : slots ≤ S) : Go p e below (Done s Q C S) T (mkF m pc Ls []) :=
  Go.ret X hlk (fun _ => rfl) (fun _ hr => X.returnOut hx hret hd hr) eT hQ hc hl
/-- an entry that stands resolved stays so, also where String constants are loaded -/
theorem own_fieldRef {Z : State} {vm1 : Vm} {a0 : Array Value} {own O n d : String} {index : Nat} (hW : Z.Warmed39 vm1) (w : (Cond.fieldRef own index O n d).before a0 Z = true) : (Cond.fieldRef own index O n d).before a0 (Z.setVm vm1) = true := by
  simp only [Cond.before, Cond.holds, Cond.value, State.vm_setVm, hW.alike.findClass, State.names_setVm hW.alike] at w ⊢
  cases q1 : Z.vm.findClass own with
  | none => rw [q1] at w; simp at w
  | some cO =>
    cases q2 : Z.fieldFound? O n d with
    | none => rw [q1, q2] at w; simp at w
    | some z =>
      obtain ⟨c1, k1, i1, f1⟩ := z
      obtain ⟨k2, q3, -⟩ := State.fieldFound?_setVm hW.alike q2
      rw [q1, q2] at w
      rw [q3]
      cases q4 : Z.resolvedAt? own index with
      | none => rw [q4] at w; simp at w
      | some r => rw [State.resolvedAt?_warmed39 hW q4]; rw [q4] at w; exact w
/-- getfield through an entry that stands resolved at the start (the word fieldRef) -/
theorem own_getR {p : Program} {l : Launch} {e : Env} {R : Room} {s : State} {m : MethodId} {args : Array Value} {below : List Frame} {meth : Method} {c : Code} {T : State} {locs : List Loc} {cells slots : Nat} {Z : State} {a0 : Array Value} {h : Heap}
    (X : Stand p l e R s m args below meth c T locs cells slots) (hx : p.tables.exec = Jvm.exec) (hZ : Z.Warmed39 s.vm) {own O n d : String} {index : Nat} (hown : s.vm.findClass own = some m.cls) (w : (Cond.fieldRef own index O n d).before a0 Z = true)
    (eT : T.heap = h) {a : Addr} {v : Value} (F : Fld Z h a O n d v) {g : JFrame} (hg : g.method = m) {rest : List Value} (hs : g.stack = .ref a :: rest) (hd : decode c.code g.pc = .ok (.getfield index, 3)) :
    ∃ T', Stand p l e R s m args below meth c T' locs cells slots ∧ T'.heap = h ∧ ∀ target, Steps p.tables e below (T'.setTop { g with pc := g.pc + 3, stack := v :: rest }) target → Steps p.tables e below (T.setTop g) target := by
  obtain ⟨cell, cf, k, i, f, h1, h2, h3, h4, -, -, h7⟩ := F
  have w1 : (Cond.fieldRef own index O n d).before args s = true := (own_fieldRef hZ w : (Cond.fieldRef own index O n d).before a0 (Z.setVm s.vm) = true)
  have w2 := Cond.fieldRef_warmed X.warmed w1
  obtain ⟨k1, r1, -⟩ := State.fieldFound?_setVm (s := Z) hZ.alike h2
  obtain ⟨k2, r2, -⟩ := State.fieldFound?_setVm (s := s) X.warmed.alike (show s.fieldFound? O n d = _ from r1)
  obtain ⟨c', k', i', f', q1, q2⟩ := Cond.fieldRef_spec (s := s.setVm T.vm) (cur := m.cls) (by rw [State.vm_setVm, X.warmed.alike.findClass]; exact hown) w2
  cases q1.symm.trans r2
  exact ⟨T, X, eT, fun target k => (X.getfieldR hx hg q2 h3 hs (by rw [eT]; exact h1) h4 h7 hd (Steps.refl _)).trans k⟩
/-- the form of every contract here -/
def Con (l : Launch) (Z : State) (y : MethodName) (bytes : ByteArray) (ml : Nat) (ret : Option FieldType) (ws : List Jvm.Cond) (room : Room) (A : Array Value) (h0 : Heap) (Q : Option Value → Heap → List Loc → Prop) : Prop :=
  MetFree l y (head1 (Jvm.Cond.code y bytes ml ret :: ws) room) (fun a U => a = A ∧ Z.Warmed39 U.vm ∧ U.heap = h0) (fun _ _ _ _ _ => True) (fun _ U o U' => ∃ v L, o = .returned v ∧ Q v U'.heap L ∧ FrameEnd U o U' L room.cells room.slots)
theorem own_body {l : Launch} {Z : State} {y : MethodName} {bytes : ByteArray} {ml : Nat} {ret : Option FieldType} {ws : List Jvm.Cond} {room : Room} {A : Array Value} {h0 : Heap} {Q : Option Value → Heap → List Loc → Prop} (hpn : plainFor y = true)
    (body : ∀ (p : Program) (e : Env) (s : State) (m : MethodId) (below : List Frame) (meth : Method) (c : Code) (s₁ : State), p.tables.exec = Jvm.exec → c.code = bytes → c.maxLocals = ml → Z.Warmed39 s.vm → s.vm.findClass y.cls = some m.cls → meth.name = y.name → meth.locks = false → meth.sig.returnType = ret →
      Stand p l e room s m A below meth c s₁ [] 0 0 → s₁.heap = h0 → Go p e below (Done s Q room.cells room.slots) s₁ (entryFrame m A ml)) : Con l Z y bytes ml ret ws room A h0 Q := by
  refine MetFree.of_bodySF hpn hisR ?_
  intro p e s m args below meth c s₁ Bd hml0 hP hK
  obtain ⟨rfl, hZ, hh⟩ := hP
  exact body p e s m below meth c s₁ Bd.exec Bd.bytes hml0 hZ (findClass_of_methodNamed Bd.named) (name_of_methodNamed Bd.named Bd.method).1 Bd.notSynchronized Bd.returns (Stand.of_body Bd) (by rw [← hh, Bd.state]; rfl)
theorem own_back {l : Launch} {R : Room} {p : Program} {e : Env} {below : List Frame} {s Z : State} {args a0 : Array Value} {h : Heap} {y : MethodName} {bytes : ByteArray} {maxL : Nat} {ret : Option FieldType} {rm : Room} {len W : Nat} {as' : Array Value} {Q : Option Value → Heap → List Loc → Prop}
    (hM : Con l Z y bytes maxL ret [] rm as' h Q) (hZ : Z.Warmed39 s.vm) (wc : (Cond.code y bytes maxL ret).before a0 Z = true) (wz : (Cond.initialized y.cls).before a0 Z = true) (hf : rm.frames + 1 ≤ R.frames) (hl : W + (maxL + 11) + rm.locals ≤ R.locals) :
    Back l R p e below s args y len W (fun A a => a = as' ∧ A.U.heap = h ∧ A.cells + rm.cells ≤ R.cells ∧ A.slots + rm.slots ≤ R.slots)
      (fun A _ v B => ∃ L, Q v B.U.heap L ∧ B.locs = A.locs ++ L ∧ B.cells = A.cells + rm.cells ∧ B.slots = A.slots + rm.slots) := backOf (Q := Q) hM hZ wc wz hf hl
theorem Con.weaken {l : Launch} {Z : State} {y : MethodName} {bytes : ByteArray} {ml : Nat} {ret : Option FieldType} {ws : List Jvm.Cond} {room : Room} {A : Array Value} {h0 : Heap} {Q Q' : Option Value → Heap → List Loc → Prop} (h : Con l Z y bytes ml ret ws room A h0 Q) (hq : ∀ v h L, Q v h L → Q' v h L) : Con l Z y bytes ml ret ws room A h0 Q' := fun p e h1 h2 h3 s m args below hf happ hP hK => by
  obtain ⟨n, o, a, b, c, v, L, d, e, f⟩ := h p e h1 h2 h3 s m args below hf happ hP hK
  exact ⟨n, o, a, b, c, v, L, d, hq _ _ _ e, f⟩
theorem own_cat {v : Value} (h : v.isRef = true) : v.category = 1 := by cases v <;> first | rfl | (simp [Value.isRef] at h)
theorem acYes {c : ClassFile.ACond} {x y : Value} (h : x = y) : acV c (decide (x = y)) = acV c true := by rw [decide_eq_true h]

theorem own_weaken {l : Launch} {x : MethodName} {S : Spec} {P : Array Value → State → Prop} {K : Program → Env → List Frame → State → Array Value → Prop} {Q Q' : Array Value → State → Outcome → State → Prop} (h : MetFree l x S P K Q) (hq : ∀ a s o t, Q a s o t → Q' a s o t) : MetFree l x S P K Q' := fun p e h1 h2 h3 s m args below hf happ hP hK => by
  obtain ⟨n, o, a, b, c, d⟩ := h p e h1 h2 h3 s m args below hf happ hP hK
  exact ⟨n, o, a, b, c, hq _ _ _ _ d⟩
section Start
variable {args : Array Value} {first s : State} {o : Option Outcome} {idx : List Nat} {t u : Term}
theorem own_eq_int {k : Int32} (h : (Jvm.Cond.eq t (.int k)).value args first o s idx = some true) : t.eval args first o idx s = some (.int k) := by
  simp only [Cond.value, Term.eval] at h
  cases ht : t.eval args first o idx s with
  | none => simp [ht] at h
  | some x => cases x <;> simp [ht] at h ⊢ <;> exact h
theorem own_eq_ref {a : Addr} (h : (Jvm.Cond.eq t u).value args first o s idx = some true) (hu : u.eval args first o idx s = some (.ref a)) : t.eval args first o idx s = some (.ref a) := by
  simp only [Cond.value] at h
  rw [hu] at h
  cases ht : t.eval args first o idx s with
  | none => simp [ht] at h
  | some x => cases x <;> simp [ht] at h ⊢ <;> exact h
theorem own_len {a : Addr} {cl : Cell} {z : Int32} (h : (Term.length t).eval args first o idx s = some (.int z)) (ht : t.eval args first o idx s = some (.ref a)) (hc : s.heap[a]? = some cl) : cl.slots.size < 2 ^ 31 ∧ cl.slots.size.toInt32 = z := by
  obtain ⟨a', cell, e1, e2, e3⟩ := Term.length_spec h
  cases ht.symm.trans e1
  have e4 := (State.arrayAt?_spec e2).1
  cases hc.symm.trans e4
  refine ⟨?_, (Value.int.inj e3).symm⟩
  by_cases hn : cl.slots.size < 2147483648
  · exact hn
  · simp only [Term.eval, Option.bind_eq_bind, ht, Option.bind_some, e2] at h
    rw [if_neg hn] at h; cases h
theorem own_ne_int {z : Int32} (h : (Jvm.Cond.not (Jvm.Cond.eq t (.int 0))).value args first o s idx = some true) (ht : t.eval args first o idx s = some (.int z)) : ¬ z = 0 := by
  have h1 := not_v h
  intro e
  subst e
  simp [Cond.value, Term.eval, ht] at h1
theorem own_fld {a : Addr} {C n d : String} {k : Int32} (h : (Jvm.Cond.eq (Term.field t C n d) (.int k)).value args s none s [] = some true) (ht : t.eval args s none [] s = some (.ref a)) : Fld s s.heap a C n d (.int k) :=
  Fld.start (by rw [← fld_at ht]; exact own_eq_int h)
theorem own_elem {a : Addr} {cl : Cell} {w : Addr} {j : Int32} {i : Nat} (h : (Jvm.Cond.eq (Term.elem t (.int j)) u).value args s none s [] = some true) (hu : u.eval args s none [] s = some (.ref w)) (ht : t.eval args s none [] s = some (.ref a)) (hc : s.heap[a]? = some cl) (hj : j.toNatClampNeg = i) : cl.slots[i]? = some (.ref w) := by
  subst hj
  exact (elem_in (own_eq_ref h hu) ht rfl hc).2
end Start

/-- what a contract says of the end, where String constants may have been loaded -/
abbrev DoneW (s Z : State) (EL : List (String × Nat)) (Q : Option Value → Heap → List Loc → Prop) (C S : Nat) (o : Outcome) (U' : State) : Prop :=
  ∃ v L, o = .returned v ∧ Q v U'.heap L ∧ CHr Z EL s.vm s.heap U'.vm U'.heap ∧ ReturnedEndW s o U' L C S
theorem GoW.ret {p : Program} {l : Launch} {e : Env} {R : Room} {s Z : State} {a0 : Array Value} {EL : List (String × Nat)} {vm1 : Vm} {m : MethodId} {args : Array Value} {below : List Frame} {meth : Method} {c : Code} {T : State} {locs : List Loc} {cells slots : Nat} {h h0 : Heap} {k0 : Nat}
    {Q : Option Value → Heap → List Loc → Prop} {C S : Nat} {v : Option Value} {f : JFrame}
    (X : Stand p l e R (s.setVm vm1) m args below meth c T locs cells slots) (hlk : meth.locks = false) (hv : meth.sig.returnType = none → v = none)
    (hs : ∀ fs, (∀ (f : JFrame) (acts : List Action), f.method = m → f.locked = none → f.entered = [] → (doReturn e (T.setTop f) acts v).1 = T.setFrames fs) → Steps p.tables e below (T.setTop f) (T.setFrames fs))
    (eT : T.heap = h) (hS : s.Since vm1 k0) (hk : k0 ≤ h.size) (hZ : Z.Warmed39 vm1) (hEL : EW Z a0 EL) (cr : CHr Z EL s.vm h0 vm1 h) (hh : s.heap = h0) (hQ : Q v h locs) (hc : cells ≤ C) (hl : slots ≤ S) : Go p e below (DoneW s Z EL Q C S) T f := by
  obtain ⟨fs, hr, hrun, hended, hW⟩ := X.leaveW hS (by rw [eT]; exact hk) (v := v) hv hlk
  have cr2 := cr.trans (CHv.at X hZ hEL cr.1)
  subst eT hh
  exact ⟨_, _, hs fs hr, hrun, hended, v, locs, rfl, hQ, cr2, hW.1, hW.2.1, hW.2.2.1, hW.2.2.2.mono hc hl⟩
theorem GoW.retB {p : Program} {l : Launch} {e : Env} {R : Room} {s Z : State} {a0 : Array Value} {EL : List (String × Nat)} {vm1 : Vm} {m : MethodId} {args : Array Value} {below : List Frame} {meth : Method} {c : Code} {T : State} {locs : List Loc} {cells slots : Nat} {h h0 : Heap} {k0 : Nat}
    {Q : Option Value → Heap → List Loc → Prop} {C S : Nat} {pc : Nat} {Ls : Array Slot} {z : Int32} {rest : List Value} {t : FieldType}
    (X : Stand p l e R (s.setVm vm1) m args below meth c T locs cells slots) (hlk : meth.locks = false) (hx : p.tables.exec = Jvm.exec) (hret : meth.sig.returnType = some t) (ht : t = .boolean ∨ t = .byte ∨ t = .char ∨ t = .short)
    (hd : decode c.code pc = .ok (.ireturn, 1)) (eT : T.heap = h) (hS : s.Since vm1 k0) (hk : k0 ≤ h.size) (hZ : Z.Warmed39 vm1) (hEL : EW Z a0 EL) (cr : CHr Z EL s.vm h0 vm1 h) (hh : s.heap = h0) (hQ : Q (some (.int (nar t z))) h locs) (hc : cells ≤ C) (hl : slots ≤ S) : Go p e below (DoneW s Z EL Q C S) T (mkF m pc Ls (.int z :: rest)) :=
  GoW.ret X hlk (fun h => by rw [hret] at h; cases h) (fun _ hr => retN X hx hret ht hd hr) eT hS hk hZ hEL cr hh hQ hc hl
theorem GoW.retV {p : Program} {l : Launch} {e : Env} {R : Room} {s Z : State} {a0 : Array Value} {EL : List (String × Nat)} {vm1 : Vm} {m : MethodId} {args : Array Value} {below : List Frame} {meth : Method} {c : Code} {T : State} {locs : List Loc} {cells slots : Nat} {h h0 : Heap} {k0 : Nat}
    {Q : Option Value → Heap → List Loc → Prop} {C S : Nat} {pc : Nat} {Ls : Array Slot} {w : Value} {rest : List Value} {t : FieldType} {i : Instr}
    (X : Stand p l e R (s.setVm vm1) m args below meth c T locs cells slots) (hlk : meth.locks = false) (hx : p.tables.exec = Jvm.exec) (hret : meth.sig.returnType = some t) (hn : narrow t w = w)
    (hi : (i = .ireturn ∧ (t = .int ∨ t = .boolean ∨ t = .byte ∨ t = .char ∨ t = .short) ∧ ∃ z, w = .int z) ∨ (i = .lreturn ∧ t = .long ∧ ∃ z, w = .long z) ∨ (i = .dreturn ∧ t = .double ∧ ∃ z, w = .double z) ∨ (i = .freturn ∧ t = .float ∧ ∃ z, w = .float z) ∨ (i = .areturn ∧ t.isReference = true ∧ w.isRef = true))
    (hd : decode c.code pc = .ok (i, 1)) (eT : T.heap = h) (hS : s.Since vm1 k0) (hk : k0 ≤ h.size) (hZ : Z.Warmed39 vm1) (hEL : EW Z a0 EL) (cr : CHr Z EL s.vm h0 vm1 h) (hh : s.heap = h0) (hQ : Q (some w) h locs) (hc : cells ≤ C) (hl : slots ≤ S) : Go p e below (DoneW s Z EL Q C S) T (mkF m pc Ls (w :: rest)) :=
  GoW.ret X hlk (fun h => by rw [hret] at h; cases h) (fun _ hr => retOut X hx hret hn hi hd hr) eT hS hk hZ hEL cr hh hQ hc hl
theorem GoW.ret0 {p : Program} {l : Launch} {e : Env} {R : Room} {s Z : State} {a0 : Array Value} {EL : List (String × Nat)} {vm1 : Vm} {m : MethodId} {args : Array Value} {below : List Frame} {meth : Method} {c : Code} {T : State} {locs : List Loc} {cells slots : Nat} {h h0 : Heap} {k0 : Nat}
    {Q : Option Value → Heap → List Loc → Prop} {C S : Nat} {pc : Nat} {Ls : Array Slot}
    (X : Stand p l e R (s.setVm vm1) m args below meth c T locs cells slots) (hlk : meth.locks = false) (hx : p.tables.exec = Jvm.exec) (hret : meth.sig.returnType = none)
    (hd : decode c.code pc = .ok (.return_, 1)) (eT : T.heap = h) (hS : s.Since vm1 k0) (hk : k0 ≤ h.size) (hZ : Z.Warmed39 vm1) (hEL : EW Z a0 EL) (cr : CHr Z EL s.vm h0 vm1 h) (hh : s.heap = h0) (hQ : Q none h locs) (hc : cells ≤ C) (hl : slots ≤ S) : Go p e below (DoneW s Z EL Q C S) T (mkF m pc Ls []) :=
  GoW.ret X hlk (fun _ => rfl) (fun _ hr => X.returnOut hx hret hd hr) eT hS hk hZ hEL cr hh hQ hc hl
/-- the form of a contract of a body that may load String constants -/
def ConW (l : Launch) (Z : State) (EL : List (String × Nat)) (y : MethodName) (bytes : ByteArray) (ml : Nat) (ret : Option FieldType) (ws : List Jvm.Cond) (room : Room) (A : Array Value) (h0 : Heap) (Q : Option Value → Heap → List Loc → Prop) : Prop :=
  MetFree l y (head1 (Jvm.Cond.code y bytes ml ret :: ws) room) (fun a U => a = A ∧ Z.Warmed39 U.vm ∧ U.heap = h0 ∧ CHv Z EL U.vm h0) (fun _ _ _ _ _ => True) (fun _ U o U' => ∃ v L, o = .returned v ∧ Q v U'.heap L ∧ CHr Z EL U.vm U.heap U'.vm U'.heap ∧ ReturnedEndW U o U' L room.cells room.slots)
theorem own_bodyW {l : Launch} {Z : State} {EL : List (String × Nat)} {y : MethodName} {bytes : ByteArray} {ml : Nat} {ret : Option FieldType} {ws : List Jvm.Cond} {room : Room} {A : Array Value} {h0 : Heap} {Q : Option Value → Heap → List Loc → Prop} (hpn : plainFor y = true)
    (body : ∀ (p : Program) (e : Env) (s : State) (m : MethodId) (below : List Frame) (meth : Method) (c : Code) (s₁ : State), p.tables.exec = Jvm.exec → c.code = bytes → c.maxLocals = ml → Z.Warmed39 s.vm → s.vm.findClass y.cls = some m.cls → meth.name = y.name → meth.locks = false → meth.sig.returnType = ret →
      Stand p l e room (s.setVm s.vm) m A below meth c s₁ [] 0 0 → s₁.heap = h0 → s.heap = h0 → s.Since s.vm 0 → CHr Z EL s.vm h0 s.vm h0 → Go p e below (DoneW s Z EL Q room.cells room.slots) s₁ (entryFrame m A ml)) : ConW l Z EL y bytes ml ret ws room A h0 Q := by
  refine MetFree.of_bodySF hpn hisR ?_
  intro p e s m args below meth c s₁ Bd hml0 hP hK
  obtain ⟨rfl, hZ, hh, hC⟩ := hP
  exact body p e s m below meth c s₁ Bd.exec Bd.bytes hml0 hZ (findClass_of_methodNamed Bd.named) (name_of_methodNamed Bd.named Bd.method).1 Bd.notSynchronized Bd.returns (Stand.of_body Bd) (by rw [← hh, Bd.state]; rfl) hh ((State.WarmedH.refl s).since 0) (CHr.refl hC)
theorem own_backW {l : Launch} {R : Room} {p : Program} {e : Env} {below : List Frame} {s Z : State} {args a0 : Array Value} {EL : List (String × Nat)} {vm0 : Vm} {h : Heap} {y : MethodName} {bytes : ByteArray} {maxL : Nat} {ret : Option FieldType} {rm : Room} {len W : Nat} {as' : Array Value} {Q : Option Value → Heap → List Loc → Prop}
    (hM : ConW l Z EL y bytes maxL ret [] rm as' h Q) (hZ : Z.Warmed39 vm0) (wc : (Cond.code y bytes maxL ret).before a0 Z = true) (wz : (Cond.initialized y.cls).before a0 Z = true) (hf : rm.frames + 1 ≤ R.frames) (hl : W + (maxL + 11) + rm.locals ≤ R.locals) (hEL : EW Z a0 EL) (H : CHv Z EL vm0 h) :
    BackS l R p e below (s.setVm vm0) args y len W (fun A a => a = as' ∧ A.U.heap = h ∧ A.cells + rm.cells ≤ R.cells ∧ A.slots + rm.slots ≤ R.slots)
      (fun A _ v B => ∃ L, Q v B.U.heap L ∧ B.locs = A.locs ++ L ∧ B.cells = A.cells + rm.cells ∧ B.slots = A.slots + rm.slots ∧ CHr Z EL vm0 h B.U.vm B.U.heap) := backOfSH (Q := Q) hM hZ wc wz hf hl hEL H
/-- a String whose value is not yet written is no literal's -/
theorem own_safe0 {Z : State} {EL : List (String × Nat)} {vm : Vm} {h : Heap} {x : Addr} (hal : Z.vm.Alike vm) (E : Exa Z h x "java/lang/String") (F : Fld Z h x "java/lang/String" "value" "[B" .null) : Safe Z EL vm h x := fun B => by
  obtain ⟨cell, k, e1, e2, e3, -, -⟩ := E
  obtain ⟨cell', cf, kf, i, f, f1, f2, f3, -, -, -, f7⟩ := F
  cases e1.symm.trans f1
  obtain ⟨p, -, u, a, -, q, -, G, rfl | rfl⟩ := B
  · cases (show h[q.sa]? = some q.sC from G.ha).symm.trans e1
    obtain ⟨cS, ⟨⟨s1, s2, s3, ⟨cv, kv, iv, s4, s4'⟩, r5, s6, s7, s8, -⟩, -, -⟩, -⟩ := G
    obtain ⟨kv', z4⟩ := ff_back (Z := Z) (U := Wst Z vm h) hal s4
    cases f2.symm.trans z4
    have := s8.symm.trans f7
    cases this
  · cases (show h[q.sd]? = some q.SA from G.hd).symm.trans e1
    obtain ⟨cS, -, -, fB, -⟩ := G
    have fB' : Z.vm.findClass "[B" = some q.SA.cls := by rw [← hal.findClass]; exact fB
    exact ids_ne e2 fB' (by decide) rfl

def World1 (Z : State) (w_NUMBER : Addr) (w_SYMBOL : Addr) (w_NAME : Addr) (w_END : Addr) (w_STRING : Addr) (i_COMPACT_STRINGS : Int32) (v_SIOOBE_FORMATTER : Value) : Prop :=
  Sta Z Z.heap "java/lang/String" "COMPACT_STRINGS" "Z" (.int i_COMPACT_STRINGS) ∧
  ¬ i_COMPACT_STRINGS = (0 : Int32) ∧
  Sta Z Z.heap "jdk/internal/util/Preconditions" "SIOOBE_FORMATTER" "Ljava/util/function/BiFunction;" v_SIOOBE_FORMATTER ∧
  v_SIOOBE_FORMATTER.isRef = true ∧
  Sta Z Z.heap "com/example/naysay/naysay/rules/Token$Kind" "NUMBER" "Lcom/example/naysay/naysay/rules/Token$Kind;" (.ref w_NUMBER) ∧
  Exa Z Z.heap w_NUMBER "com/example/naysay/naysay/rules/Token$Kind" ∧
  Sta Z Z.heap "com/example/naysay/naysay/rules/Token$Kind" "SYMBOL" "Lcom/example/naysay/naysay/rules/Token$Kind;" (.ref w_SYMBOL) ∧
  Exa Z Z.heap w_SYMBOL "com/example/naysay/naysay/rules/Token$Kind" ∧
  Sta Z Z.heap "com/example/naysay/naysay/rules/Token$Kind" "NAME" "Lcom/example/naysay/naysay/rules/Token$Kind;" (.ref w_NAME) ∧
  Exa Z Z.heap w_NAME "com/example/naysay/naysay/rules/Token$Kind" ∧
  Sta Z Z.heap "com/example/naysay/naysay/rules/Token$Kind" "END" "Lcom/example/naysay/naysay/rules/Token$Kind;" (.ref w_END) ∧
  Exa Z Z.heap w_END "com/example/naysay/naysay/rules/Token$Kind" ∧
  Sta Z Z.heap "com/example/naysay/naysay/rules/Token$Kind" "STRING" "Lcom/example/naysay/naysay/rules/Token$Kind;" (.ref w_STRING) ∧
  Exa Z Z.heap w_STRING "com/example/naysay/naysay/rules/Token$Kind" ∧
  Fld Z Z.heap w_NUMBER "java/lang/Enum" "ordinal" "I" (.int (0 : Int32)) ∧
  Fld Z Z.heap w_SYMBOL "java/lang/Enum" "ordinal" "I" (.int (3 : Int32)) ∧
  Fld Z Z.heap w_NAME "java/lang/Enum" "ordinal" "I" (.int (2 : Int32)) ∧
  Fld Z Z.heap w_END "java/lang/Enum" "ordinal" "I" (.int (4 : Int32)) ∧
  Fld Z Z.heap w_STRING "java/lang/Enum" "ordinal" "I" (.int (1 : Int32))
abbrev EL : List (String × Nat) := consts_1
theorem own_EL {Z : State} {a0 : Array Value} (hw : ∀ d ∈ tables_1, d.before a0 Z = true) : EW Z a0 EL := (EW.cons (hw _ (List.mem_of_getElem? (i := 25) rfl)) (by decide) EW.nil)
theorem own_wS {Z : State} {a0 : Array Value} (hw : ∀ d ∈ tables_1, d.before a0 Z = true) : ∀ a ∈ Bundle.stringAtoms, a.before a0 Z = true := by
  intro a ha
  simp only [Bundle.stringAtoms, Bundle.sN, List.mem_cons, List.not_mem_nil, or_false] at ha
  rcases ha with rfl | rfl | rfl | rfl | rfl | rfl | rfl
  · exact (hw _ (List.mem_of_getElem? (i := 13) rfl))
  · exact (hw _ (List.mem_of_getElem? (i := 12) rfl))
  · exact (hw _ (List.mem_of_getElem? (i := 26) rfl))
  · exact (hw _ (List.mem_of_getElem? (i := 27) rfl))
  · exact (hw _ (List.mem_of_getElem? (i := 28) rfl))
  · exact (hw _ (List.mem_of_getElem? (i := 29) rfl))
  · exact (hw _ (List.mem_of_getElem? (i := 30) rfl))
theorem pn_java_lang_StringUTF16 : plainName "java/lang/StringUTF16" = true := by first | (simp [plainName, overriddenIn]; done) | decide +kernel
theorem d7_0 : decode jdk_52_method_21_code 0 = .ok (.iconst 0, 1) := by decide +kernel
theorem d7_1 : decode jdk_52_method_21_code 1 = .ok (.istore 5, 2) := by decide +kernel
theorem d7_3 : decode jdk_52_method_21_code 3 = .ok (.iload 5, 2) := by decide +kernel
theorem d7_5 : decode jdk_52_method_21_code 5 = .ok (.iload 4, 2) := by decide +kernel
theorem d7_7 : decode jdk_52_method_21_code 7 = .ok (.if_icmp .ge 37, 3) := by decide +kernel
theorem d7_10 : decode jdk_52_method_21_code 10 = .ok (.aload_n 0, 1) := by decide +kernel
theorem d7_11 : decode jdk_52_method_21_code 11 = .ok (.iload_n 1, 1) := by decide +kernel
theorem d7_12 : decode jdk_52_method_21_code 12 = .ok (.caload, 1) := by decide +kernel
theorem d7_13 : decode jdk_52_method_21_code 13 = .ok (.istore 6, 2) := by decide +kernel
theorem d7_15 : decode jdk_52_method_21_code 15 = .ok (.iload 6, 2) := by decide +kernel
theorem d7_17 : decode jdk_52_method_21_code 17 = .ok (.sipush 255, 3) := by decide +kernel
theorem d7_20 : decode jdk_52_method_21_code 20 = .ok (.if_icmp .le 6, 3) := by decide +kernel
theorem d7_26 : decode jdk_52_method_21_code 26 = .ok (.aload_n 2, 1) := by decide +kernel
theorem d7_27 : decode jdk_52_method_21_code 27 = .ok (.iload_n 3, 1) := by decide +kernel
theorem d7_28 : decode jdk_52_method_21_code 28 = .ok (.iload 6, 2) := by decide +kernel
theorem d7_30 : decode jdk_52_method_21_code 30 = .ok (.i2b, 1) := by decide +kernel
theorem d7_31 : decode jdk_52_method_21_code 31 = .ok (.bastore, 1) := by decide +kernel
theorem d7_32 : decode jdk_52_method_21_code 32 = .ok (.iinc 1 1, 3) := by decide +kernel
theorem d7_35 : decode jdk_52_method_21_code 35 = .ok (.iinc 3 1, 3) := by decide +kernel
theorem d7_38 : decode jdk_52_method_21_code 38 = .ok (.iinc 5 1, 3) := by decide +kernel
theorem d7_41 : decode jdk_52_method_21_code 41 = .ok (.goto (-38), 3) := by decide +kernel
theorem d7_44 : decode jdk_52_method_21_code 44 = .ok (.iload 4, 2) := by decide +kernel
theorem d7_46 : decode jdk_52_method_21_code 46 = .ok (.ireturn, 1) := by decide +kernel
set_option maxRecDepth 65536 in
set_option maxHeartbeats 40000000 in
theorem st5_1 (l : Launch) (Z : State) (a0 : Array Value) (hw : ∀ d ∈ tables_1, d.before a0 Z = true) (ws : List Jvm.Cond) (a2 : Addr) (k2 : ClassId) (a1 : Addr) (k1 : ClassId) (c0 : Int32) (h0 : Heap) (n0 : Nat) (O0 : Old Z n0 h0) (hc_c0 : ¬ (255 : Int32) < c0) (ne12 : a1 ≠ a2) (g_a2 : n0 ≤ a2) (V_a1 : Arv Z h0 a1 k1 .char (1 : Int32) [(.int c0)] (.int 0)) (V_a2 : Arv Z h0 a2 k2 .byte (1 : Int32) [(.int 0)] (.int 0)) :
    Con l Z (⟨"java/lang/StringUTF16", "compress", "([CI[BII)I"⟩ : MethodName) jdk_52_method_21_code 7 (some .int) ws ({ frames := 0, cells := 0, slots := 0, locals := 0 } : Room) #[(.ref a1), (.int 0), (.ref a2), (.int 0), (.int 1)] h0 (fun v h L => v = some (.int 1) ∧ Fr n0 L ∧ Keep h0 h [a2] ∧ Arv Z h a2 k2 .byte (1 : Int32) [(.int (nar .byte (c0.toInt8.toInt32)))] (.int 0)) := by
  refine own_body (plainFor_of_name pn_java_lang_StringUTF16) ?_
  intro p e s m below meth c s₁ hx hby hml hZ hown hnm hlk hret X0 e0
  have N0 := Fr.nil n0
  have K0 : Keep h0 h0 [a2] := Keep.refl _ _
  refine Go.st (T' := s₁) (f' := (mkF m 0 #[rv a1, iv 0, rv a2, iv 0, iv 1, .unset, .unset] [])) (fun _ k => castTop (by first | (simp [entryFrame, mkF, argsToLocals, Value.category]; done) | rfl) k) ?_
  have lt_a1 := V_a1.lt
  have lt_a2 := V_a2.lt
  refine Go.st (f' := (mkF m 1 #[rv a1, iv 0, rv a2, iv 0, iv 1, .unset, .unset] [(.int 0)])) (fun _ k => XS.iconst X0.here hx rfl (hb hby d7_0) k) ?_
  refine Go.st (f' := (mkF m 3 #[rv a1, iv 0, rv a2, iv 0, iv 1, iv 0, .unset] [])) (fun _ k => XS.istore X0.here hx rfl (hb hby d7_1) rfl (l' := #[rv a1, iv 0, rv a2, iv 0, iv 1, iv 0, .unset]) rfl k) ?_
  refine Go.st (f' := (mkF m 5 #[rv a1, iv 0, rv a2, iv 0, iv 1, iv 0, .unset] [(.int 0)])) (fun _ k => XS.iload X0.here hx rfl (hb hby d7_3) rfl k) ?_
  refine Go.st (f' := (mkF m 7 #[rv a1, iv 0, rv a2, iv 0, iv 1, iv 0, .unset] [(.int 1), (.int 0)])) (fun _ k => XS.iload X0.here hx rfl (hb hby d7_5) rfl k) ?_
  refine Go.st (f' := (mkF m 10 #[rv a1, iv 0, rv a2, iv 0, iv 1, iv 0, .unset] [])) (fun _ k => XS.icmpNo X0.here hx rfl (hb hby d7_7) rfl (by decide) k) ?_
  refine Go.st (f' := (mkF m 11 #[rv a1, iv 0, rv a2, iv 0, iv 1, iv 0, .unset] [(.ref a1)])) (fun _ k => XS.aloadN X0.here hx rfl (hb hby d7_10) rfl rfl k) ?_
  refine Go.st (f' := (mkF m 12 #[rv a1, iv 0, rv a2, iv 0, iv 1, iv 0, .unset] [(.int 0), (.ref a1)])) (fun _ k => XS.iloadN X0.here hx rfl (hb hby d7_11) rfl k) ?_
  obtain ⟨cl1, Ar1, -, S1, -, H1, -⟩ := id V_a1
  have hin1 : ¬ ((0 : Int32) < 0 ∨ cl1.slots.size ≤ ((0 : Int32)).toNatClampNeg) := inb_of S1 ⟨by decide, by decide⟩
  have hat1 : cl1.slots[((0 : Int32)).toNatClampNeg]? = some (.int c0) := H1.at hin1 rfl
  refine Go.st (f' := (mkF m 13 #[rv a1, iv 0, rv a2, iv 0, iv 1, iv 0, .unset] [(.int c0)])) (fun _ k => X0.caload hx (j := (0 : Int32)) (v := (.int c0)) (by rw [e0]; exact Ar1.1) (State.isArrayOf_alike hZ.alike Ar1.2.1) Ar1.2.2 hin1 hat1 (g := (mkF m 12 #[rv a1, iv 0, rv a2, iv 0, iv 1, iv 0, .unset] [(.int 0), (.ref a1)])) rfl rfl (hb hby d7_12) _ k) ?_
  refine Go.st (f' := (mkF m 15 #[rv a1, iv 0, rv a2, iv 0, iv 1, iv 0, iv c0] [])) (fun _ k => XS.istore X0.here hx rfl (hb hby d7_13) rfl (l' := #[rv a1, iv 0, rv a2, iv 0, iv 1, iv 0, iv c0]) rfl k) ?_
  refine Go.st (f' := (mkF m 17 #[rv a1, iv 0, rv a2, iv 0, iv 1, iv 0, iv c0] [(.int c0)])) (fun _ k => XS.iload X0.here hx rfl (hb hby d7_15) rfl k) ?_
  refine Go.st (f' := (mkF m 20 #[rv a1, iv 0, rv a2, iv 0, iv 1, iv 0, iv c0] [(.int 255), (.int c0)])) (fun _ k => XS.sipush X0.here hx rfl (hb hby d7_17) k) ?_
  refine Go.st (f' := (mkF m 26 #[rv a1, iv 0, rv a2, iv 0, iv 1, iv 0, iv c0] [])) (fun _ k => XS.icmpYes X0.here hx rfl (pc0 := 20) (pc' := 26) rfl (hb hby d7_20) rfl (flt hc_c0).2.2.2 (by decide) (by decide) k) ?_
  refine Go.st (f' := (mkF m 27 #[rv a1, iv 0, rv a2, iv 0, iv 1, iv 0, iv c0] [(.ref a2)])) (fun _ k => XS.aloadN X0.here hx rfl (hb hby d7_26) rfl rfl k) ?_
  refine Go.st (f' := (mkF m 28 #[rv a1, iv 0, rv a2, iv 0, iv 1, iv 0, iv c0] [(.int 0), (.ref a2)])) (fun _ k => XS.iloadN X0.here hx rfl (hb hby d7_27) rfl k) ?_
  refine Go.st (f' := (mkF m 30 #[rv a1, iv 0, rv a2, iv 0, iv 1, iv 0, iv c0] [(.int c0), (.int 0), (.ref a2)])) (fun _ k => XS.iload X0.here hx rfl (hb hby d7_28) rfl k) ?_
  refine Go.st (f' := (mkF m 31 #[rv a1, iv 0, rv a2, iv 0, iv 1, iv 0, iv c0] [(.int (c0.toInt8.toInt32)), (.int 0), (.ref a2)])) (fun _ k => XS.i2b X0.here hx rfl (hb hby d7_30) rfl k) ?_
  obtain ⟨cl2, Ar2, q2, S2, Nx2, H2, G2⟩ := id V_a2
  have hin2 : ¬ ((0 : Int32) < 0 ∨ cl2.slots.size ≤ ((0 : Int32)).toNatClampNeg) := inb_of S2 ⟨by decide, by decide⟩
  obtain ⟨T3, h3, X3, e3, W3, st3⟩ := stB X0 hx hZ e0 Ar2 (j := (0 : Int32)) hin2 (g := (mkF m 31 #[rv a1, iv 0, rv a2, iv 0, iv 1, iv 0, iv c0] [(.int (c0.toInt8.toInt32)), (.int 0), (.ref a2)])) rfl rfl (hb hby d7_31)
  have V_a2_3 : Arv Z h3 a2 k2 .byte (1 : Int32) [(.int (nar .byte (c0.toInt8.toInt32)))] (.int (0 : Int32)) := Arv.set Ar2 q2 S2 Nx2 H2 G2 (fits_nar_byte _) W3 0 rfl (Nat.le_of_ble_eq_true rfl)
  have N3 := Fr.snoc X3 N0 g_a2
  have O3 : Old Z n0 h3 := O0.wr W3 g_a2
  have K3 : Keep h0 h3 [a2] := K0.wr W3 (Or.inl (List.mem_of_getElem? (i := 0) rfl))
  refine Go.st (f' := (mkF m 32 #[rv a1, iv 0, rv a2, iv 0, iv 1, iv 0, iv c0] [])) (fun _ k => st3 _ k) ?_
  refine Go.st (f' := (mkF m 35 #[rv a1, iv 1, rv a2, iv 0, iv 1, iv 0, iv c0] [])) (fun _ k => XS.iinc X3.here hx rfl (hb hby d7_32) rfl (l' := #[rv a1, iv 1, rv a2, iv 0, iv 1, iv 0, iv c0]) rfl k) ?_
  refine Go.st (f' := (mkF m 38 #[rv a1, iv 1, rv a2, iv 1, iv 1, iv 0, iv c0] [])) (fun _ k => XS.iinc X3.here hx rfl (hb hby d7_35) rfl (l' := #[rv a1, iv 1, rv a2, iv 1, iv 1, iv 0, iv c0]) rfl k) ?_
  refine Go.st (f' := (mkF m 41 #[rv a1, iv 1, rv a2, iv 1, iv 1, iv 1, iv c0] [])) (fun _ k => XS.iinc X3.here hx rfl (hb hby d7_38) rfl (l' := #[rv a1, iv 1, rv a2, iv 1, iv 1, iv 1, iv c0]) rfl k) ?_
  refine Go.st (f' := (mkF m 3 #[rv a1, iv 1, rv a2, iv 1, iv 1, iv 1, iv c0] [])) (fun _ k => XS.goto X3.here hx rfl (pc0 := 41) (pc' := 3) rfl (hb hby d7_41) (by decide) (by decide) k) ?_
  refine Go.st (f' := (mkF m 5 #[rv a1, iv 1, rv a2, iv 1, iv 1, iv 1, iv c0] [(.int 1)])) (fun _ k => XS.iload X3.here hx rfl (hb hby d7_3) rfl k) ?_
  refine Go.st (f' := (mkF m 7 #[rv a1, iv 1, rv a2, iv 1, iv 1, iv 1, iv c0] [(.int 1), (.int 1)])) (fun _ k => XS.iload X3.here hx rfl (hb hby d7_5) rfl k) ?_
  refine Go.st (f' := (mkF m 44 #[rv a1, iv 1, rv a2, iv 1, iv 1, iv 1, iv c0] [])) (fun _ k => XS.icmpYes X3.here hx rfl (pc0 := 7) (pc' := 44) rfl (hb hby d7_7) rfl (by decide) (by decide) (by decide) k) ?_
  refine Go.st (f' := (mkF m 46 #[rv a1, iv 1, rv a2, iv 1, iv 1, iv 1, iv c0] [(.int 1)])) (fun _ k => XS.iload X3.here hx rfl (hb hby d7_44) rfl k) ?_
  refine Go.retV X3 hlk hx (t := .int) hret rfl (Or.inl ⟨rfl, Or.inl rfl, _, rfl⟩) (hb hby d7_46) e3 ?_ (by decide) (by decide)
  exact ⟨rfl, N3, K3, V_a2_3⟩
theorem d6_0 : decode jdk_52_method_16_code 0 = .ok (.iload_n 2, 1) := by decide +kernel
theorem d6_1 : decode jdk_52_method_16_code 1 = .ok (.newarray .byte, 2) := by decide +kernel
theorem d6_3 : decode jdk_52_method_16_code 3 = .ok (.astore_n 3, 1) := by decide +kernel
theorem d6_4 : decode jdk_52_method_16_code 4 = .ok (.aload_n 0, 1) := by decide +kernel
theorem d6_5 : decode jdk_52_method_16_code 5 = .ok (.iload_n 1, 1) := by decide +kernel
theorem d6_6 : decode jdk_52_method_16_code 6 = .ok (.aload_n 3, 1) := by decide +kernel
theorem d6_7 : decode jdk_52_method_16_code 7 = .ok (.iconst 0, 1) := by decide +kernel
theorem d6_8 : decode jdk_52_method_16_code 8 = .ok (.iload_n 2, 1) := by decide +kernel
theorem d6_9 : decode jdk_52_method_16_code 9 = .ok (.invokestatic 115, 3) := by decide +kernel
theorem pd___CI_BII_I : parseMethodDescriptor "([CI[BII)I" = some ⟨[(.array .char), .int, (.array .byte), .int, .int], some .int⟩ := by decide +kernel
theorem d6_12 : decode jdk_52_method_16_code 12 = .ok (.istore 4, 2) := by decide +kernel
theorem d6_14 : decode jdk_52_method_16_code 14 = .ok (.iload 4, 2) := by decide +kernel
theorem d6_16 : decode jdk_52_method_16_code 16 = .ok (.iload_n 2, 1) := by decide +kernel
theorem d6_17 : decode jdk_52_method_16_code 17 = .ok (.if_icmp .eq 40, 3) := by decide +kernel
theorem d6_57 : decode jdk_52_method_16_code 57 = .ok (.aload_n 3, 1) := by decide +kernel
theorem d6_58 : decode jdk_52_method_16_code 58 = .ok (.areturn, 1) := by decide +kernel
set_option maxRecDepth 65536 in
set_option maxHeartbeats 40000000 in
theorem st3_1 (l : Launch) (Z : State) (a0 : Array Value) (hw : ∀ d ∈ tables_1, d.before a0 Z = true) (ws : List Jvm.Cond) (a1 : Addr) (k1 : ClassId) (c0 : Int32) (h0 : Heap) (n0 : Nat) (O0 : Old Z n0 h0) (hc_c0 : ¬ (255 : Int32) < c0) (V_a1 : Arv Z h0 a1 k1 .char (1 : Int32) [(.int c0)] (.int 0)) :
    Con l Z (⟨"java/lang/StringUTF16", "compress", "([CII)[B"⟩ : MethodName) jdk_52_method_16_code 6 (some (.array .byte)) ws ({ frames := 1, cells := 1, slots := 1, locals := 18 } : Room) #[(.ref a1), (.int 0), (.int 1)] h0 (fun v h L => ∃ (b : Addr) (kb : ClassId), v = some (.ref b) ∧ Fr n0 L ∧ h0.size ≤ b ∧ Keep h0 h [] ∧ Arv Z h b kb .byte (1 : Int32) [(.int (nar .byte (c0.toInt8.toInt32)))] (.int 0)) := by
  refine own_body (plainFor_of_name pn_java_lang_StringUTF16) ?_
  intro p e s m below meth c s₁ hx hby hml hZ hown hnm hlk hret X0 e0
  have N0 := Fr.nil n0
  have K0 : Keep h0 h0 [] := Keep.refl _ _
  refine Go.st (T' := s₁) (f' := (mkF m 0 #[rv a1, iv 0, iv 1, .unset, .unset, .unset] [])) (fun _ k => castTop (by first | (simp [entryFrame, mkF, argsToLocals, Value.category]; done) | rfl) k) ?_
  have lt_a1 := V_a1.lt
  refine Go.st (f' := (mkF m 1 #[rv a1, iv 0, iv 1, .unset, .unset, .unset] [(.int 1)])) (fun _ k => XS.iloadN X0.here hx rfl (hb hby d6_0) rfl k) ?_
  obtain ⟨T1, h1, kc1, X1, e1, E1, A1, st1⟩ := newP X0 hx hZ (hw _ (List.mem_of_getElem? (i := 26) rfl)) e0 (g := (mkF m 1 #[rv a1, iv 0, iv 1, .unset, .unset, .unset] [(.int 1)])) rfl (hb hby d6_1) rfl (by decide) (cap := 1) (by decide) (by decide) (by decide) (by decide)
  obtain ⟨b1, g1⟩ : ∃ z, z = h0.size := ⟨_, rfl⟩
  rw [← g1] at A1 st1
  have ne_a1_b1 : a1 ≠ b1 := Nat.ne_of_lt (Nat.lt_of_lt_of_eq lt_a1 g1.symm)
  have g_b1 : n0 ≤ b1 := Nat.le_trans (O0.1 ▸ O0.2.1) (Nat.le_of_eq g1.symm)
  have O1 : Old Z n0 h1 := O0.ext E1
  have sz_b1 : h0.size ≤ b1 := Nat.le_trans K0.1 (Nat.le_of_eq g1.symm)
  have K1 : Keep h0 h1 [] := K0.ext E1
  have V_b1 : Arv Z h1 b1 kc1 .byte (1 : Int32) [(.int (0 : Int32))] (.int (0 : Int32)) := (Arv.new A1 (by decide)).pad (pad_rep [] (.int (0 : Int32)) 1)
  have lt_b1 := V_b1.lt
  refine Go.st (f' := (mkF m 3 #[rv a1, iv 0, iv 1, .unset, .unset, .unset] [(.ref b1)])) (fun _ k => st1 _ k) ?_
  refine Go.st (f' := (mkF m 4 #[rv a1, iv 0, iv 1, rv b1, .unset, .unset] [])) (fun _ k => XS.astoreN X1.here hx rfl (hb hby d6_3) rfl rfl (l' := #[rv a1, iv 0, iv 1, rv b1, .unset, .unset]) rfl k) ?_
  refine Go.st (f' := (mkF m 5 #[rv a1, iv 0, iv 1, rv b1, .unset, .unset] [(.ref a1)])) (fun _ k => XS.aloadN X1.here hx rfl (hb hby d6_4) rfl rfl k) ?_
  refine Go.st (f' := (mkF m 6 #[rv a1, iv 0, iv 1, rv b1, .unset, .unset] [(.int 0), (.ref a1)])) (fun _ k => XS.iloadN X1.here hx rfl (hb hby d6_5) rfl k) ?_
  refine Go.st (f' := (mkF m 7 #[rv a1, iv 0, iv 1, rv b1, .unset, .unset] [(.ref b1), (.int 0), (.ref a1)])) (fun _ k => XS.aloadN X1.here hx rfl (hb hby d6_6) rfl rfl k) ?_
  refine Go.st (f' := (mkF m 8 #[rv a1, iv 0, iv 1, rv b1, .unset, .unset] [(.int 0), (.ref b1), (.int 0), (.ref a1)])) (fun _ k => XS.iconst X1.here hx rfl (hb hby d6_7) k) ?_
  refine Go.st (f' := (mkF m 9 #[rv a1, iv 0, iv 1, rv b1, .unset, .unset] [(.int 1), (.int 0), (.ref b1), (.int 0), (.ref a1)])) (fun _ k => XS.iloadN X1.here hx rfl (hb hby d6_8) rfl k) ?_
  have ft3 := (V_a1.ext E1)
  obtain ⟨_, _, ⟨T2, L2, kk2, nn2⟩, -, X2, ⟨Lc2, hQ2, lq2, yq2, zz2⟩, st2⟩ := Jvm.LawKit.callS X1 hx (y := (⟨"java/lang/StringUTF16", "compress", "([CI[BII)I"⟩ : MethodName)) hown (mvT hZ (hw _ (List.mem_of_getElem? (i := 38) rfl))) (mvT hZ (hw _ (List.mem_of_getElem? (i := 39) rfl))) (mvT hZ (hw _ (List.mem_of_getElem? (i := 36) rfl))) (mvT hZ (hw _ (List.mem_of_getElem? (i := 40) rfl))) (by decide) (own_back (W := 0) (st5_1 l Z a0 hw [] b1 kc1 a1 k1 c0 h1 n0 O1 hc_c0 ne_a1_b1 g_b1 ft3 V_b1) hZ (hw _ (List.mem_of_getElem? (i := 40) rfl)) (hw _ (List.mem_of_getElem? (i := 36) rfl)) (by decide) (by decide)) (g := (mkF m 9 #[rv a1, iv 0, iv 1, rv b1, .unset, .unset] [(.int 1), (.int 0), (.ref b1), (.int 0), (.ref a1)])) rfl (by rw [hml]; rfl) (argsL := [(.ref a1), (.int (0 : Int32)), (.ref b1), (.int (0 : Int32)), (.int (1 : Int32))]) (rest := []) (lenOf pd___CI_BII_I rfl) rfl (by show 2 * 0 + _ ≤ _; exact Nat.le_of_eq rfl) (hb hby d6_9) (fun _ _ => ⟨rfl, e1, (by decide : 1 + 0 ≤ _), (by decide : 1 + 0 ≤ _)⟩)
  dsimp only [Pt.U, Pt.locs, Pt.cells, Pt.slots] at X2 lq2 yq2 zz2 st2 hQ2
  subst lq2 yq2 zz2
  obtain ⟨rfl, Nq2, kq2, vq2⟩ := hQ2
  have N2 := Fr.app N0 Nq2
  have O2 : Old Z n0 T2.heap := O1.keep kq2 (allS g_b1 all0)
  have K2 : Keep h0 T2.heap [] := K1.trans kq2 (allS (Or.inr sz_b1) all0)
  refine Go.st (f' := (mkF m 12 #[rv a1, iv 0, iv 1, rv b1, .unset, .unset] [(.int 1)])) (fun _ k => st2 _ k) ?_
  refine Go.st (f' := (mkF m 14 #[rv a1, iv 0, iv 1, rv b1, iv 1, .unset] [])) (fun _ k => XS.istore X2.here hx rfl (hb hby d6_12) rfl (l' := #[rv a1, iv 0, iv 1, rv b1, iv 1, .unset]) rfl k) ?_
  refine Go.st (f' := (mkF m 16 #[rv a1, iv 0, iv 1, rv b1, iv 1, .unset] [(.int 1)])) (fun _ k => XS.iload X2.here hx rfl (hb hby d6_14) rfl k) ?_
  refine Go.st (f' := (mkF m 17 #[rv a1, iv 0, iv 1, rv b1, iv 1, .unset] [(.int 1), (.int 1)])) (fun _ k => XS.iloadN X2.here hx rfl (hb hby d6_16) rfl k) ?_
  refine Go.st (f' := (mkF m 57 #[rv a1, iv 0, iv 1, rv b1, iv 1, .unset] [])) (fun _ k => XS.icmpYes X2.here hx rfl (pc0 := 17) (pc' := 57) rfl (hb hby d6_17) rfl (by decide) (by decide) (by decide) k) ?_
  refine Go.st (f' := (mkF m 58 #[rv a1, iv 0, iv 1, rv b1, iv 1, .unset] [(.ref b1)])) (fun _ k => XS.aloadN X2.here hx rfl (hb hby d6_57) rfl rfl k) ?_
  refine Go.retV X2 hlk hx (t := (.array .byte)) hret rfl (Or.inr (Or.inr (Or.inr (Or.inr ⟨rfl, rfl, rfl⟩)))) (hb hby d6_58) rfl ?_ (by decide) (by decide)
  exact ⟨b1, kc1, rfl, N2, sz_b1, K2, vq2⟩
theorem d8_0 : decode jdk_52_method_15_code 0 = .ok (.iload_n 1, 1) := by decide +kernel
theorem d8_1 : decode jdk_52_method_15_code 1 = .ok (.aload_n 0, 1) := by decide +kernel
theorem d8_2 : decode jdk_52_method_15_code 2 = .ok (.arraylength, 1) := by decide +kernel
theorem d8_3 : decode jdk_52_method_15_code 3 = .ok (.isub, 1) := by decide +kernel
theorem d8_4 : decode jdk_52_method_15_code 4 = .ok (.bipush 31, 2) := by decide +kernel
theorem d8_6 : decode jdk_52_method_15_code 6 = .ok (.iushr, 1) := by decide +kernel
theorem d8_7 : decode jdk_52_method_15_code 7 = .ok (.i2b, 1) := by decide +kernel
theorem d8_8 : decode jdk_52_method_15_code 8 = .ok (.ireturn, 1) := by decide +kernel
set_option maxRecDepth 65536 in
set_option maxHeartbeats 40000000 in
theorem stc_1 (l : Launch) (Z : State) (a0 : Array Value) (hw : ∀ d ∈ tables_1, d.before a0 Z = true) (ws : List Jvm.Cond) (a1 : Addr) (k1 : ClassId) (x0 : Int32) (h0 : Heap) (n0 : Nat) (O0 : Old Z n0 h0) (V_a1 : Arv Z h0 a1 k1 .byte (1 : Int32) [(.int x0)] (.int 0)) :
    Con l Z (⟨"java/lang/StringUTF16", "coderFromArrayLen", "([BI)B"⟩ : MethodName) jdk_52_method_15_code 2 (some .byte) ws ({ frames := 0, cells := 0, slots := 0, locals := 0 } : Room) #[(.ref a1), (.int 1)] h0 (fun v h L => v = some (.int 0) ∧ Fr n0 L ∧ h = h0) := by
  refine own_body (plainFor_of_name pn_java_lang_StringUTF16) ?_
  intro p e s m below meth c s₁ hx hby hml hZ hown hnm hlk hret X0 e0
  have N0 := Fr.nil n0
  refine Go.st (T' := s₁) (f' := (mkF m 0 #[rv a1, iv 1] [])) (fun _ k => castTop (by first | (simp [entryFrame, mkF, argsToLocals, Value.category]; done) | rfl) k) ?_
  have lt_a1 := V_a1.lt
  refine Go.st (f' := (mkF m 1 #[rv a1, iv 1] [(.int 1)])) (fun _ k => XS.iloadN X0.here hx rfl (hb hby d8_0) rfl k) ?_
  refine Go.st (f' := (mkF m 2 #[rv a1, iv 1] [(.ref a1), (.int 1)])) (fun _ k => XS.aloadN X0.here hx rfl (hb hby d8_1) rfl rfl k) ?_
  obtain ⟨cl1, Ar1, -, S1, Nx1, -, -⟩ := id V_a1
  refine Go.st (T' := s₁) (f' := (mkF m 3 #[rv a1, iv 1] [(.int 1), (.int 1)])) (fun _ k => X0.arraylength hx (by rw [e0]; exact Ar1.1) (State.isArrayOf_alike hZ.alike Ar1.2.1) (g := (mkF m 2 #[rv a1, iv 1] [(.ref a1), (.int 1)])) rfl rfl (hb hby d8_2) _ (by rw [len_of S1 Nx1]; exact k)) ?_
  refine Go.st (f' := (mkF m 4 #[rv a1, iv 1] [(.int 0)])) (fun _ k => XS.isub X0.here hx rfl (hb hby d8_3) rfl k) ?_
  refine Go.st (f' := (mkF m 6 #[rv a1, iv 1] [(.int 31), (.int 0)])) (fun _ k => XS.bipush X0.here hx rfl (hb hby d8_4) k) ?_
  refine Go.st (f' := (mkF m 7 #[rv a1, iv 1] [(.int 0)])) (fun _ k => XS.iushr X0.here hx rfl (hb hby d8_6) rfl k) ?_
  refine Go.st (f' := (mkF m 8 #[rv a1, iv 1] [(.int 0)])) (fun _ k => XS.i2b X0.here hx rfl (hb hby d8_7) rfl k) ?_
  refine Go.retB X0 hlk hx (t := .byte) hret (by simp) (hb hby d8_8) e0 ?_ (by decide) (by decide)
  exact ⟨rfl, N0, rfl⟩
theorem pn_java_lang_String : plainName "java/lang/String" = true := by first | (simp [plainName, overriddenIn]; done) | decide +kernel
theorem d4_0 : decode jdk_42_method_149_code 0 = .ok (.aload_n 0, 1) := by decide +kernel
theorem d4_1 : decode jdk_42_method_149_code 1 = .ok (.invokespecial 1, 3) := by decide +kernel
theorem d4_4 : decode jdk_42_method_149_code 4 = .ok (.iload_n 3, 1) := by decide +kernel
theorem d4_5 : decode jdk_42_method_149_code 5 = .ok (.ifCond .ne 22, 3) := by decide +kernel
theorem d4_27 : decode jdk_42_method_149_code 27 = .ok (.getstatic 38, 3) := by decide +kernel
theorem d4_30 : decode jdk_42_method_149_code 30 = .ok (.ifCond .eq 28, 3) := by decide +kernel
theorem d4_33 : decode jdk_42_method_149_code 33 = .ok (.aload_n 1, 1) := by decide +kernel
theorem d4_34 : decode jdk_42_method_149_code 34 = .ok (.iload_n 2, 1) := by decide +kernel
theorem d4_35 : decode jdk_42_method_149_code 35 = .ok (.iload_n 3, 1) := by decide +kernel
theorem d4_36 : decode jdk_42_method_149_code 36 = .ok (.invokestatic 177, 3) := by decide +kernel
theorem pd___CII__B : parseMethodDescriptor "([CII)[B" = some ⟨[(.array .char), .int, .int], some (.array .byte)⟩ := by decide +kernel
theorem d4_39 : decode jdk_42_method_149_code 39 = .ok (.astore 5, 2) := by decide +kernel
theorem d4_41 : decode jdk_42_method_149_code 41 = .ok (.aload_n 0, 1) := by decide +kernel
theorem d4_42 : decode jdk_42_method_149_code 42 = .ok (.aload 5, 2) := by decide +kernel
theorem d4_44 : decode jdk_42_method_149_code 44 = .ok (.iload_n 3, 1) := by decide +kernel
theorem d4_45 : decode jdk_42_method_149_code 45 = .ok (.invokestatic 47, 3) := by decide +kernel
theorem pd___BI_B : parseMethodDescriptor "([BI)B" = some ⟨[(.array .byte), .int], some .byte⟩ := by decide +kernel
theorem d4_48 : decode jdk_42_method_149_code 48 = .ok (.putfield 15, 3) := by decide +kernel
theorem d4_51 : decode jdk_42_method_149_code 51 = .ok (.aload_n 0, 1) := by decide +kernel
theorem d4_52 : decode jdk_42_method_149_code 52 = .ok (.aload 5, 2) := by decide +kernel
theorem d4_54 : decode jdk_42_method_149_code 54 = .ok (.putfield 9, 3) := by decide +kernel
theorem d4_57 : decode jdk_42_method_149_code 57 = .ok (.return_, 1) := by decide +kernel
set_option maxRecDepth 65536 in
set_option maxHeartbeats 40000000 in
theorem stv_1 (l : Launch) (Z : State) (a0 : Array Value) (hw : ∀ d ∈ tables_1, d.before a0 Z = true) (ws : List Jvm.Cond) (a0b : Addr) (a1 : Addr) (k1 : ClassId) (c0 : Int32) (w_NUMBER : Addr) (w_SYMBOL : Addr) (w_NAME : Addr) (w_END : Addr) (w_STRING : Addr) (i_COMPACT_STRINGS : Int32) (v_SIOOBE_FORMATTER : Value) (h0 : Heap) (n0 : Nat) (O0 : Old Z n0 h0) (hc_c0 : ¬ (255 : Int32) < c0) (g_a0b : n0 ≤ a0b) (nb1 : a0b ≠ a1) (E_a0b : Exa Z h0 a0b "java/lang/String") (F_a0b_coder : Fld Z h0 a0b "java/lang/String" "coder" "B" (.int 0)) (F_a0b_value : Fld Z h0 a0b "java/lang/String" "value" "[B" .null) (V_a1 : Arv Z h0 a1 k1 .char (1 : Int32) [(.int c0)] (.int 0)) (WW : World1 Z w_NUMBER w_SYMBOL w_NAME w_END w_STRING i_COMPACT_STRINGS v_SIOOBE_FORMATTER) :
    Con l Z (⟨"java/lang/String", "<init>", "([CIILjava/lang/Void;)V"⟩ : MethodName) jdk_42_method_149_code 6 none ws ({ frames := 2, cells := 1, slots := 1, locals := 35 } : Room) #[(.ref a0b), (.ref a1), (.int 0), (.int 1), .null] h0 (fun v h L => v = none ∧ Fr n0 L ∧ Keep h0 h [a0b] ∧ Exa Z h a0b "java/lang/String" ∧ Fld Z h a0b "java/lang/String" "coder" "B" (.int 0) ∧ ∃ (t : Addr) (kt : ClassId), h0.size ≤ t ∧ Fld Z h a0b "java/lang/String" "value" "[B" (.ref t) ∧ Arv Z h t kt .byte (1 : Int32) [(.int (nar .byte (c0.toInt8.toInt32)))] (.int 0)) := by
  refine own_body (plainFor_of_name pn_java_lang_String) ?_
  intro p e s m below meth c s₁ hx hby hml hZ hown hnm hlk hret X0 e0
  have N0 := Fr.nil n0
  have K0 : Keep h0 h0 [a0b] := Keep.refl _ _
  refine Go.st (T' := s₁) (f' := (mkF m 0 #[rv a0b, rv a1, iv 0, iv 1, .val .null, .unset] [])) (fun _ k => castTop (by first | (simp [entryFrame, mkF, argsToLocals, Value.category]; done) | rfl) k) ?_
  have ⟨S_i_COMPACT_STRINGS, nz_i_COMPACT_STRINGS, S_v_SIOOBE_FORMATTER, r_v_SIOOBE_FORMATTER, S_w_NUMBER, E_w_NUMBER, S_w_SYMBOL, E_w_SYMBOL, S_w_NAME, E_w_NAME, S_w_END, E_w_END, S_w_STRING, E_w_STRING, F_w_NUMBER_ordinal, F_w_SYMBOL_ordinal, F_w_NAME_ordinal, F_w_END_ordinal, F_w_STRING_ordinal⟩ := WW
  have lt_w_NUMBER := E_w_NUMBER.lt
  have lt_w_SYMBOL := E_w_SYMBOL.lt
  have lt_w_NAME := E_w_NAME.lt
  have lt_w_END := E_w_END.lt
  have lt_w_STRING := E_w_STRING.lt
  have lt_a0b := E_a0b.lt
  have ne_w_NUMBER_a0b : w_NUMBER ≠ a0b := O0.ne lt_w_NUMBER g_a0b
  have ne_w_SYMBOL_a0b : w_SYMBOL ≠ a0b := O0.ne lt_w_SYMBOL g_a0b
  have ne_w_NAME_a0b : w_NAME ≠ a0b := O0.ne lt_w_NAME g_a0b
  have ne_w_END_a0b : w_END ≠ a0b := O0.ne lt_w_END g_a0b
  have ne_w_STRING_a0b : w_STRING ≠ a0b := O0.ne lt_w_STRING g_a0b
  have lt_a1 := V_a1.lt
  refine Go.st (f' := (mkF m 1 #[rv a0b, rv a1, iv 0, iv 1, .val .null, .unset] [(.ref a0b)])) (fun _ k => XS.aloadN X0.here hx rfl (hb hby d4_0) rfl rfl k) ?_
  obtain ⟨T1, X1, e1, st1⟩ := initO X0 hx hZ hown (hw _ (List.mem_of_getElem? (i := 22) rfl)) (hw _ (List.mem_of_getElem? (i := 23) rfl)) (hw _ (List.mem_of_getElem? (i := 24) rfl)) e0 (g := (mkF m 1 #[rv a0b, rv a1, iv 0, iv 1, .val .null, .unset] [(.ref a0b)])) rfl (by rw [hml]; rfl) rfl (hb hby d4_1) (by decide) (W := 0) (by show 2 * 0 + _ ≤ _; exact Nat.le_of_eq rfl) (by decide)
  refine Go.st (f' := (mkF m 4 #[rv a0b, rv a1, iv 0, iv 1, .val .null, .unset] [])) (fun _ k => st1 _ k) ?_
  refine Go.st (f' := (mkF m 5 #[rv a0b, rv a1, iv 0, iv 1, .val .null, .unset] [(.int 1)])) (fun _ k => XS.iloadN X1.here hx rfl (hb hby d4_4) rfl k) ?_
  refine Go.st (f' := (mkF m 27 #[rv a0b, rv a1, iv 0, iv 1, .val .null, .unset] [])) (fun _ k => XS.ifYes X1.here hx rfl (pc0 := 5) (pc' := 27) rfl (hb hby d4_5) rfl (by decide) (by decide) (by decide) k) ?_
  obtain ⟨T2, X2, e2, st2⟩ := getS2 X1 hx hZ hown (host := "") (Or.inl (hw _ (List.mem_of_getElem? (i := 33) rfl))) Via.refl e1 (S_i_COMPACT_STRINGS.ext O0.2) (g := (mkF m 27 #[rv a0b, rv a1, iv 0, iv 1, .val .null, .unset] [])) rfl (hb hby d4_27)
  refine Go.st (f' := (mkF m 30 #[rv a0b, rv a1, iv 0, iv 1, .val .null, .unset] [(.int i_COMPACT_STRINGS)])) (fun _ k => st2 _ k) ?_
  refine Go.st (f' := (mkF m 33 #[rv a0b, rv a1, iv 0, iv 1, .val .null, .unset] [])) (fun _ k => XS.ifNo X2.here hx rfl (hb hby d4_30) rfl ((if0 _ _).trans (feq nz_i_COMPACT_STRINGS).1) k) ?_
  refine Go.st (f' := (mkF m 34 #[rv a0b, rv a1, iv 0, iv 1, .val .null, .unset] [(.ref a1)])) (fun _ k => XS.aloadN X2.here hx rfl (hb hby d4_33) rfl rfl k) ?_
  refine Go.st (f' := (mkF m 35 #[rv a0b, rv a1, iv 0, iv 1, .val .null, .unset] [(.int 0), (.ref a1)])) (fun _ k => XS.iloadN X2.here hx rfl (hb hby d4_34) rfl k) ?_
  refine Go.st (f' := (mkF m 36 #[rv a0b, rv a1, iv 0, iv 1, .val .null, .unset] [(.int 1), (.int 0), (.ref a1)])) (fun _ k => XS.iloadN X2.here hx rfl (hb hby d4_35) rfl k) ?_
  obtain ⟨_, _, ⟨T3, L3, kk3, nn3⟩, -, X3, ⟨Lc3, hQ3, lq3, yq3, zz3⟩, st3⟩ := Jvm.LawKit.callS X2 hx (y := (⟨"java/lang/StringUTF16", "compress", "([CII)[B"⟩ : MethodName)) hown (mvT hZ (hw _ (List.mem_of_getElem? (i := 34) rfl))) (mvT hZ (hw _ (List.mem_of_getElem? (i := 35) rfl))) (mvT hZ (hw _ (List.mem_of_getElem? (i := 36) rfl))) (mvT hZ (hw _ (List.mem_of_getElem? (i := 37) rfl))) (by decide) (own_back (W := 0) (st3_1 l Z a0 hw [] a1 k1 c0 h0 n0 O0 hc_c0 V_a1) hZ (hw _ (List.mem_of_getElem? (i := 37) rfl)) (hw _ (List.mem_of_getElem? (i := 36) rfl)) (by decide) (by decide)) (g := (mkF m 36 #[rv a0b, rv a1, iv 0, iv 1, .val .null, .unset] [(.int 1), (.int 0), (.ref a1)])) rfl (by rw [hml]; rfl) (argsL := [(.ref a1), (.int (0 : Int32)), (.int (1 : Int32))]) (rest := []) (lenOf pd___CII__B rfl) rfl (by show 2 * 0 + _ ≤ _; exact Nat.le_of_eq rfl) (hb hby d4_36) (fun _ _ => ⟨rfl, e2, (by decide : 0 + 1 ≤ _), (by decide : 0 + 1 ≤ _)⟩)
  dsimp only [Pt.U, Pt.locs, Pt.cells, Pt.slots] at X3 lq3 yq3 zz3 st3 hQ3
  subst lq3 yq3 zz3
  obtain ⟨b3, kb3, rfl, Nq3, zq3, kq3, vq3⟩ := hQ3
  have N3 := Fr.app N0 Nq3
  have ne_a0b_b3 : a0b ≠ b3 := Nat.ne_of_lt (Nat.lt_of_lt_of_le lt_a0b zq3)
  have ne_a1_b3 : a1 ≠ b3 := Nat.ne_of_lt (Nat.lt_of_lt_of_le lt_a1 zq3)
  have ne_w_NUMBER_b3 : w_NUMBER ≠ b3 := Nat.ne_of_lt (Nat.lt_of_lt_of_le lt_w_NUMBER (Nat.le_trans O0.2.1 zq3))
  have ne_w_SYMBOL_b3 : w_SYMBOL ≠ b3 := Nat.ne_of_lt (Nat.lt_of_lt_of_le lt_w_SYMBOL (Nat.le_trans O0.2.1 zq3))
  have ne_w_NAME_b3 : w_NAME ≠ b3 := Nat.ne_of_lt (Nat.lt_of_lt_of_le lt_w_NAME (Nat.le_trans O0.2.1 zq3))
  have ne_w_END_b3 : w_END ≠ b3 := Nat.ne_of_lt (Nat.lt_of_lt_of_le lt_w_END (Nat.le_trans O0.2.1 zq3))
  have ne_w_STRING_b3 : w_STRING ≠ b3 := Nat.ne_of_lt (Nat.lt_of_lt_of_le lt_w_STRING (Nat.le_trans O0.2.1 zq3))
  have g_b3 : n0 ≤ b3 := Nat.le_trans (O0.1 ▸ O0.2.1) zq3
  have sz_b3 : h0.size ≤ b3 := Nat.le_trans K0.1 zq3
  have O3 : Old Z n0 T3.heap := O0.keep kq3 all0
  have K3 : Keep h0 T3.heap [a0b] := K0.trans kq3 all0
  have lt_b3 := vq3.lt
  refine Go.st (f' := (mkF m 39 #[rv a0b, rv a1, iv 0, iv 1, .val .null, .unset] [(.ref b3)])) (fun _ k => st3 _ k) ?_
  refine Go.st (f' := (mkF m 41 #[rv a0b, rv a1, iv 0, iv 1, .val .null, rv b3] [])) (fun _ k => XS.astore X3.here hx rfl (hb hby d4_39) rfl rfl (l' := #[rv a0b, rv a1, iv 0, iv 1, .val .null, rv b3]) rfl k) ?_
  refine Go.st (f' := (mkF m 42 #[rv a0b, rv a1, iv 0, iv 1, .val .null, rv b3] [(.ref a0b)])) (fun _ k => XS.aloadN X3.here hx rfl (hb hby d4_41) rfl rfl k) ?_
  refine Go.st (f' := (mkF m 44 #[rv a0b, rv a1, iv 0, iv 1, .val .null, rv b3] [(.ref b3), (.ref a0b)])) (fun _ k => XS.aload X3.here hx rfl (hb hby d4_42) rfl rfl k) ?_
  refine Go.st (f' := (mkF m 45 #[rv a0b, rv a1, iv 0, iv 1, .val .null, rv b3] [(.int 1), (.ref b3), (.ref a0b)])) (fun _ k => XS.iloadN X3.here hx rfl (hb hby d4_44) rfl k) ?_
  obtain ⟨_, _, ⟨T4, L4, kk4, nn4⟩, -, X4, ⟨Lc4, hQ4, lq4, yq4, zz4⟩, st4⟩ := Jvm.LawKit.callS X3 hx (y := (⟨"java/lang/StringUTF16", "coderFromArrayLen", "([BI)B"⟩ : MethodName)) hown (mvT hZ (hw _ (List.mem_of_getElem? (i := 41) rfl))) (mvT hZ (hw _ (List.mem_of_getElem? (i := 42) rfl))) (mvT hZ (hw _ (List.mem_of_getElem? (i := 36) rfl))) (mvT hZ (hw _ (List.mem_of_getElem? (i := 43) rfl))) (by decide) (own_back (W := 1) (stc_1 l Z a0 hw [] b3 kb3 (nar .byte (c0.toInt8.toInt32)) T3.heap n0 O3 vq3) hZ (hw _ (List.mem_of_getElem? (i := 43) rfl)) (hw _ (List.mem_of_getElem? (i := 36) rfl)) (by decide) (by decide)) (g := (mkF m 45 #[rv a0b, rv a1, iv 0, iv 1, .val .null, rv b3] [(.int 1), (.ref b3), (.ref a0b)])) rfl (by rw [hml]; rfl) (argsL := [(.ref b3), (.int (1 : Int32))]) (rest := [(.ref a0b)]) (lenOf pd___BI_B rfl) rfl (by show 2 * 0 + _ ≤ _; exact Nat.le_of_eq rfl) (hb hby d4_45) (fun _ _ => ⟨rfl, rfl, (by decide : 1 + 0 ≤ _), (by decide : 1 + 0 ≤ _)⟩)
  dsimp only [Pt.U, Pt.locs, Pt.cells, Pt.slots] at X4 lq4 yq4 zz4 st4 hQ4
  subst lq4 yq4 zz4
  obtain ⟨rfl, Nq4, kq4⟩ := hQ4
  have N4 := Fr.app N3 Nq4
  refine Go.st (f' := (mkF m 48 #[rv a0b, rv a1, iv 0, iv 1, .val .null, rv b3] [(.int 0), (.ref a0b)])) (fun _ k => st4 _ k) ?_
  have ft5 := (E_a0b.keep kq3)
  have ft6 := (F_a0b_coder.keep kq3 nin0)
  obtain ⟨T7, h7, X7, e7, W7, st7⟩ := putFN X4 hx hZ hown (hw _ (List.mem_of_getElem? (i := 32) rfl)) Via.refl kq4 ft6 ft5 (Or.inr ⟨(hw _ (List.mem_of_getElem? (i := 28) rfl)), rfl, hnm⟩) (hw _ (List.mem_of_getElem? (i := 12) rfl)) (ty := .byte) (v' := (.int (0 : Int32))) (by decide) rfl (by decide) (g := (mkF m 48 #[rv a0b, rv a1, iv 0, iv 1, .val .null, rv b3] [(.int 0), (.ref a0b)])) rfl rfl (hb hby d4_48)
  have N7 := Fr.snoc X7 N4 g_a0b
  have O7 : Old Z n0 h7 := O3.wr W7 g_a0b
  have K7 : Keep h0 h7 [a0b] := K3.wr W7 (Or.inl (List.mem_of_getElem? (i := 0) rfl))
  have Fw7 := ft6.same W7
  refine Go.st (f' := (mkF m 51 #[rv a0b, rv a1, iv 0, iv 1, .val .null, rv b3] [])) (fun _ k => st7 _ k) ?_
  refine Go.st (f' := (mkF m 52 #[rv a0b, rv a1, iv 0, iv 1, .val .null, rv b3] [(.ref a0b)])) (fun _ k => XS.aloadN X7.here hx rfl (hb hby d4_51) rfl rfl k) ?_
  refine Go.st (f' := (mkF m 54 #[rv a0b, rv a1, iv 0, iv 1, .val .null, rv b3] [(.ref b3), (.ref a0b)])) (fun _ k => XS.aload X7.here hx rfl (hb hby d4_52) rfl rfl k) ?_
  have ft8 := (ft5.wr W7)
  have ft9 := ((F_a0b_value.keep kq3 nin0).other W7 (Or.inr (slot_ne (Or.inr (hw _ (List.mem_of_getElem? (i := 27) rfl))) (Or.inr (hw _ (List.mem_of_getElem? (i := 28) rfl))) (by decide) (t := (.array .byte)) (t' := .byte) (by decide) (by decide))))
  obtain ⟨T10, h10, X10, e10, W10, st10⟩ := putF X7 hx hZ hown (host := "") (Or.inl (hw _ (List.mem_of_getElem? (i := 31) rfl))) Via.refl e7 ft9 ft8 (Or.inr ⟨(hw _ (List.mem_of_getElem? (i := 27) rfl)), rfl, hnm⟩) (hw _ (List.mem_of_getElem? (i := 12) rfl)) (ty := (.array .byte)) (by decide) rfl rfl (g := (mkF m 54 #[rv a0b, rv a1, iv 0, iv 1, .val .null, rv b3] [(.ref b3), (.ref a0b)])) rfl rfl (hb hby d4_54)
  have N10 := Fr.snoc X10 N7 g_a0b
  have O10 : Old Z n0 h10 := O7.wr W10 g_a0b
  have K10 : Keep h0 h10 [a0b] := K7.wr W10 (Or.inl (List.mem_of_getElem? (i := 0) rfl))
  have Fw10 := ft9.same W10
  refine Go.st (f' := (mkF m 57 #[rv a0b, rv a1, iv 0, iv 1, .val .null, rv b3] [])) (fun _ k => st10 _ k) ?_
  refine Go.ret0 X10 hlk hx hret (hb hby d4_57) e10 ?_ (by decide) (by decide)
  have ft11 := (ft8.wr W10)
  have ft12 := (Fw7.other W10 (Or.inr (slot_ne (Or.inr (hw _ (List.mem_of_getElem? (i := 28) rfl))) (Or.inr (hw _ (List.mem_of_getElem? (i := 27) rfl))) (by decide) (t := .byte) (t' := (.array .byte)) (by decide) (by decide))))
  have ft13 := ((vq3.other W7 (Ne.symm ne_a0b_b3)).other W10 (Ne.symm ne_a0b_b3))
  exact ⟨rfl, N10, K10, ft11, ft12, b3, kb3, sz_b3, Fw10, ft13⟩
theorem d3_0 : decode jdk_42_method_3_code 0 = .ok (.aload_n 0, 1) := by decide +kernel
theorem d3_1 : decode jdk_42_method_3_code 1 = .ok (.aload_n 1, 1) := by decide +kernel
theorem d3_2 : decode jdk_42_method_3_code 2 = .ok (.iconst 0, 1) := by decide +kernel
theorem d3_3 : decode jdk_42_method_3_code 3 = .ok (.aload_n 1, 1) := by decide +kernel
theorem d3_4 : decode jdk_42_method_3_code 4 = .ok (.arraylength, 1) := by decide +kernel
theorem d3_5 : decode jdk_42_method_3_code 5 = .ok (.aconst_null, 1) := by decide +kernel
theorem d3_6 : decode jdk_42_method_3_code 6 = .ok (.invokespecial 27, 3) := by decide +kernel
theorem pd___CIILjava_lang_Void__V : parseMethodDescriptor "([CIILjava/lang/Void;)V" = some ⟨[(.array .char), .int, .int, (.object "java/lang/Void")], none⟩ := by decide +kernel
theorem d3_9 : decode jdk_42_method_3_code 9 = .ok (.return_, 1) := by decide +kernel
set_option maxRecDepth 65536 in
set_option maxHeartbeats 40000000 in
theorem st1_1 (l : Launch) (Z : State) (a0 : Array Value) (hw : ∀ d ∈ tables_1, d.before a0 Z = true) (ws : List Jvm.Cond) (a0b : Addr) (a1 : Addr) (k1 : ClassId) (c0 : Int32) (w_NUMBER : Addr) (w_SYMBOL : Addr) (w_NAME : Addr) (w_END : Addr) (w_STRING : Addr) (i_COMPACT_STRINGS : Int32) (v_SIOOBE_FORMATTER : Value) (h0 : Heap) (n0 : Nat) (O0 : Old Z n0 h0) (hc_c0 : ¬ (255 : Int32) < c0) (g_a0b : n0 ≤ a0b) (nb1 : a0b ≠ a1) (E_a0b : Exa Z h0 a0b "java/lang/String") (F_a0b_coder : Fld Z h0 a0b "java/lang/String" "coder" "B" (.int 0)) (F_a0b_value : Fld Z h0 a0b "java/lang/String" "value" "[B" .null) (V_a1 : Arv Z h0 a1 k1 .char (1 : Int32) [(.int c0)] (.int 0)) (WW : World1 Z w_NUMBER w_SYMBOL w_NAME w_END w_STRING i_COMPACT_STRINGS v_SIOOBE_FORMATTER) :
    Con l Z (⟨"java/lang/String", "<init>", "([C)V"⟩ : MethodName) jdk_42_method_3_code 2 none ws ({ frames := 3, cells := 1, slots := 1, locals := 52 } : Room) #[(.ref a0b), (.ref a1)] h0 (fun v h L => v = none ∧ Fr n0 L ∧ Keep h0 h [a0b] ∧ Exa Z h a0b "java/lang/String" ∧ Fld Z h a0b "java/lang/String" "coder" "B" (.int 0) ∧ ∃ (t : Addr) (kt : ClassId), h0.size ≤ t ∧ Fld Z h a0b "java/lang/String" "value" "[B" (.ref t) ∧ Arv Z h t kt .byte (1 : Int32) [(.int (nar .byte (c0.toInt8.toInt32)))] (.int 0)) := by
  refine own_body (plainFor_of_name pn_java_lang_String) ?_
  intro p e s m below meth c s₁ hx hby hml hZ hown hnm hlk hret X0 e0
  have N0 := Fr.nil n0
  have K0 : Keep h0 h0 [a0b] := Keep.refl _ _
  refine Go.st (T' := s₁) (f' := (mkF m 0 #[rv a0b, rv a1] [])) (fun _ k => castTop (by first | (simp [entryFrame, mkF, argsToLocals, Value.category]; done) | rfl) k) ?_
  have ⟨S_i_COMPACT_STRINGS, nz_i_COMPACT_STRINGS, S_v_SIOOBE_FORMATTER, r_v_SIOOBE_FORMATTER, S_w_NUMBER, E_w_NUMBER, S_w_SYMBOL, E_w_SYMBOL, S_w_NAME, E_w_NAME, S_w_END, E_w_END, S_w_STRING, E_w_STRING, F_w_NUMBER_ordinal, F_w_SYMBOL_ordinal, F_w_NAME_ordinal, F_w_END_ordinal, F_w_STRING_ordinal⟩ := WW
  have lt_w_NUMBER := E_w_NUMBER.lt
  have lt_w_SYMBOL := E_w_SYMBOL.lt
  have lt_w_NAME := E_w_NAME.lt
  have lt_w_END := E_w_END.lt
  have lt_w_STRING := E_w_STRING.lt
  have lt_a0b := E_a0b.lt
  have ne_w_NUMBER_a0b : w_NUMBER ≠ a0b := O0.ne lt_w_NUMBER g_a0b
  have ne_w_SYMBOL_a0b : w_SYMBOL ≠ a0b := O0.ne lt_w_SYMBOL g_a0b
  have ne_w_NAME_a0b : w_NAME ≠ a0b := O0.ne lt_w_NAME g_a0b
  have ne_w_END_a0b : w_END ≠ a0b := O0.ne lt_w_END g_a0b
  have ne_w_STRING_a0b : w_STRING ≠ a0b := O0.ne lt_w_STRING g_a0b
  have lt_a1 := V_a1.lt
  refine Go.st (f' := (mkF m 1 #[rv a0b, rv a1] [(.ref a0b)])) (fun _ k => XS.aloadN X0.here hx rfl (hb hby d3_0) rfl rfl k) ?_
  refine Go.st (f' := (mkF m 2 #[rv a0b, rv a1] [(.ref a1), (.ref a0b)])) (fun _ k => XS.aloadN X0.here hx rfl (hb hby d3_1) rfl rfl k) ?_
  refine Go.st (f' := (mkF m 3 #[rv a0b, rv a1] [(.int 0), (.ref a1), (.ref a0b)])) (fun _ k => XS.iconst X0.here hx rfl (hb hby d3_2) k) ?_
  refine Go.st (f' := (mkF m 4 #[rv a0b, rv a1] [(.ref a1), (.int 0), (.ref a1), (.ref a0b)])) (fun _ k => XS.aloadN X0.here hx rfl (hb hby d3_3) rfl rfl k) ?_
  obtain ⟨cl1, Ar1, -, S1, Nx1, -, -⟩ := id V_a1
  refine Go.st (T' := s₁) (f' := (mkF m 5 #[rv a0b, rv a1] [(.int 1), (.int 0), (.ref a1), (.ref a0b)])) (fun _ k => X0.arraylength hx (by rw [e0]; exact Ar1.1) (State.isArrayOf_alike hZ.alike Ar1.2.1) (g := (mkF m 4 #[rv a0b, rv a1] [(.ref a1), (.int 0), (.ref a1), (.ref a0b)])) rfl rfl (hb hby d3_4) _ (by rw [len_of S1 Nx1]; exact k)) ?_
  refine Go.st (f' := (mkF m 6 #[rv a0b, rv a1] [.null, (.int 1), (.int 0), (.ref a1), (.ref a0b)])) (fun _ k => XS.aconstNull X0.here hx rfl (hb hby d3_5) k) ?_
  obtain ⟨_, _, ⟨T2, L2, kk2, nn2⟩, -, X2, ⟨Lc2, hQ2, lq2, yq2, zz2⟩, st2⟩ := X0.specialBack hx (y := (⟨"java/lang/String", "<init>", "([CIILjava/lang/Void;)V"⟩ : MethodName)) rfl hown (mvT hZ (hw _ (List.mem_of_getElem? (i := 18) rfl))) (mvT hZ (hw _ (List.mem_of_getElem? (i := 19) rfl))) (mvT hZ (hw _ (List.mem_of_getElem? (i := 21) rfl))) (by decide) (own_back (W := 0) (stv_1 l Z a0 hw [] a0b a1 k1 c0 w_NUMBER w_SYMBOL w_NAME w_END w_STRING i_COMPACT_STRINGS v_SIOOBE_FORMATTER h0 n0 O0 hc_c0 g_a0b nb1 E_a0b F_a0b_coder F_a0b_value V_a1 WW) hZ (hw _ (List.mem_of_getElem? (i := 21) rfl)) (hw _ (List.mem_of_getElem? (i := 13) rfl)) (by decide) (by decide)) (g := (mkF m 6 #[rv a0b, rv a1] [.null, (.int 1), (.int 0), (.ref a1), (.ref a0b)])) rfl (by rw [hml]; rfl) (Steps.refl _) (a := a0b) (argsL := [(.ref a1), (.int (0 : Int32)), (.int (1 : Int32)), .null]) (rest := []) (lenOf pd___CIILjava_lang_Void__V rfl) rfl (by show 2 * 0 + _ ≤ _; exact Nat.le_of_eq rfl) (hb hby d3_6) (fun _ _ => ⟨rfl, e0, (by decide : 0 + 1 ≤ _), (by decide : 0 + 1 ≤ _)⟩)
  dsimp only [Pt.U, Pt.locs, Pt.cells, Pt.slots] at X2 lq2 yq2 zz2 st2 hQ2
  subst lq2 yq2 zz2
  obtain ⟨rfl, Nq2, kq2, eq2, cq2, tt2, kt2, zq2, fq2, vq2⟩ := hQ2
  have N2 := Fr.app N0 Nq2
  have ne_a0b_tt2 : a0b ≠ tt2 := Nat.ne_of_lt (Nat.lt_of_lt_of_le lt_a0b zq2)
  have ne_a1_tt2 : a1 ≠ tt2 := Nat.ne_of_lt (Nat.lt_of_lt_of_le lt_a1 zq2)
  have ne_w_NUMBER_tt2 : w_NUMBER ≠ tt2 := Nat.ne_of_lt (Nat.lt_of_lt_of_le lt_w_NUMBER (Nat.le_trans O0.2.1 zq2))
  have ne_w_SYMBOL_tt2 : w_SYMBOL ≠ tt2 := Nat.ne_of_lt (Nat.lt_of_lt_of_le lt_w_SYMBOL (Nat.le_trans O0.2.1 zq2))
  have ne_w_NAME_tt2 : w_NAME ≠ tt2 := Nat.ne_of_lt (Nat.lt_of_lt_of_le lt_w_NAME (Nat.le_trans O0.2.1 zq2))
  have ne_w_END_tt2 : w_END ≠ tt2 := Nat.ne_of_lt (Nat.lt_of_lt_of_le lt_w_END (Nat.le_trans O0.2.1 zq2))
  have ne_w_STRING_tt2 : w_STRING ≠ tt2 := Nat.ne_of_lt (Nat.lt_of_lt_of_le lt_w_STRING (Nat.le_trans O0.2.1 zq2))
  have g_tt2 : n0 ≤ tt2 := Nat.le_trans (O0.1 ▸ O0.2.1) zq2
  have sz_tt2 : h0.size ≤ tt2 := Nat.le_trans K0.1 zq2
  have O2 : Old Z n0 T2.heap := O0.keep kq2 (allS g_a0b all0)
  have K2 : Keep h0 T2.heap [a0b] := K0.trans kq2 (allS (Or.inl (List.mem_of_getElem? (i := 0) rfl)) all0)
  have lt_tt2 := vq2.lt
  refine Go.tr (f' := (mkF m 9 #[rv a0b, rv a1] [])) st2 ?_
  refine Go.ret0 X2 hlk hx hret (hb hby d3_9) rfl ?_ (by decide) (by decide)
  exact ⟨rfl, N2, K2, eq2, cq2, tt2, kt2, sz_tt2, fq2, vq2⟩
set_option maxRecDepth 65536 in
set_option maxHeartbeats 40000000 in
theorem st5_2 (l : Launch) (Z : State) (a0 : Array Value) (hw : ∀ d ∈ tables_1, d.before a0 Z = true) (ws : List Jvm.Cond) (a2 : Addr) (k2 : ClassId) (a1 : Addr) (k1 : ClassId) (c0 : Int32) (c1 : Int32) (h0 : Heap) (n0 : Nat) (O0 : Old Z n0 h0) (hc_c0 : ¬ (255 : Int32) < c0) (hc_c1 : ¬ (255 : Int32) < c1) (ne12 : a1 ≠ a2) (g_a2 : n0 ≤ a2) (V_a1 : Arv Z h0 a1 k1 .char (2 : Int32) [(.int c0), (.int c1)] (.int 0)) (V_a2 : Arv Z h0 a2 k2 .byte (2 : Int32) [(.int 0), (.int 0)] (.int 0)) :
    Con l Z (⟨"java/lang/StringUTF16", "compress", "([CI[BII)I"⟩ : MethodName) jdk_52_method_21_code 7 (some .int) ws ({ frames := 0, cells := 0, slots := 0, locals := 0 } : Room) #[(.ref a1), (.int 0), (.ref a2), (.int 0), (.int 2)] h0 (fun v h L => v = some (.int 2) ∧ Fr n0 L ∧ Keep h0 h [a2] ∧ Arv Z h a2 k2 .byte (2 : Int32) [(.int (nar .byte (c0.toInt8.toInt32))), (.int (nar .byte (c1.toInt8.toInt32)))] (.int 0)) := by
  refine own_body (plainFor_of_name pn_java_lang_StringUTF16) ?_
  intro p e s m below meth c s₁ hx hby hml hZ hown hnm hlk hret X0 e0
  have N0 := Fr.nil n0
  have K0 : Keep h0 h0 [a2] := Keep.refl _ _
  refine Go.st (T' := s₁) (f' := (mkF m 0 #[rv a1, iv 0, rv a2, iv 0, iv 2, .unset, .unset] [])) (fun _ k => castTop (by first | (simp [entryFrame, mkF, argsToLocals, Value.category]; done) | rfl) k) ?_
  have lt_a1 := V_a1.lt
  have lt_a2 := V_a2.lt
  refine Go.st (f' := (mkF m 1 #[rv a1, iv 0, rv a2, iv 0, iv 2, .unset, .unset] [(.int 0)])) (fun _ k => XS.iconst X0.here hx rfl (hb hby d7_0) k) ?_
  refine Go.st (f' := (mkF m 3 #[rv a1, iv 0, rv a2, iv 0, iv 2, iv 0, .unset] [])) (fun _ k => XS.istore X0.here hx rfl (hb hby d7_1) rfl (l' := #[rv a1, iv 0, rv a2, iv 0, iv 2, iv 0, .unset]) rfl k) ?_
  refine Go.st (f' := (mkF m 5 #[rv a1, iv 0, rv a2, iv 0, iv 2, iv 0, .unset] [(.int 0)])) (fun _ k => XS.iload X0.here hx rfl (hb hby d7_3) rfl k) ?_
  refine Go.st (f' := (mkF m 7 #[rv a1, iv 0, rv a2, iv 0, iv 2, iv 0, .unset] [(.int 2), (.int 0)])) (fun _ k => XS.iload X0.here hx rfl (hb hby d7_5) rfl k) ?_
  refine Go.st (f' := (mkF m 10 #[rv a1, iv 0, rv a2, iv 0, iv 2, iv 0, .unset] [])) (fun _ k => XS.icmpNo X0.here hx rfl (hb hby d7_7) rfl (by decide) k) ?_
  refine Go.st (f' := (mkF m 11 #[rv a1, iv 0, rv a2, iv 0, iv 2, iv 0, .unset] [(.ref a1)])) (fun _ k => XS.aloadN X0.here hx rfl (hb hby d7_10) rfl rfl k) ?_
  refine Go.st (f' := (mkF m 12 #[rv a1, iv 0, rv a2, iv 0, iv 2, iv 0, .unset] [(.int 0), (.ref a1)])) (fun _ k => XS.iloadN X0.here hx rfl (hb hby d7_11) rfl k) ?_
  obtain ⟨cl1, Ar1, -, S1, -, H1, -⟩ := id V_a1
  have hin1 : ¬ ((0 : Int32) < 0 ∨ cl1.slots.size ≤ ((0 : Int32)).toNatClampNeg) := inb_of S1 ⟨by decide, by decide⟩
  have hat1 : cl1.slots[((0 : Int32)).toNatClampNeg]? = some (.int c0) := H1.at hin1 rfl
  refine Go.st (f' := (mkF m 13 #[rv a1, iv 0, rv a2, iv 0, iv 2, iv 0, .unset] [(.int c0)])) (fun _ k => X0.caload hx (j := (0 : Int32)) (v := (.int c0)) (by rw [e0]; exact Ar1.1) (State.isArrayOf_alike hZ.alike Ar1.2.1) Ar1.2.2 hin1 hat1 (g := (mkF m 12 #[rv a1, iv 0, rv a2, iv 0, iv 2, iv 0, .unset] [(.int 0), (.ref a1)])) rfl rfl (hb hby d7_12) _ k) ?_
  refine Go.st (f' := (mkF m 15 #[rv a1, iv 0, rv a2, iv 0, iv 2, iv 0, iv c0] [])) (fun _ k => XS.istore X0.here hx rfl (hb hby d7_13) rfl (l' := #[rv a1, iv 0, rv a2, iv 0, iv 2, iv 0, iv c0]) rfl k) ?_
  refine Go.st (f' := (mkF m 17 #[rv a1, iv 0, rv a2, iv 0, iv 2, iv 0, iv c0] [(.int c0)])) (fun _ k => XS.iload X0.here hx rfl (hb hby d7_15) rfl k) ?_
  refine Go.st (f' := (mkF m 20 #[rv a1, iv 0, rv a2, iv 0, iv 2, iv 0, iv c0] [(.int 255), (.int c0)])) (fun _ k => XS.sipush X0.here hx rfl (hb hby d7_17) k) ?_
  refine Go.st (f' := (mkF m 26 #[rv a1, iv 0, rv a2, iv 0, iv 2, iv 0, iv c0] [])) (fun _ k => XS.icmpYes X0.here hx rfl (pc0 := 20) (pc' := 26) rfl (hb hby d7_20) rfl (flt hc_c0).2.2.2 (by decide) (by decide) k) ?_
  refine Go.st (f' := (mkF m 27 #[rv a1, iv 0, rv a2, iv 0, iv 2, iv 0, iv c0] [(.ref a2)])) (fun _ k => XS.aloadN X0.here hx rfl (hb hby d7_26) rfl rfl k) ?_
  refine Go.st (f' := (mkF m 28 #[rv a1, iv 0, rv a2, iv 0, iv 2, iv 0, iv c0] [(.int 0), (.ref a2)])) (fun _ k => XS.iloadN X0.here hx rfl (hb hby d7_27) rfl k) ?_
  refine Go.st (f' := (mkF m 30 #[rv a1, iv 0, rv a2, iv 0, iv 2, iv 0, iv c0] [(.int c0), (.int 0), (.ref a2)])) (fun _ k => XS.iload X0.here hx rfl (hb hby d7_28) rfl k) ?_
  refine Go.st (f' := (mkF m 31 #[rv a1, iv 0, rv a2, iv 0, iv 2, iv 0, iv c0] [(.int (c0.toInt8.toInt32)), (.int 0), (.ref a2)])) (fun _ k => XS.i2b X0.here hx rfl (hb hby d7_30) rfl k) ?_
  obtain ⟨cl2, Ar2, q2, S2, Nx2, H2, G2⟩ := id V_a2
  have hin2 : ¬ ((0 : Int32) < 0 ∨ cl2.slots.size ≤ ((0 : Int32)).toNatClampNeg) := inb_of S2 ⟨by decide, by decide⟩
  obtain ⟨T3, h3, X3, e3, W3, st3⟩ := stB X0 hx hZ e0 Ar2 (j := (0 : Int32)) hin2 (g := (mkF m 31 #[rv a1, iv 0, rv a2, iv 0, iv 2, iv 0, iv c0] [(.int (c0.toInt8.toInt32)), (.int 0), (.ref a2)])) rfl rfl (hb hby d7_31)
  have V_a2_3 : Arv Z h3 a2 k2 .byte (2 : Int32) [(.int (nar .byte (c0.toInt8.toInt32))), (.int (0 : Int32))] (.int (0 : Int32)) := Arv.set Ar2 q2 S2 Nx2 H2 G2 (fits_nar_byte _) W3 0 rfl (Nat.le_of_ble_eq_true rfl)
  have N3 := Fr.snoc X3 N0 g_a2
  have O3 : Old Z n0 h3 := O0.wr W3 g_a2
  have K3 : Keep h0 h3 [a2] := K0.wr W3 (Or.inl (List.mem_of_getElem? (i := 0) rfl))
  refine Go.st (f' := (mkF m 32 #[rv a1, iv 0, rv a2, iv 0, iv 2, iv 0, iv c0] [])) (fun _ k => st3 _ k) ?_
  refine Go.st (f' := (mkF m 35 #[rv a1, iv 1, rv a2, iv 0, iv 2, iv 0, iv c0] [])) (fun _ k => XS.iinc X3.here hx rfl (hb hby d7_32) rfl (l' := #[rv a1, iv 1, rv a2, iv 0, iv 2, iv 0, iv c0]) rfl k) ?_
  refine Go.st (f' := (mkF m 38 #[rv a1, iv 1, rv a2, iv 1, iv 2, iv 0, iv c0] [])) (fun _ k => XS.iinc X3.here hx rfl (hb hby d7_35) rfl (l' := #[rv a1, iv 1, rv a2, iv 1, iv 2, iv 0, iv c0]) rfl k) ?_
  refine Go.st (f' := (mkF m 41 #[rv a1, iv 1, rv a2, iv 1, iv 2, iv 1, iv c0] [])) (fun _ k => XS.iinc X3.here hx rfl (hb hby d7_38) rfl (l' := #[rv a1, iv 1, rv a2, iv 1, iv 2, iv 1, iv c0]) rfl k) ?_
  refine Go.st (f' := (mkF m 3 #[rv a1, iv 1, rv a2, iv 1, iv 2, iv 1, iv c0] [])) (fun _ k => XS.goto X3.here hx rfl (pc0 := 41) (pc' := 3) rfl (hb hby d7_41) (by decide) (by decide) k) ?_
  refine Go.st (f' := (mkF m 5 #[rv a1, iv 1, rv a2, iv 1, iv 2, iv 1, iv c0] [(.int 1)])) (fun _ k => XS.iload X3.here hx rfl (hb hby d7_3) rfl k) ?_
  refine Go.st (f' := (mkF m 7 #[rv a1, iv 1, rv a2, iv 1, iv 2, iv 1, iv c0] [(.int 2), (.int 1)])) (fun _ k => XS.iload X3.here hx rfl (hb hby d7_5) rfl k) ?_
  refine Go.st (f' := (mkF m 10 #[rv a1, iv 1, rv a2, iv 1, iv 2, iv 1, iv c0] [])) (fun _ k => XS.icmpNo X3.here hx rfl (hb hby d7_7) rfl (by decide) k) ?_
  refine Go.st (f' := (mkF m 11 #[rv a1, iv 1, rv a2, iv 1, iv 2, iv 1, iv c0] [(.ref a1)])) (fun _ k => XS.aloadN X3.here hx rfl (hb hby d7_10) rfl rfl k) ?_
  refine Go.st (f' := (mkF m 12 #[rv a1, iv 1, rv a2, iv 1, iv 2, iv 1, iv c0] [(.int 1), (.ref a1)])) (fun _ k => XS.iloadN X3.here hx rfl (hb hby d7_11) rfl k) ?_
  have ft5 := (V_a1.other W3 ne12)
  obtain ⟨cl4, Ar4, -, S4, -, H4, -⟩ := id ft5
  have hin4 : ¬ ((1 : Int32) < 0 ∨ cl4.slots.size ≤ ((1 : Int32)).toNatClampNeg) := inb_of S4 ⟨by decide, by decide⟩
  have hat4 : cl4.slots[((1 : Int32)).toNatClampNeg]? = some (.int c1) := H4.at hin4 rfl
  refine Go.st (f' := (mkF m 13 #[rv a1, iv 1, rv a2, iv 1, iv 2, iv 1, iv c0] [(.int c1)])) (fun _ k => X3.caload hx (j := (1 : Int32)) (v := (.int c1)) (by rw [e3]; exact Ar4.1) (State.isArrayOf_alike hZ.alike Ar4.2.1) Ar4.2.2 hin4 hat4 (g := (mkF m 12 #[rv a1, iv 1, rv a2, iv 1, iv 2, iv 1, iv c0] [(.int 1), (.ref a1)])) rfl rfl (hb hby d7_12) _ k) ?_
  refine Go.st (f' := (mkF m 15 #[rv a1, iv 1, rv a2, iv 1, iv 2, iv 1, iv c1] [])) (fun _ k => XS.istore X3.here hx rfl (hb hby d7_13) rfl (l' := #[rv a1, iv 1, rv a2, iv 1, iv 2, iv 1, iv c1]) rfl k) ?_
  refine Go.st (f' := (mkF m 17 #[rv a1, iv 1, rv a2, iv 1, iv 2, iv 1, iv c1] [(.int c1)])) (fun _ k => XS.iload X3.here hx rfl (hb hby d7_15) rfl k) ?_
  refine Go.st (f' := (mkF m 20 #[rv a1, iv 1, rv a2, iv 1, iv 2, iv 1, iv c1] [(.int 255), (.int c1)])) (fun _ k => XS.sipush X3.here hx rfl (hb hby d7_17) k) ?_
  refine Go.st (f' := (mkF m 26 #[rv a1, iv 1, rv a2, iv 1, iv 2, iv 1, iv c1] [])) (fun _ k => XS.icmpYes X3.here hx rfl (pc0 := 20) (pc' := 26) rfl (hb hby d7_20) rfl (flt hc_c1).2.2.2 (by decide) (by decide) k) ?_
  refine Go.st (f' := (mkF m 27 #[rv a1, iv 1, rv a2, iv 1, iv 2, iv 1, iv c1] [(.ref a2)])) (fun _ k => XS.aloadN X3.here hx rfl (hb hby d7_26) rfl rfl k) ?_
  refine Go.st (f' := (mkF m 28 #[rv a1, iv 1, rv a2, iv 1, iv 2, iv 1, iv c1] [(.int 1), (.ref a2)])) (fun _ k => XS.iloadN X3.here hx rfl (hb hby d7_27) rfl k) ?_
  refine Go.st (f' := (mkF m 30 #[rv a1, iv 1, rv a2, iv 1, iv 2, iv 1, iv c1] [(.int c1), (.int 1), (.ref a2)])) (fun _ k => XS.iload X3.here hx rfl (hb hby d7_28) rfl k) ?_
  refine Go.st (f' := (mkF m 31 #[rv a1, iv 1, rv a2, iv 1, iv 2, iv 1, iv c1] [(.int (c1.toInt8.toInt32)), (.int 1), (.ref a2)])) (fun _ k => XS.i2b X3.here hx rfl (hb hby d7_30) rfl k) ?_
  obtain ⟨cl6, Ar6, q6, S6, Nx6, H6, G6⟩ := id V_a2_3
  have hin6 : ¬ ((1 : Int32) < 0 ∨ cl6.slots.size ≤ ((1 : Int32)).toNatClampNeg) := inb_of S6 ⟨by decide, by decide⟩
  obtain ⟨T7, h7, X7, e7, W7, st7⟩ := stB X3 hx hZ e3 Ar6 (j := (1 : Int32)) hin6 (g := (mkF m 31 #[rv a1, iv 1, rv a2, iv 1, iv 2, iv 1, iv c1] [(.int (c1.toInt8.toInt32)), (.int 1), (.ref a2)])) rfl rfl (hb hby d7_31)
  have V_a2_7 : Arv Z h7 a2 k2 .byte (2 : Int32) [(.int (nar .byte (c0.toInt8.toInt32))), (.int (nar .byte (c1.toInt8.toInt32)))] (.int (0 : Int32)) := Arv.set Ar6 q6 S6 Nx6 H6 G6 (fits_nar_byte _) W7 1 rfl (Nat.le_of_ble_eq_true rfl)
  have N7 := Fr.snoc X7 N3 g_a2
  have O7 : Old Z n0 h7 := O3.wr W7 g_a2
  have K7 : Keep h0 h7 [a2] := K3.wr W7 (Or.inl (List.mem_of_getElem? (i := 0) rfl))
  refine Go.st (f' := (mkF m 32 #[rv a1, iv 1, rv a2, iv 1, iv 2, iv 1, iv c1] [])) (fun _ k => st7 _ k) ?_
  refine Go.st (f' := (mkF m 35 #[rv a1, iv 2, rv a2, iv 1, iv 2, iv 1, iv c1] [])) (fun _ k => XS.iinc X7.here hx rfl (hb hby d7_32) rfl (l' := #[rv a1, iv 2, rv a2, iv 1, iv 2, iv 1, iv c1]) rfl k) ?_
  refine Go.st (f' := (mkF m 38 #[rv a1, iv 2, rv a2, iv 2, iv 2, iv 1, iv c1] [])) (fun _ k => XS.iinc X7.here hx rfl (hb hby d7_35) rfl (l' := #[rv a1, iv 2, rv a2, iv 2, iv 2, iv 1, iv c1]) rfl k) ?_
  refine Go.st (f' := (mkF m 41 #[rv a1, iv 2, rv a2, iv 2, iv 2, iv 2, iv c1] [])) (fun _ k => XS.iinc X7.here hx rfl (hb hby d7_38) rfl (l' := #[rv a1, iv 2, rv a2, iv 2, iv 2, iv 2, iv c1]) rfl k) ?_
  refine Go.st (f' := (mkF m 3 #[rv a1, iv 2, rv a2, iv 2, iv 2, iv 2, iv c1] [])) (fun _ k => XS.goto X7.here hx rfl (pc0 := 41) (pc' := 3) rfl (hb hby d7_41) (by decide) (by decide) k) ?_
  refine Go.st (f' := (mkF m 5 #[rv a1, iv 2, rv a2, iv 2, iv 2, iv 2, iv c1] [(.int 2)])) (fun _ k => XS.iload X7.here hx rfl (hb hby d7_3) rfl k) ?_
  refine Go.st (f' := (mkF m 7 #[rv a1, iv 2, rv a2, iv 2, iv 2, iv 2, iv c1] [(.int 2), (.int 2)])) (fun _ k => XS.iload X7.here hx rfl (hb hby d7_5) rfl k) ?_
  refine Go.st (f' := (mkF m 44 #[rv a1, iv 2, rv a2, iv 2, iv 2, iv 2, iv c1] [])) (fun _ k => XS.icmpYes X7.here hx rfl (pc0 := 7) (pc' := 44) rfl (hb hby d7_7) rfl (by decide) (by decide) (by decide) k) ?_
  refine Go.st (f' := (mkF m 46 #[rv a1, iv 2, rv a2, iv 2, iv 2, iv 2, iv c1] [(.int 2)])) (fun _ k => XS.iload X7.here hx rfl (hb hby d7_44) rfl k) ?_
  refine Go.retV X7 hlk hx (t := .int) hret rfl (Or.inl ⟨rfl, Or.inl rfl, _, rfl⟩) (hb hby d7_46) e7 ?_ (by decide) (by decide)
  exact ⟨rfl, N7, K7, V_a2_7⟩
set_option maxRecDepth 65536 in
set_option maxHeartbeats 40000000 in
theorem st3_2 (l : Launch) (Z : State) (a0 : Array Value) (hw : ∀ d ∈ tables_1, d.before a0 Z = true) (ws : List Jvm.Cond) (a1 : Addr) (k1 : ClassId) (c0 : Int32) (c1 : Int32) (h0 : Heap) (n0 : Nat) (O0 : Old Z n0 h0) (hc_c0 : ¬ (255 : Int32) < c0) (hc_c1 : ¬ (255 : Int32) < c1) (V_a1 : Arv Z h0 a1 k1 .char (2 : Int32) [(.int c0), (.int c1)] (.int 0)) :
    Con l Z (⟨"java/lang/StringUTF16", "compress", "([CII)[B"⟩ : MethodName) jdk_52_method_16_code 6 (some (.array .byte)) ws ({ frames := 1, cells := 1, slots := 2, locals := 18 } : Room) #[(.ref a1), (.int 0), (.int 2)] h0 (fun v h L => ∃ (b : Addr) (kb : ClassId), v = some (.ref b) ∧ Fr n0 L ∧ h0.size ≤ b ∧ Keep h0 h [] ∧ Arv Z h b kb .byte (2 : Int32) [(.int (nar .byte (c0.toInt8.toInt32))), (.int (nar .byte (c1.toInt8.toInt32)))] (.int 0)) := by
  refine own_body (plainFor_of_name pn_java_lang_StringUTF16) ?_
  intro p e s m below meth c s₁ hx hby hml hZ hown hnm hlk hret X0 e0
  have N0 := Fr.nil n0
  have K0 : Keep h0 h0 [] := Keep.refl _ _
  refine Go.st (T' := s₁) (f' := (mkF m 0 #[rv a1, iv 0, iv 2, .unset, .unset, .unset] [])) (fun _ k => castTop (by first | (simp [entryFrame, mkF, argsToLocals, Value.category]; done) | rfl) k) ?_
  have lt_a1 := V_a1.lt
  refine Go.st (f' := (mkF m 1 #[rv a1, iv 0, iv 2, .unset, .unset, .unset] [(.int 2)])) (fun _ k => XS.iloadN X0.here hx rfl (hb hby d6_0) rfl k) ?_
  obtain ⟨T1, h1, kc1, X1, e1, E1, A1, st1⟩ := newP X0 hx hZ (hw _ (List.mem_of_getElem? (i := 26) rfl)) e0 (g := (mkF m 1 #[rv a1, iv 0, iv 2, .unset, .unset, .unset] [(.int 2)])) rfl (hb hby d6_1) rfl (by decide) (cap := 2) (by decide) (by decide) (by decide) (by decide)
  obtain ⟨b1, g1⟩ : ∃ z, z = h0.size := ⟨_, rfl⟩
  rw [← g1] at A1 st1
  have ne_a1_b1 : a1 ≠ b1 := Nat.ne_of_lt (Nat.lt_of_lt_of_eq lt_a1 g1.symm)
  have g_b1 : n0 ≤ b1 := Nat.le_trans (O0.1 ▸ O0.2.1) (Nat.le_of_eq g1.symm)
  have O1 : Old Z n0 h1 := O0.ext E1
  have sz_b1 : h0.size ≤ b1 := Nat.le_trans K0.1 (Nat.le_of_eq g1.symm)
  have K1 : Keep h0 h1 [] := K0.ext E1
  have V_b1 : Arv Z h1 b1 kc1 .byte (2 : Int32) [(.int (0 : Int32)), (.int (0 : Int32))] (.int (0 : Int32)) := (Arv.new A1 (by decide)).pad (pad_rep [] (.int (0 : Int32)) 2)
  have lt_b1 := V_b1.lt
  refine Go.st (f' := (mkF m 3 #[rv a1, iv 0, iv 2, .unset, .unset, .unset] [(.ref b1)])) (fun _ k => st1 _ k) ?_
  refine Go.st (f' := (mkF m 4 #[rv a1, iv 0, iv 2, rv b1, .unset, .unset] [])) (fun _ k => XS.astoreN X1.here hx rfl (hb hby d6_3) rfl rfl (l' := #[rv a1, iv 0, iv 2, rv b1, .unset, .unset]) rfl k) ?_
  refine Go.st (f' := (mkF m 5 #[rv a1, iv 0, iv 2, rv b1, .unset, .unset] [(.ref a1)])) (fun _ k => XS.aloadN X1.here hx rfl (hb hby d6_4) rfl rfl k) ?_
  refine Go.st (f' := (mkF m 6 #[rv a1, iv 0, iv 2, rv b1, .unset, .unset] [(.int 0), (.ref a1)])) (fun _ k => XS.iloadN X1.here hx rfl (hb hby d6_5) rfl k) ?_
  refine Go.st (f' := (mkF m 7 #[rv a1, iv 0, iv 2, rv b1, .unset, .unset] [(.ref b1), (.int 0), (.ref a1)])) (fun _ k => XS.aloadN X1.here hx rfl (hb hby d6_6) rfl rfl k) ?_
  refine Go.st (f' := (mkF m 8 #[rv a1, iv 0, iv 2, rv b1, .unset, .unset] [(.int 0), (.ref b1), (.int 0), (.ref a1)])) (fun _ k => XS.iconst X1.here hx rfl (hb hby d6_7) k) ?_
  refine Go.st (f' := (mkF m 9 #[rv a1, iv 0, iv 2, rv b1, .unset, .unset] [(.int 2), (.int 0), (.ref b1), (.int 0), (.ref a1)])) (fun _ k => XS.iloadN X1.here hx rfl (hb hby d6_8) rfl k) ?_
  have ft3 := (V_a1.ext E1)
  obtain ⟨_, _, ⟨T2, L2, kk2, nn2⟩, -, X2, ⟨Lc2, hQ2, lq2, yq2, zz2⟩, st2⟩ := Jvm.LawKit.callS X1 hx (y := (⟨"java/lang/StringUTF16", "compress", "([CI[BII)I"⟩ : MethodName)) hown (mvT hZ (hw _ (List.mem_of_getElem? (i := 38) rfl))) (mvT hZ (hw _ (List.mem_of_getElem? (i := 39) rfl))) (mvT hZ (hw _ (List.mem_of_getElem? (i := 36) rfl))) (mvT hZ (hw _ (List.mem_of_getElem? (i := 40) rfl))) (by decide) (own_back (W := 0) (st5_2 l Z a0 hw [] b1 kc1 a1 k1 c0 c1 h1 n0 O1 hc_c0 hc_c1 ne_a1_b1 g_b1 ft3 V_b1) hZ (hw _ (List.mem_of_getElem? (i := 40) rfl)) (hw _ (List.mem_of_getElem? (i := 36) rfl)) (by decide) (by decide)) (g := (mkF m 9 #[rv a1, iv 0, iv 2, rv b1, .unset, .unset] [(.int 2), (.int 0), (.ref b1), (.int 0), (.ref a1)])) rfl (by rw [hml]; rfl) (argsL := [(.ref a1), (.int (0 : Int32)), (.ref b1), (.int (0 : Int32)), (.int (2 : Int32))]) (rest := []) (lenOf pd___CI_BII_I rfl) rfl (by show 2 * 0 + _ ≤ _; exact Nat.le_of_eq rfl) (hb hby d6_9) (fun _ _ => ⟨rfl, e1, (by decide : 1 + 0 ≤ _), (by decide : 2 + 0 ≤ _)⟩)
  dsimp only [Pt.U, Pt.locs, Pt.cells, Pt.slots] at X2 lq2 yq2 zz2 st2 hQ2
  subst lq2 yq2 zz2
  obtain ⟨rfl, Nq2, kq2, vq2⟩ := hQ2
  have N2 := Fr.app N0 Nq2
  have O2 : Old Z n0 T2.heap := O1.keep kq2 (allS g_b1 all0)
  have K2 : Keep h0 T2.heap [] := K1.trans kq2 (allS (Or.inr sz_b1) all0)
  refine Go.st (f' := (mkF m 12 #[rv a1, iv 0, iv 2, rv b1, .unset, .unset] [(.int 2)])) (fun _ k => st2 _ k) ?_
  refine Go.st (f' := (mkF m 14 #[rv a1, iv 0, iv 2, rv b1, iv 2, .unset] [])) (fun _ k => XS.istore X2.here hx rfl (hb hby d6_12) rfl (l' := #[rv a1, iv 0, iv 2, rv b1, iv 2, .unset]) rfl k) ?_
  refine Go.st (f' := (mkF m 16 #[rv a1, iv 0, iv 2, rv b1, iv 2, .unset] [(.int 2)])) (fun _ k => XS.iload X2.here hx rfl (hb hby d6_14) rfl k) ?_
  refine Go.st (f' := (mkF m 17 #[rv a1, iv 0, iv 2, rv b1, iv 2, .unset] [(.int 2), (.int 2)])) (fun _ k => XS.iloadN X2.here hx rfl (hb hby d6_16) rfl k) ?_
  refine Go.st (f' := (mkF m 57 #[rv a1, iv 0, iv 2, rv b1, iv 2, .unset] [])) (fun _ k => XS.icmpYes X2.here hx rfl (pc0 := 17) (pc' := 57) rfl (hb hby d6_17) rfl (by decide) (by decide) (by decide) k) ?_
  refine Go.st (f' := (mkF m 58 #[rv a1, iv 0, iv 2, rv b1, iv 2, .unset] [(.ref b1)])) (fun _ k => XS.aloadN X2.here hx rfl (hb hby d6_57) rfl rfl k) ?_
  refine Go.retV X2 hlk hx (t := (.array .byte)) hret rfl (Or.inr (Or.inr (Or.inr (Or.inr ⟨rfl, rfl, rfl⟩)))) (hb hby d6_58) rfl ?_ (by decide) (by decide)
  exact ⟨b1, kc1, rfl, N2, sz_b1, K2, vq2⟩
set_option maxRecDepth 65536 in
set_option maxHeartbeats 40000000 in
theorem stc_2 (l : Launch) (Z : State) (a0 : Array Value) (hw : ∀ d ∈ tables_1, d.before a0 Z = true) (ws : List Jvm.Cond) (a1 : Addr) (k1 : ClassId) (x0 : Int32) (x1 : Int32) (h0 : Heap) (n0 : Nat) (O0 : Old Z n0 h0) (V_a1 : Arv Z h0 a1 k1 .byte (2 : Int32) [(.int x0), (.int x1)] (.int 0)) :
    Con l Z (⟨"java/lang/StringUTF16", "coderFromArrayLen", "([BI)B"⟩ : MethodName) jdk_52_method_15_code 2 (some .byte) ws ({ frames := 0, cells := 0, slots := 0, locals := 0 } : Room) #[(.ref a1), (.int 2)] h0 (fun v h L => v = some (.int 0) ∧ Fr n0 L ∧ h = h0) := by
  refine own_body (plainFor_of_name pn_java_lang_StringUTF16) ?_
  intro p e s m below meth c s₁ hx hby hml hZ hown hnm hlk hret X0 e0
  have N0 := Fr.nil n0
  refine Go.st (T' := s₁) (f' := (mkF m 0 #[rv a1, iv 2] [])) (fun _ k => castTop (by first | (simp [entryFrame, mkF, argsToLocals, Value.category]; done) | rfl) k) ?_
  have lt_a1 := V_a1.lt
  refine Go.st (f' := (mkF m 1 #[rv a1, iv 2] [(.int 2)])) (fun _ k => XS.iloadN X0.here hx rfl (hb hby d8_0) rfl k) ?_
  refine Go.st (f' := (mkF m 2 #[rv a1, iv 2] [(.ref a1), (.int 2)])) (fun _ k => XS.aloadN X0.here hx rfl (hb hby d8_1) rfl rfl k) ?_
  obtain ⟨cl1, Ar1, -, S1, Nx1, -, -⟩ := id V_a1
  refine Go.st (T' := s₁) (f' := (mkF m 3 #[rv a1, iv 2] [(.int 2), (.int 2)])) (fun _ k => X0.arraylength hx (by rw [e0]; exact Ar1.1) (State.isArrayOf_alike hZ.alike Ar1.2.1) (g := (mkF m 2 #[rv a1, iv 2] [(.ref a1), (.int 2)])) rfl rfl (hb hby d8_2) _ (by rw [len_of S1 Nx1]; exact k)) ?_
  refine Go.st (f' := (mkF m 4 #[rv a1, iv 2] [(.int 0)])) (fun _ k => XS.isub X0.here hx rfl (hb hby d8_3) rfl k) ?_
  refine Go.st (f' := (mkF m 6 #[rv a1, iv 2] [(.int 31), (.int 0)])) (fun _ k => XS.bipush X0.here hx rfl (hb hby d8_4) k) ?_
  refine Go.st (f' := (mkF m 7 #[rv a1, iv 2] [(.int 0)])) (fun _ k => XS.iushr X0.here hx rfl (hb hby d8_6) rfl k) ?_
  refine Go.st (f' := (mkF m 8 #[rv a1, iv 2] [(.int 0)])) (fun _ k => XS.i2b X0.here hx rfl (hb hby d8_7) rfl k) ?_
  refine Go.retB X0 hlk hx (t := .byte) hret (by simp) (hb hby d8_8) e0 ?_ (by decide) (by decide)
  exact ⟨rfl, N0, rfl⟩
set_option maxRecDepth 65536 in
set_option maxHeartbeats 40000000 in
theorem stv_2 (l : Launch) (Z : State) (a0 : Array Value) (hw : ∀ d ∈ tables_1, d.before a0 Z = true) (ws : List Jvm.Cond) (a0b : Addr) (a1 : Addr) (k1 : ClassId) (c0 : Int32) (c1 : Int32) (w_NUMBER : Addr) (w_SYMBOL : Addr) (w_NAME : Addr) (w_END : Addr) (w_STRING : Addr) (i_COMPACT_STRINGS : Int32) (v_SIOOBE_FORMATTER : Value) (h0 : Heap) (n0 : Nat) (O0 : Old Z n0 h0) (hc_c0 : ¬ (255 : Int32) < c0) (hc_c1 : ¬ (255 : Int32) < c1) (g_a0b : n0 ≤ a0b) (nb1 : a0b ≠ a1) (E_a0b : Exa Z h0 a0b "java/lang/String") (F_a0b_coder : Fld Z h0 a0b "java/lang/String" "coder" "B" (.int 0)) (F_a0b_value : Fld Z h0 a0b "java/lang/String" "value" "[B" .null) (V_a1 : Arv Z h0 a1 k1 .char (2 : Int32) [(.int c0), (.int c1)] (.int 0)) (WW : World1 Z w_NUMBER w_SYMBOL w_NAME w_END w_STRING i_COMPACT_STRINGS v_SIOOBE_FORMATTER) :
    Con l Z (⟨"java/lang/String", "<init>", "([CIILjava/lang/Void;)V"⟩ : MethodName) jdk_42_method_149_code 6 none ws ({ frames := 2, cells := 1, slots := 2, locals := 35 } : Room) #[(.ref a0b), (.ref a1), (.int 0), (.int 2), .null] h0 (fun v h L => v = none ∧ Fr n0 L ∧ Keep h0 h [a0b] ∧ Exa Z h a0b "java/lang/String" ∧ Fld Z h a0b "java/lang/String" "coder" "B" (.int 0) ∧ ∃ (t : Addr) (kt : ClassId), h0.size ≤ t ∧ Fld Z h a0b "java/lang/String" "value" "[B" (.ref t) ∧ Arv Z h t kt .byte (2 : Int32) [(.int (nar .byte (c0.toInt8.toInt32))), (.int (nar .byte (c1.toInt8.toInt32)))] (.int 0)) := by
  refine own_body (plainFor_of_name pn_java_lang_String) ?_
  intro p e s m below meth c s₁ hx hby hml hZ hown hnm hlk hret X0 e0
  have N0 := Fr.nil n0
  have K0 : Keep h0 h0 [a0b] := Keep.refl _ _
  refine Go.st (T' := s₁) (f' := (mkF m 0 #[rv a0b, rv a1, iv 0, iv 2, .val .null, .unset] [])) (fun _ k => castTop (by first | (simp [entryFrame, mkF, argsToLocals, Value.category]; done) | rfl) k) ?_
  have ⟨S_i_COMPACT_STRINGS, nz_i_COMPACT_STRINGS, S_v_SIOOBE_FORMATTER, r_v_SIOOBE_FORMATTER, S_w_NUMBER, E_w_NUMBER, S_w_SYMBOL, E_w_SYMBOL, S_w_NAME, E_w_NAME, S_w_END, E_w_END, S_w_STRING, E_w_STRING, F_w_NUMBER_ordinal, F_w_SYMBOL_ordinal, F_w_NAME_ordinal, F_w_END_ordinal, F_w_STRING_ordinal⟩ := WW
  have lt_w_NUMBER := E_w_NUMBER.lt
  have lt_w_SYMBOL := E_w_SYMBOL.lt
  have lt_w_NAME := E_w_NAME.lt
  have lt_w_END := E_w_END.lt
  have lt_w_STRING := E_w_STRING.lt
  have lt_a0b := E_a0b.lt
  have ne_w_NUMBER_a0b : w_NUMBER ≠ a0b := O0.ne lt_w_NUMBER g_a0b
  have ne_w_SYMBOL_a0b : w_SYMBOL ≠ a0b := O0.ne lt_w_SYMBOL g_a0b
  have ne_w_NAME_a0b : w_NAME ≠ a0b := O0.ne lt_w_NAME g_a0b
  have ne_w_END_a0b : w_END ≠ a0b := O0.ne lt_w_END g_a0b
  have ne_w_STRING_a0b : w_STRING ≠ a0b := O0.ne lt_w_STRING g_a0b
  have lt_a1 := V_a1.lt
  refine Go.st (f' := (mkF m 1 #[rv a0b, rv a1, iv 0, iv 2, .val .null, .unset] [(.ref a0b)])) (fun _ k => XS.aloadN X0.here hx rfl (hb hby d4_0) rfl rfl k) ?_
  obtain ⟨T1, X1, e1, st1⟩ := initO X0 hx hZ hown (hw _ (List.mem_of_getElem? (i := 22) rfl)) (hw _ (List.mem_of_getElem? (i := 23) rfl)) (hw _ (List.mem_of_getElem? (i := 24) rfl)) e0 (g := (mkF m 1 #[rv a0b, rv a1, iv 0, iv 2, .val .null, .unset] [(.ref a0b)])) rfl (by rw [hml]; rfl) rfl (hb hby d4_1) (by decide) (W := 0) (by show 2 * 0 + _ ≤ _; exact Nat.le_of_eq rfl) (by decide)
  refine Go.st (f' := (mkF m 4 #[rv a0b, rv a1, iv 0, iv 2, .val .null, .unset] [])) (fun _ k => st1 _ k) ?_
  refine Go.st (f' := (mkF m 5 #[rv a0b, rv a1, iv 0, iv 2, .val .null, .unset] [(.int 2)])) (fun _ k => XS.iloadN X1.here hx rfl (hb hby d4_4) rfl k) ?_
  refine Go.st (f' := (mkF m 27 #[rv a0b, rv a1, iv 0, iv 2, .val .null, .unset] [])) (fun _ k => XS.ifYes X1.here hx rfl (pc0 := 5) (pc' := 27) rfl (hb hby d4_5) rfl (by decide) (by decide) (by decide) k) ?_
  obtain ⟨T2, X2, e2, st2⟩ := getS2 X1 hx hZ hown (host := "") (Or.inl (hw _ (List.mem_of_getElem? (i := 33) rfl))) Via.refl e1 (S_i_COMPACT_STRINGS.ext O0.2) (g := (mkF m 27 #[rv a0b, rv a1, iv 0, iv 2, .val .null, .unset] [])) rfl (hb hby d4_27)
  refine Go.st (f' := (mkF m 30 #[rv a0b, rv a1, iv 0, iv 2, .val .null, .unset] [(.int i_COMPACT_STRINGS)])) (fun _ k => st2 _ k) ?_
  refine Go.st (f' := (mkF m 33 #[rv a0b, rv a1, iv 0, iv 2, .val .null, .unset] [])) (fun _ k => XS.ifNo X2.here hx rfl (hb hby d4_30) rfl ((if0 _ _).trans (feq nz_i_COMPACT_STRINGS).1) k) ?_
  refine Go.st (f' := (mkF m 34 #[rv a0b, rv a1, iv 0, iv 2, .val .null, .unset] [(.ref a1)])) (fun _ k => XS.aloadN X2.here hx rfl (hb hby d4_33) rfl rfl k) ?_
  refine Go.st (f' := (mkF m 35 #[rv a0b, rv a1, iv 0, iv 2, .val .null, .unset] [(.int 0), (.ref a1)])) (fun _ k => XS.iloadN X2.here hx rfl (hb hby d4_34) rfl k) ?_
  refine Go.st (f' := (mkF m 36 #[rv a0b, rv a1, iv 0, iv 2, .val .null, .unset] [(.int 2), (.int 0), (.ref a1)])) (fun _ k => XS.iloadN X2.here hx rfl (hb hby d4_35) rfl k) ?_
  obtain ⟨_, _, ⟨T3, L3, kk3, nn3⟩, -, X3, ⟨Lc3, hQ3, lq3, yq3, zz3⟩, st3⟩ := Jvm.LawKit.callS X2 hx (y := (⟨"java/lang/StringUTF16", "compress", "([CII)[B"⟩ : MethodName)) hown (mvT hZ (hw _ (List.mem_of_getElem? (i := 34) rfl))) (mvT hZ (hw _ (List.mem_of_getElem? (i := 35) rfl))) (mvT hZ (hw _ (List.mem_of_getElem? (i := 36) rfl))) (mvT hZ (hw _ (List.mem_of_getElem? (i := 37) rfl))) (by decide) (own_back (W := 0) (st3_2 l Z a0 hw [] a1 k1 c0 c1 h0 n0 O0 hc_c0 hc_c1 V_a1) hZ (hw _ (List.mem_of_getElem? (i := 37) rfl)) (hw _ (List.mem_of_getElem? (i := 36) rfl)) (by decide) (by decide)) (g := (mkF m 36 #[rv a0b, rv a1, iv 0, iv 2, .val .null, .unset] [(.int 2), (.int 0), (.ref a1)])) rfl (by rw [hml]; rfl) (argsL := [(.ref a1), (.int (0 : Int32)), (.int (2 : Int32))]) (rest := []) (lenOf pd___CII__B rfl) rfl (by show 2 * 0 + _ ≤ _; exact Nat.le_of_eq rfl) (hb hby d4_36) (fun _ _ => ⟨rfl, e2, (by decide : 0 + 1 ≤ _), (by decide : 0 + 2 ≤ _)⟩)
  dsimp only [Pt.U, Pt.locs, Pt.cells, Pt.slots] at X3 lq3 yq3 zz3 st3 hQ3
  subst lq3 yq3 zz3
  obtain ⟨b3, kb3, rfl, Nq3, zq3, kq3, vq3⟩ := hQ3
  have N3 := Fr.app N0 Nq3
  have ne_a0b_b3 : a0b ≠ b3 := Nat.ne_of_lt (Nat.lt_of_lt_of_le lt_a0b zq3)
  have ne_a1_b3 : a1 ≠ b3 := Nat.ne_of_lt (Nat.lt_of_lt_of_le lt_a1 zq3)
  have ne_w_NUMBER_b3 : w_NUMBER ≠ b3 := Nat.ne_of_lt (Nat.lt_of_lt_of_le lt_w_NUMBER (Nat.le_trans O0.2.1 zq3))
  have ne_w_SYMBOL_b3 : w_SYMBOL ≠ b3 := Nat.ne_of_lt (Nat.lt_of_lt_of_le lt_w_SYMBOL (Nat.le_trans O0.2.1 zq3))
  have ne_w_NAME_b3 : w_NAME ≠ b3 := Nat.ne_of_lt (Nat.lt_of_lt_of_le lt_w_NAME (Nat.le_trans O0.2.1 zq3))
  have ne_w_END_b3 : w_END ≠ b3 := Nat.ne_of_lt (Nat.lt_of_lt_of_le lt_w_END (Nat.le_trans O0.2.1 zq3))
  have ne_w_STRING_b3 : w_STRING ≠ b3 := Nat.ne_of_lt (Nat.lt_of_lt_of_le lt_w_STRING (Nat.le_trans O0.2.1 zq3))
  have g_b3 : n0 ≤ b3 := Nat.le_trans (O0.1 ▸ O0.2.1) zq3
  have sz_b3 : h0.size ≤ b3 := Nat.le_trans K0.1 zq3
  have O3 : Old Z n0 T3.heap := O0.keep kq3 all0
  have K3 : Keep h0 T3.heap [a0b] := K0.trans kq3 all0
  have lt_b3 := vq3.lt
  refine Go.st (f' := (mkF m 39 #[rv a0b, rv a1, iv 0, iv 2, .val .null, .unset] [(.ref b3)])) (fun _ k => st3 _ k) ?_
  refine Go.st (f' := (mkF m 41 #[rv a0b, rv a1, iv 0, iv 2, .val .null, rv b3] [])) (fun _ k => XS.astore X3.here hx rfl (hb hby d4_39) rfl rfl (l' := #[rv a0b, rv a1, iv 0, iv 2, .val .null, rv b3]) rfl k) ?_
  refine Go.st (f' := (mkF m 42 #[rv a0b, rv a1, iv 0, iv 2, .val .null, rv b3] [(.ref a0b)])) (fun _ k => XS.aloadN X3.here hx rfl (hb hby d4_41) rfl rfl k) ?_
  refine Go.st (f' := (mkF m 44 #[rv a0b, rv a1, iv 0, iv 2, .val .null, rv b3] [(.ref b3), (.ref a0b)])) (fun _ k => XS.aload X3.here hx rfl (hb hby d4_42) rfl rfl k) ?_
  refine Go.st (f' := (mkF m 45 #[rv a0b, rv a1, iv 0, iv 2, .val .null, rv b3] [(.int 2), (.ref b3), (.ref a0b)])) (fun _ k => XS.iloadN X3.here hx rfl (hb hby d4_44) rfl k) ?_
  obtain ⟨_, _, ⟨T4, L4, kk4, nn4⟩, -, X4, ⟨Lc4, hQ4, lq4, yq4, zz4⟩, st4⟩ := Jvm.LawKit.callS X3 hx (y := (⟨"java/lang/StringUTF16", "coderFromArrayLen", "([BI)B"⟩ : MethodName)) hown (mvT hZ (hw _ (List.mem_of_getElem? (i := 41) rfl))) (mvT hZ (hw _ (List.mem_of_getElem? (i := 42) rfl))) (mvT hZ (hw _ (List.mem_of_getElem? (i := 36) rfl))) (mvT hZ (hw _ (List.mem_of_getElem? (i := 43) rfl))) (by decide) (own_back (W := 1) (stc_2 l Z a0 hw [] b3 kb3 (nar .byte (c0.toInt8.toInt32)) (nar .byte (c1.toInt8.toInt32)) T3.heap n0 O3 vq3) hZ (hw _ (List.mem_of_getElem? (i := 43) rfl)) (hw _ (List.mem_of_getElem? (i := 36) rfl)) (by decide) (by decide)) (g := (mkF m 45 #[rv a0b, rv a1, iv 0, iv 2, .val .null, rv b3] [(.int 2), (.ref b3), (.ref a0b)])) rfl (by rw [hml]; rfl) (argsL := [(.ref b3), (.int (2 : Int32))]) (rest := [(.ref a0b)]) (lenOf pd___BI_B rfl) rfl (by show 2 * 0 + _ ≤ _; exact Nat.le_of_eq rfl) (hb hby d4_45) (fun _ _ => ⟨rfl, rfl, (by decide : 1 + 0 ≤ _), (by decide : 2 + 0 ≤ _)⟩)
  dsimp only [Pt.U, Pt.locs, Pt.cells, Pt.slots] at X4 lq4 yq4 zz4 st4 hQ4
  subst lq4 yq4 zz4
  obtain ⟨rfl, Nq4, kq4⟩ := hQ4
  have N4 := Fr.app N3 Nq4
  refine Go.st (f' := (mkF m 48 #[rv a0b, rv a1, iv 0, iv 2, .val .null, rv b3] [(.int 0), (.ref a0b)])) (fun _ k => st4 _ k) ?_
  have ft5 := (E_a0b.keep kq3)
  have ft6 := (F_a0b_coder.keep kq3 nin0)
  obtain ⟨T7, h7, X7, e7, W7, st7⟩ := putFN X4 hx hZ hown (hw _ (List.mem_of_getElem? (i := 32) rfl)) Via.refl kq4 ft6 ft5 (Or.inr ⟨(hw _ (List.mem_of_getElem? (i := 28) rfl)), rfl, hnm⟩) (hw _ (List.mem_of_getElem? (i := 12) rfl)) (ty := .byte) (v' := (.int (0 : Int32))) (by decide) rfl (by decide) (g := (mkF m 48 #[rv a0b, rv a1, iv 0, iv 2, .val .null, rv b3] [(.int 0), (.ref a0b)])) rfl rfl (hb hby d4_48)
  have N7 := Fr.snoc X7 N4 g_a0b
  have O7 : Old Z n0 h7 := O3.wr W7 g_a0b
  have K7 : Keep h0 h7 [a0b] := K3.wr W7 (Or.inl (List.mem_of_getElem? (i := 0) rfl))
  have Fw7 := ft6.same W7
  refine Go.st (f' := (mkF m 51 #[rv a0b, rv a1, iv 0, iv 2, .val .null, rv b3] [])) (fun _ k => st7 _ k) ?_
  refine Go.st (f' := (mkF m 52 #[rv a0b, rv a1, iv 0, iv 2, .val .null, rv b3] [(.ref a0b)])) (fun _ k => XS.aloadN X7.here hx rfl (hb hby d4_51) rfl rfl k) ?_
  refine Go.st (f' := (mkF m 54 #[rv a0b, rv a1, iv 0, iv 2, .val .null, rv b3] [(.ref b3), (.ref a0b)])) (fun _ k => XS.aload X7.here hx rfl (hb hby d4_52) rfl rfl k) ?_
  have ft8 := (ft5.wr W7)
  have ft9 := ((F_a0b_value.keep kq3 nin0).other W7 (Or.inr (slot_ne (Or.inr (hw _ (List.mem_of_getElem? (i := 27) rfl))) (Or.inr (hw _ (List.mem_of_getElem? (i := 28) rfl))) (by decide) (t := (.array .byte)) (t' := .byte) (by decide) (by decide))))
  obtain ⟨T10, h10, X10, e10, W10, st10⟩ := putF X7 hx hZ hown (host := "") (Or.inl (hw _ (List.mem_of_getElem? (i := 31) rfl))) Via.refl e7 ft9 ft8 (Or.inr ⟨(hw _ (List.mem_of_getElem? (i := 27) rfl)), rfl, hnm⟩) (hw _ (List.mem_of_getElem? (i := 12) rfl)) (ty := (.array .byte)) (by decide) rfl rfl (g := (mkF m 54 #[rv a0b, rv a1, iv 0, iv 2, .val .null, rv b3] [(.ref b3), (.ref a0b)])) rfl rfl (hb hby d4_54)
  have N10 := Fr.snoc X10 N7 g_a0b
  have O10 : Old Z n0 h10 := O7.wr W10 g_a0b
  have K10 : Keep h0 h10 [a0b] := K7.wr W10 (Or.inl (List.mem_of_getElem? (i := 0) rfl))
  have Fw10 := ft9.same W10
  refine Go.st (f' := (mkF m 57 #[rv a0b, rv a1, iv 0, iv 2, .val .null, rv b3] [])) (fun _ k => st10 _ k) ?_
  refine Go.ret0 X10 hlk hx hret (hb hby d4_57) e10 ?_ (by decide) (by decide)
  have ft11 := (ft8.wr W10)
  have ft12 := (Fw7.other W10 (Or.inr (slot_ne (Or.inr (hw _ (List.mem_of_getElem? (i := 28) rfl))) (Or.inr (hw _ (List.mem_of_getElem? (i := 27) rfl))) (by decide) (t := .byte) (t' := (.array .byte)) (by decide) (by decide))))
  have ft13 := ((vq3.other W7 (Ne.symm ne_a0b_b3)).other W10 (Ne.symm ne_a0b_b3))
  exact ⟨rfl, N10, K10, ft11, ft12, b3, kb3, sz_b3, Fw10, ft13⟩
set_option maxRecDepth 65536 in
set_option maxHeartbeats 40000000 in
theorem st1_2 (l : Launch) (Z : State) (a0 : Array Value) (hw : ∀ d ∈ tables_1, d.before a0 Z = true) (ws : List Jvm.Cond) (a0b : Addr) (a1 : Addr) (k1 : ClassId) (c0 : Int32) (c1 : Int32) (w_NUMBER : Addr) (w_SYMBOL : Addr) (w_NAME : Addr) (w_END : Addr) (w_STRING : Addr) (i_COMPACT_STRINGS : Int32) (v_SIOOBE_FORMATTER : Value) (h0 : Heap) (n0 : Nat) (O0 : Old Z n0 h0) (hc_c0 : ¬ (255 : Int32) < c0) (hc_c1 : ¬ (255 : Int32) < c1) (g_a0b : n0 ≤ a0b) (nb1 : a0b ≠ a1) (E_a0b : Exa Z h0 a0b "java/lang/String") (F_a0b_coder : Fld Z h0 a0b "java/lang/String" "coder" "B" (.int 0)) (F_a0b_value : Fld Z h0 a0b "java/lang/String" "value" "[B" .null) (V_a1 : Arv Z h0 a1 k1 .char (2 : Int32) [(.int c0), (.int c1)] (.int 0)) (WW : World1 Z w_NUMBER w_SYMBOL w_NAME w_END w_STRING i_COMPACT_STRINGS v_SIOOBE_FORMATTER) :
    Con l Z (⟨"java/lang/String", "<init>", "([C)V"⟩ : MethodName) jdk_42_method_3_code 2 none ws ({ frames := 3, cells := 1, slots := 2, locals := 52 } : Room) #[(.ref a0b), (.ref a1)] h0 (fun v h L => v = none ∧ Fr n0 L ∧ Keep h0 h [a0b] ∧ Exa Z h a0b "java/lang/String" ∧ Fld Z h a0b "java/lang/String" "coder" "B" (.int 0) ∧ ∃ (t : Addr) (kt : ClassId), h0.size ≤ t ∧ Fld Z h a0b "java/lang/String" "value" "[B" (.ref t) ∧ Arv Z h t kt .byte (2 : Int32) [(.int (nar .byte (c0.toInt8.toInt32))), (.int (nar .byte (c1.toInt8.toInt32)))] (.int 0)) := by
  refine own_body (plainFor_of_name pn_java_lang_String) ?_
  intro p e s m below meth c s₁ hx hby hml hZ hown hnm hlk hret X0 e0
  have N0 := Fr.nil n0
  have K0 : Keep h0 h0 [a0b] := Keep.refl _ _
  refine Go.st (T' := s₁) (f' := (mkF m 0 #[rv a0b, rv a1] [])) (fun _ k => castTop (by first | (simp [entryFrame, mkF, argsToLocals, Value.category]; done) | rfl) k) ?_
  have ⟨S_i_COMPACT_STRINGS, nz_i_COMPACT_STRINGS, S_v_SIOOBE_FORMATTER, r_v_SIOOBE_FORMATTER, S_w_NUMBER, E_w_NUMBER, S_w_SYMBOL, E_w_SYMBOL, S_w_NAME, E_w_NAME, S_w_END, E_w_END, S_w_STRING, E_w_STRING, F_w_NUMBER_ordinal, F_w_SYMBOL_ordinal, F_w_NAME_ordinal, F_w_END_ordinal, F_w_STRING_ordinal⟩ := WW
  have lt_w_NUMBER := E_w_NUMBER.lt
  have lt_w_SYMBOL := E_w_SYMBOL.lt
  have lt_w_NAME := E_w_NAME.lt
  have lt_w_END := E_w_END.lt
  have lt_w_STRING := E_w_STRING.lt
  have lt_a0b := E_a0b.lt
  have ne_w_NUMBER_a0b : w_NUMBER ≠ a0b := O0.ne lt_w_NUMBER g_a0b
  have ne_w_SYMBOL_a0b : w_SYMBOL ≠ a0b := O0.ne lt_w_SYMBOL g_a0b
  have ne_w_NAME_a0b : w_NAME ≠ a0b := O0.ne lt_w_NAME g_a0b
  have ne_w_END_a0b : w_END ≠ a0b := O0.ne lt_w_END g_a0b
  have ne_w_STRING_a0b : w_STRING ≠ a0b := O0.ne lt_w_STRING g_a0b
  have lt_a1 := V_a1.lt
  refine Go.st (f' := (mkF m 1 #[rv a0b, rv a1] [(.ref a0b)])) (fun _ k => XS.aloadN X0.here hx rfl (hb hby d3_0) rfl rfl k) ?_
  refine Go.st (f' := (mkF m 2 #[rv a0b, rv a1] [(.ref a1), (.ref a0b)])) (fun _ k => XS.aloadN X0.here hx rfl (hb hby d3_1) rfl rfl k) ?_
  refine Go.st (f' := (mkF m 3 #[rv a0b, rv a1] [(.int 0), (.ref a1), (.ref a0b)])) (fun _ k => XS.iconst X0.here hx rfl (hb hby d3_2) k) ?_
  refine Go.st (f' := (mkF m 4 #[rv a0b, rv a1] [(.ref a1), (.int 0), (.ref a1), (.ref a0b)])) (fun _ k => XS.aloadN X0.here hx rfl (hb hby d3_3) rfl rfl k) ?_
  obtain ⟨cl1, Ar1, -, S1, Nx1, -, -⟩ := id V_a1
  refine Go.st (T' := s₁) (f' := (mkF m 5 #[rv a0b, rv a1] [(.int 2), (.int 0), (.ref a1), (.ref a0b)])) (fun _ k => X0.arraylength hx (by rw [e0]; exact Ar1.1) (State.isArrayOf_alike hZ.alike Ar1.2.1) (g := (mkF m 4 #[rv a0b, rv a1] [(.ref a1), (.int 0), (.ref a1), (.ref a0b)])) rfl rfl (hb hby d3_4) _ (by rw [len_of S1 Nx1]; exact k)) ?_
  refine Go.st (f' := (mkF m 6 #[rv a0b, rv a1] [.null, (.int 2), (.int 0), (.ref a1), (.ref a0b)])) (fun _ k => XS.aconstNull X0.here hx rfl (hb hby d3_5) k) ?_
  obtain ⟨_, _, ⟨T2, L2, kk2, nn2⟩, -, X2, ⟨Lc2, hQ2, lq2, yq2, zz2⟩, st2⟩ := X0.specialBack hx (y := (⟨"java/lang/String", "<init>", "([CIILjava/lang/Void;)V"⟩ : MethodName)) rfl hown (mvT hZ (hw _ (List.mem_of_getElem? (i := 18) rfl))) (mvT hZ (hw _ (List.mem_of_getElem? (i := 19) rfl))) (mvT hZ (hw _ (List.mem_of_getElem? (i := 21) rfl))) (by decide) (own_back (W := 0) (stv_2 l Z a0 hw [] a0b a1 k1 c0 c1 w_NUMBER w_SYMBOL w_NAME w_END w_STRING i_COMPACT_STRINGS v_SIOOBE_FORMATTER h0 n0 O0 hc_c0 hc_c1 g_a0b nb1 E_a0b F_a0b_coder F_a0b_value V_a1 WW) hZ (hw _ (List.mem_of_getElem? (i := 21) rfl)) (hw _ (List.mem_of_getElem? (i := 13) rfl)) (by decide) (by decide)) (g := (mkF m 6 #[rv a0b, rv a1] [.null, (.int 2), (.int 0), (.ref a1), (.ref a0b)])) rfl (by rw [hml]; rfl) (Steps.refl _) (a := a0b) (argsL := [(.ref a1), (.int (0 : Int32)), (.int (2 : Int32)), .null]) (rest := []) (lenOf pd___CIILjava_lang_Void__V rfl) rfl (by show 2 * 0 + _ ≤ _; exact Nat.le_of_eq rfl) (hb hby d3_6) (fun _ _ => ⟨rfl, e0, (by decide : 0 + 1 ≤ _), (by decide : 0 + 2 ≤ _)⟩)
  dsimp only [Pt.U, Pt.locs, Pt.cells, Pt.slots] at X2 lq2 yq2 zz2 st2 hQ2
  subst lq2 yq2 zz2
  obtain ⟨rfl, Nq2, kq2, eq2, cq2, tt2, kt2, zq2, fq2, vq2⟩ := hQ2
  have N2 := Fr.app N0 Nq2
  have ne_a0b_tt2 : a0b ≠ tt2 := Nat.ne_of_lt (Nat.lt_of_lt_of_le lt_a0b zq2)
  have ne_a1_tt2 : a1 ≠ tt2 := Nat.ne_of_lt (Nat.lt_of_lt_of_le lt_a1 zq2)
  have ne_w_NUMBER_tt2 : w_NUMBER ≠ tt2 := Nat.ne_of_lt (Nat.lt_of_lt_of_le lt_w_NUMBER (Nat.le_trans O0.2.1 zq2))
  have ne_w_SYMBOL_tt2 : w_SYMBOL ≠ tt2 := Nat.ne_of_lt (Nat.lt_of_lt_of_le lt_w_SYMBOL (Nat.le_trans O0.2.1 zq2))
  have ne_w_NAME_tt2 : w_NAME ≠ tt2 := Nat.ne_of_lt (Nat.lt_of_lt_of_le lt_w_NAME (Nat.le_trans O0.2.1 zq2))
  have ne_w_END_tt2 : w_END ≠ tt2 := Nat.ne_of_lt (Nat.lt_of_lt_of_le lt_w_END (Nat.le_trans O0.2.1 zq2))
  have ne_w_STRING_tt2 : w_STRING ≠ tt2 := Nat.ne_of_lt (Nat.lt_of_lt_of_le lt_w_STRING (Nat.le_trans O0.2.1 zq2))
  have g_tt2 : n0 ≤ tt2 := Nat.le_trans (O0.1 ▸ O0.2.1) zq2
  have sz_tt2 : h0.size ≤ tt2 := Nat.le_trans K0.1 zq2
  have O2 : Old Z n0 T2.heap := O0.keep kq2 (allS g_a0b all0)
  have K2 : Keep h0 T2.heap [a0b] := K0.trans kq2 (allS (Or.inl (List.mem_of_getElem? (i := 0) rfl)) all0)
  have lt_tt2 := vq2.lt
  refine Go.tr (f' := (mkF m 9 #[rv a0b, rv a1] [])) st2 ?_
  refine Go.ret0 X2 hlk hx hret (hb hby d3_9) rfl ?_ (by decide) (by decide)
  exact ⟨rfl, N2, K2, eq2, cq2, tt2, kt2, sz_tt2, fq2, vq2⟩
theorem own_neArv {Z : State} {h : Heap} {a b : Addr} {k1 k2 : ClassId} {t1 t2 : FieldType} {z1 z2 : Int32} {v1 v2 : List Value} {d1 d2 : Value} (A : Arv Z h a k1 t1 z1 v1 d1) (B : Arv Z h b k2 t2 z2 v2 d2) (q : t1 ≠ t2) : a ≠ b := fun e => by
  subst e
  obtain ⟨c, ⟨c1, ⟨-, k, c2, comp, c3⟩, -⟩, -⟩ := A
  obtain ⟨c', ⟨d1, ⟨-, k', d2, comp', d3⟩, -⟩, -⟩ := B
  cases c1.symm.trans d1
  cases c2.symm.trans d2
  have := c3.symm.trans d3
  injection this with _ e
  exact q e

theorem d4_8 : decode jdk_42_method_149_code 8 = .ok (.aload_n 0, 1) := by decide +kernel
theorem d4_9 : decode jdk_42_method_149_code 9 = .ok (.ldc 7, 2) := by decide +kernel
theorem d4_11 : decode jdk_42_method_149_code 11 = .ok (.getfield 9, 3) := by decide +kernel
theorem d4_14 : decode jdk_42_method_149_code 14 = .ok (.putfield 9, 3) := by decide +kernel
theorem d4_17 : decode jdk_42_method_149_code 17 = .ok (.aload_n 0, 1) := by decide +kernel
theorem d4_18 : decode jdk_42_method_149_code 18 = .ok (.ldc 7, 2) := by decide +kernel
theorem d4_20 : decode jdk_42_method_149_code 20 = .ok (.getfield 15, 3) := by decide +kernel
theorem d4_23 : decode jdk_42_method_149_code 23 = .ok (.putfield 15, 3) := by decide +kernel
theorem d4_26 : decode jdk_42_method_149_code 26 = .ok (.return_, 1) := by decide +kernel
set_option maxRecDepth 65536 in
set_option maxHeartbeats 40000000 in
theorem sv_0 (l : Launch) (Z : State) (a0 : Array Value) (hw : ∀ d ∈ tables_1, d.before a0 Z = true) (ws : List Jvm.Cond) (a0b : Addr) (a1 : Addr) (w_NUMBER : Addr) (w_SYMBOL : Addr) (w_NAME : Addr) (w_END : Addr) (w_STRING : Addr) (i_COMPACT_STRINGS : Int32) (v_SIOOBE_FORMATTER : Value) (h0 : Heap) (n0 : Nat) (O0 : Old Z n0 h0) (g_a0b : n0 ≤ a0b) (E_a0b : Exa Z h0 a0b "java/lang/String") (F_a0b_coder : Fld Z h0 a0b "java/lang/String" "coder" "B" (.int 0)) (F_a0b_value : Fld Z h0 a0b "java/lang/String" "value" "[B" .null) (WW : World1 Z w_NUMBER w_SYMBOL w_NAME w_END w_STRING i_COMPACT_STRINGS v_SIOOBE_FORMATTER) :
    ConW l Z EL (⟨"java/lang/String", "<init>", "([CIILjava/lang/Void;)V"⟩ : MethodName) jdk_42_method_149_code 6 none ws ({ frames := 1, cells := 4, slots := 8, locals := 12 } : Room) #[(.ref a0b), (.ref a1), (.int 0), (.int 0), .null] h0 (fun v h L => v = none ∧ Fr n0 L ∧ Keep h0 h [a0b] ∧ Exa Z h a0b "java/lang/String" ∧ Fld Z h a0b "java/lang/String" "coder" "B" (.int 0) ∧ ∃ (t : Addr) (kt : ClassId), Fld Z h a0b "java/lang/String" "value" "[B" (.ref t) ∧ Arv Z h t kt .byte (0 : Int32) [] (.int 0)) := by
  refine own_bodyW (plainFor_of_name pn_java_lang_String) ?_
  intro p e s m below meth c s₁ hx hby hml hZ hown hnm hlk hret X0 e0 hh hS CR0
  have hEL := own_EL hw
  have wS := own_wS hw
  have N0 := Fr.nil n0
  have K0 : Keep h0 h0 [a0b] := Keep.refl _ _
  refine Go.st (T' := s₁) (f' := (mkF m 0 #[rv a0b, rv a1, iv 0, iv 0, .val .null, .unset] [])) (fun _ k => castTop (by first | (simp [entryFrame, mkF, argsToLocals, Value.category]; done) | rfl) k) ?_
  have ⟨S_i_COMPACT_STRINGS, nz_i_COMPACT_STRINGS, S_v_SIOOBE_FORMATTER, r_v_SIOOBE_FORMATTER, S_w_NUMBER, E_w_NUMBER, S_w_SYMBOL, E_w_SYMBOL, S_w_NAME, E_w_NAME, S_w_END, E_w_END, S_w_STRING, E_w_STRING, F_w_NUMBER_ordinal, F_w_SYMBOL_ordinal, F_w_NAME_ordinal, F_w_END_ordinal, F_w_STRING_ordinal⟩ := WW
  have lt_w_NUMBER := E_w_NUMBER.lt
  have lt_w_SYMBOL := E_w_SYMBOL.lt
  have lt_w_NAME := E_w_NAME.lt
  have lt_w_END := E_w_END.lt
  have lt_w_STRING := E_w_STRING.lt
  have lt_a0b := E_a0b.lt
  have ne_w_NUMBER_a0b : w_NUMBER ≠ a0b := O0.ne lt_w_NUMBER g_a0b
  have ne_w_SYMBOL_a0b : w_SYMBOL ≠ a0b := O0.ne lt_w_SYMBOL g_a0b
  have ne_w_NAME_a0b : w_NAME ≠ a0b := O0.ne lt_w_NAME g_a0b
  have ne_w_END_a0b : w_END ≠ a0b := O0.ne lt_w_END g_a0b
  have ne_w_STRING_a0b : w_STRING ≠ a0b := O0.ne lt_w_STRING g_a0b
  have sf_a0b : Safe Z EL s.vm h0 a0b := own_safe0 hZ.alike E_a0b F_a0b_value
  refine Go.st (f' := (mkF m 1 #[rv a0b, rv a1, iv 0, iv 0, .val .null, .unset] [(.ref a0b)])) (fun _ k => XS.aloadN X0.here hx rfl (hb hby d4_0) rfl rfl k) ?_
  obtain ⟨T1, X1, e1, st1⟩ := initO X0 hx hZ hown (hw _ (List.mem_of_getElem? (i := 22) rfl)) (hw _ (List.mem_of_getElem? (i := 23) rfl)) (hw _ (List.mem_of_getElem? (i := 24) rfl)) e0 (g := (mkF m 1 #[rv a0b, rv a1, iv 0, iv 0, .val .null, .unset] [(.ref a0b)])) rfl (by rw [hml]; rfl) rfl (hb hby d4_1) (by decide) (W := 0) (by show 2 * 0 + _ ≤ _; exact Nat.le_of_eq rfl) (by decide)
  refine Go.st (f' := (mkF m 4 #[rv a0b, rv a1, iv 0, iv 0, .val .null, .unset] [])) (fun _ k => st1 _ k) ?_
  refine Go.st (f' := (mkF m 5 #[rv a0b, rv a1, iv 0, iv 0, .val .null, .unset] [(.int 0)])) (fun _ k => XS.iloadN X1.here hx rfl (hb hby d4_4) rfl k) ?_
  refine Go.st (f' := (mkF m 8 #[rv a0b, rv a1, iv 0, iv 0, .val .null, .unset] [])) (fun _ k => XS.ifNo X1.here hx rfl (hb hby d4_5) rfl (by decide) k) ?_
  refine Go.st (f' := (mkF m 9 #[rv a0b, rv a1, iv 0, iv 0, .val .null, .unset] [(.ref a0b)])) (fun _ k => XS.aloadN X1.here hx rfl (hb hby d4_8) rfl rfl k) ?_
  obtain ⟨b2, T2, h2, k12, t2, kt2, X2, e2, E2, hS2, hk2, hZ2, hown2, A2, cq2, fq2, vq2, lt_b2, lt_t2, crw2, -, sfx2, st2⟩ := ldcCH (EL := EL) X1 hx hZ hown (hw _ (List.mem_of_getElem? (i := 25) rfl)) wS e1 hS (Nat.zero_le _) hEL (List.mem_of_getElem? (i := 0) rfl) CR0.1 (vs := []) (z := (0 : Int32)) ⟨by decide, by decide⟩ (by decide) rfl (g := (mkF m 9 #[rv a0b, rv a1, iv 0, iv 0, .val .null, .unset] [(.ref a0b)])) rfl (hb hby d4_9) (n := 0) (by decide) (by decide) (by decide) (by decide)
  have O2 : Old Z n0 h2 := O0.ext E2
  have K2 : Keep h0 h2 [a0b] := K0.ext E2
  have sf3 := crw2.safe lt_a0b sf_a0b
  have CR2 := CR0.trans crw2
  refine Go.st (f' := (mkF m 11 #[rv a0b, rv a1, iv 0, iv 0, .val .null, .unset] [(.ref b2), (.ref a0b)])) (fun _ k => st2 _ k) ?_
  obtain ⟨T4, X4, e4, st4⟩ := getF X2 hx hZ2 hown2 (host := "") (Or.inl (hw _ (List.mem_of_getElem? (i := 31) rfl))) Via.refl e2 fq2 (g := (mkF m 11 #[rv a0b, rv a1, iv 0, iv 0, .val .null, .unset] [(.ref b2), (.ref a0b)])) rfl rfl (hb hby d4_11)
  refine Go.st (f' := (mkF m 14 #[rv a0b, rv a1, iv 0, iv 0, .val .null, .unset] [(.ref t2), (.ref a0b)])) (fun _ k => st4 _ k) ?_
  have ft5 := (E_a0b.ext E2)
  have ft6 := (F_a0b_value.ext E2)
  obtain ⟨T7, h7, X7, e7, W7, st7⟩ := putF X4 hx hZ2 hown2 (host := "") (Or.inl (hw _ (List.mem_of_getElem? (i := 31) rfl))) Via.refl e4 ft6 ft5 (Or.inr ⟨(hw _ (List.mem_of_getElem? (i := 27) rfl)), rfl, hnm⟩) (hw _ (List.mem_of_getElem? (i := 12) rfl)) (ty := (.array .byte)) (by decide) rfl rfl (g := (mkF m 14 #[rv a0b, rv a1, iv 0, iv 0, .val .null, .unset] [(.ref t2), (.ref a0b)])) rfl rfl (hb hby d4_14)
  have N7 := Fr.snoc X7 N0 g_a0b
  have O7 : Old Z n0 h7 := O2.wr W7 g_a0b
  have K7 : Keep h0 h7 [a0b] := K2.wr W7 (Or.inl (List.mem_of_getElem? (i := 0) rfl))
  have CR7 : CHr Z EL s.vm h0 T2.vm h7 := CR2.trans (CHr.wr W7 sf3 CR2.1)
  have Fw7 := ft6.same W7
  refine Go.st (f' := (mkF m 17 #[rv a0b, rv a1, iv 0, iv 0, .val .null, .unset] [])) (fun _ k => st7 _ k) ?_
  refine Go.st (f' := (mkF m 18 #[rv a0b, rv a1, iv 0, iv 0, .val .null, .unset] [(.ref a0b)])) (fun _ k => XS.aloadN X7.here hx rfl (hb hby d4_17) rfl rfl k) ?_
  have ft9 := (Nat.le_trans hk2 (Nat.le_of_eq W7.size.symm))
  obtain ⟨b8, T8, h8, k18, t8, kt8, X8, e8, E8, hS8, hk8, hZ8, hown8, A8, cq8, fq8, vq8, lt_b8, lt_t8, crw8, -, sfx8, st8⟩ := ldcCH (EL := EL) X7 hx hZ2 hown2 (hw _ (List.mem_of_getElem? (i := 25) rfl)) wS e7 hS2 ft9 hEL (List.mem_of_getElem? (i := 0) rfl) CR7.1 (vs := []) (z := (0 : Int32)) ⟨by decide, by decide⟩ (by decide) rfl (g := (mkF m 18 #[rv a0b, rv a1, iv 0, iv 0, .val .null, .unset] [(.ref a0b)])) rfl (hb hby d4_18) (n := 0) (by decide) (by decide) (by decide) (by decide)
  have ft10 := (Safe.wr W7 sf3 CR2.1 sf3)
  have ft11 := (Nat.lt_of_lt_of_eq (Nat.lt_of_lt_of_le lt_a0b E2.1) W7.size.symm)
  have O8 : Old Z n0 h8 := O7.ext E8
  have K8 : Keep h0 h8 [a0b] := K7.ext E8
  have sf12 := crw8.safe ft11 ft10
  have CR8 := CR7.trans crw8
  refine Go.st (f' := (mkF m 20 #[rv a0b, rv a1, iv 0, iv 0, .val .null, .unset] [(.ref b8), (.ref a0b)])) (fun _ k => st8 _ k) ?_
  obtain ⟨T13, X13, e13, st13⟩ := getF X8 hx hZ8 hown8 (host := "") (Or.inl (hw _ (List.mem_of_getElem? (i := 32) rfl))) Via.refl e8 cq8 (g := (mkF m 20 #[rv a0b, rv a1, iv 0, iv 0, .val .null, .unset] [(.ref b8), (.ref a0b)])) rfl rfl (hb hby d4_20)
  refine Go.st (f' := (mkF m 23 #[rv a0b, rv a1, iv 0, iv 0, .val .null, .unset] [(.int 0), (.ref a0b)])) (fun _ k => st13 _ k) ?_
  have ft14 := ((ft5.wr W7).ext E8)
  have ft15 := (((F_a0b_coder.ext E2).other W7 (Or.inr (slot_ne (Or.inr (hw _ (List.mem_of_getElem? (i := 28) rfl))) (Or.inr (hw _ (List.mem_of_getElem? (i := 27) rfl))) (by decide) (t := .byte) (t' := (.array .byte)) (by decide) (by decide)))).ext E8)
  obtain ⟨T16, h16, X16, e16, W16, st16⟩ := putFN X13 hx hZ8 hown8 (hw _ (List.mem_of_getElem? (i := 32) rfl)) Via.refl e13 ft15 ft14 (Or.inr ⟨(hw _ (List.mem_of_getElem? (i := 28) rfl)), rfl, hnm⟩) (hw _ (List.mem_of_getElem? (i := 12) rfl)) (ty := .byte) (v' := (.int (0 : Int32))) (by decide) rfl (by decide) (g := (mkF m 23 #[rv a0b, rv a1, iv 0, iv 0, .val .null, .unset] [(.int 0), (.ref a0b)])) rfl rfl (hb hby d4_23)
  have N16 := Fr.snoc X16 N7 g_a0b
  have O16 : Old Z n0 h16 := O8.wr W16 g_a0b
  have K16 : Keep h0 h16 [a0b] := K8.wr W16 (Or.inl (List.mem_of_getElem? (i := 0) rfl))
  have CR16 : CHr Z EL s.vm h0 T8.vm h16 := CR8.trans (CHr.wr W16 sf12 CR8.1)
  have Fw16 := ft15.same W16
  refine Go.st (f' := (mkF m 26 #[rv a0b, rv a1, iv 0, iv 0, .val .null, .unset] [])) (fun _ k => st16 _ k) ?_
  have ft17 := (Nat.le_trans hk8 (Nat.le_of_eq W16.size.symm))
  refine GoW.ret0 X16 hlk hx hret (hb hby d4_26) e16 hS8 ft17 hZ8 hEL CR16 hh ?_ (by decide) (by decide)
  have ft18 := (ft14.wr W16)
  have ft19 := ((Fw7.ext E8).other W16 (Or.inr (slot_ne (Or.inr (hw _ (List.mem_of_getElem? (i := 27) rfl))) (Or.inr (hw _ (List.mem_of_getElem? (i := 28) rfl))) (by decide) (t := (.array .byte)) (t' := .byte) (by decide) (by decide))))
  have ft20 := (((vq2.other W7 (Ne.symm (sfx2 _ sf3).2)).ext E8).other W16 (Ne.symm (sfx2 _ sf3).2))
  exact ⟨rfl, N16, K16, ft18, Fw16, t2, kt2, ft19, ft20⟩
set_option maxRecDepth 65536 in
set_option maxHeartbeats 40000000 in
theorem s1_0 (l : Launch) (Z : State) (a0 : Array Value) (hw : ∀ d ∈ tables_1, d.before a0 Z = true) (ws : List Jvm.Cond) (a0b : Addr) (a1 : Addr) (k1 : ClassId) (w_NUMBER : Addr) (w_SYMBOL : Addr) (w_NAME : Addr) (w_END : Addr) (w_STRING : Addr) (i_COMPACT_STRINGS : Int32) (v_SIOOBE_FORMATTER : Value) (h0 : Heap) (n0 : Nat) (O0 : Old Z n0 h0) (g_a0b : n0 ≤ a0b) (E_a0b : Exa Z h0 a0b "java/lang/String") (F_a0b_coder : Fld Z h0 a0b "java/lang/String" "coder" "B" (.int 0)) (F_a0b_value : Fld Z h0 a0b "java/lang/String" "value" "[B" .null) (V_a1 : Arv Z h0 a1 k1 .char (0 : Int32) [] (.int 0)) (WW : World1 Z w_NUMBER w_SYMBOL w_NAME w_END w_STRING i_COMPACT_STRINGS v_SIOOBE_FORMATTER) :
    ConW l Z EL (⟨"java/lang/String", "<init>", "([C)V"⟩ : MethodName) jdk_42_method_3_code 2 none ws ({ frames := 2, cells := 4, slots := 8, locals := 29 } : Room) #[(.ref a0b), (.ref a1)] h0 (fun v h L => v = none ∧ Fr n0 L ∧ Keep h0 h [a0b] ∧ Exa Z h a0b "java/lang/String" ∧ Fld Z h a0b "java/lang/String" "coder" "B" (.int 0) ∧ ∃ (t : Addr) (kt : ClassId), Fld Z h a0b "java/lang/String" "value" "[B" (.ref t) ∧ Arv Z h t kt .byte (0 : Int32) [] (.int 0)) := by
  refine own_bodyW (plainFor_of_name pn_java_lang_String) ?_
  intro p e s m below meth c s₁ hx hby hml hZ hown hnm hlk hret X0 e0 hh hS CR0
  have hEL := own_EL hw
  have wS := own_wS hw
  have N0 := Fr.nil n0
  have K0 : Keep h0 h0 [a0b] := Keep.refl _ _
  refine Go.st (T' := s₁) (f' := (mkF m 0 #[rv a0b, rv a1] [])) (fun _ k => castTop (by first | (simp [entryFrame, mkF, argsToLocals, Value.category]; done) | rfl) k) ?_
  have ⟨S_i_COMPACT_STRINGS, nz_i_COMPACT_STRINGS, S_v_SIOOBE_FORMATTER, r_v_SIOOBE_FORMATTER, S_w_NUMBER, E_w_NUMBER, S_w_SYMBOL, E_w_SYMBOL, S_w_NAME, E_w_NAME, S_w_END, E_w_END, S_w_STRING, E_w_STRING, F_w_NUMBER_ordinal, F_w_SYMBOL_ordinal, F_w_NAME_ordinal, F_w_END_ordinal, F_w_STRING_ordinal⟩ := WW
  have lt_w_NUMBER := E_w_NUMBER.lt
  have lt_w_SYMBOL := E_w_SYMBOL.lt
  have lt_w_NAME := E_w_NAME.lt
  have lt_w_END := E_w_END.lt
  have lt_w_STRING := E_w_STRING.lt
  have lt_a0b := E_a0b.lt
  have ne_w_NUMBER_a0b : w_NUMBER ≠ a0b := O0.ne lt_w_NUMBER g_a0b
  have ne_w_SYMBOL_a0b : w_SYMBOL ≠ a0b := O0.ne lt_w_SYMBOL g_a0b
  have ne_w_NAME_a0b : w_NAME ≠ a0b := O0.ne lt_w_NAME g_a0b
  have ne_w_END_a0b : w_END ≠ a0b := O0.ne lt_w_END g_a0b
  have ne_w_STRING_a0b : w_STRING ≠ a0b := O0.ne lt_w_STRING g_a0b
  have sf_a0b : Safe Z EL s.vm h0 a0b := own_safe0 hZ.alike E_a0b F_a0b_value
  have lt_a1 := V_a1.lt
  have nt_a0b_a1 : a0b ≠ a1 := Exa.neArv E_a0b V_a1 (hw _ (List.mem_of_getElem? (i := 12) rfl))
  refine Go.st (f' := (mkF m 1 #[rv a0b, rv a1] [(.ref a0b)])) (fun _ k => XS.aloadN X0.here hx rfl (hb hby d3_0) rfl rfl k) ?_
  refine Go.st (f' := (mkF m 2 #[rv a0b, rv a1] [(.ref a1), (.ref a0b)])) (fun _ k => XS.aloadN X0.here hx rfl (hb hby d3_1) rfl rfl k) ?_
  refine Go.st (f' := (mkF m 3 #[rv a0b, rv a1] [(.int 0), (.ref a1), (.ref a0b)])) (fun _ k => XS.iconst X0.here hx rfl (hb hby d3_2) k) ?_
  refine Go.st (f' := (mkF m 4 #[rv a0b, rv a1] [(.ref a1), (.int 0), (.ref a1), (.ref a0b)])) (fun _ k => XS.aloadN X0.here hx rfl (hb hby d3_3) rfl rfl k) ?_
  obtain ⟨cl1, Ar1, -, S1, Nx1, -, -⟩ := id V_a1
  refine Go.st (T' := s₁) (f' := (mkF m 5 #[rv a0b, rv a1] [(.int 0), (.int 0), (.ref a1), (.ref a0b)])) (fun _ k => X0.arraylength hx (by rw [e0]; exact Ar1.1) (State.isArrayOf_alike hZ.alike Ar1.2.1) (g := (mkF m 4 #[rv a0b, rv a1] [(.ref a1), (.int 0), (.ref a1), (.ref a0b)])) rfl rfl (hb hby d3_4) _ (by rw [len_of S1 Nx1]; exact k)) ?_
  refine Go.st (f' := (mkF m 6 #[rv a0b, rv a1] [.null, (.int 0), (.int 0), (.ref a1), (.ref a0b)])) (fun _ k => XS.aconstNull X0.here hx rfl (hb hby d3_5) k) ?_
  obtain ⟨_, _, ⟨T2, L2, kk2, nn2⟩, -, Xw2, hSw2, hgw2, ⟨Lc2, hQ2, lq2, yq2, zz2, crw2⟩, st2⟩ := X0.specialBackS hx (y := (⟨"java/lang/String", "<init>", "([CIILjava/lang/Void;)V"⟩ : MethodName)) rfl hown (mvT hZ (hw _ (List.mem_of_getElem? (i := 18) rfl))) (mvT hZ (hw _ (List.mem_of_getElem? (i := 19) rfl))) (mvT hZ (hw _ (List.mem_of_getElem? (i := 21) rfl))) (by decide) (own_backW (W := 0) (sv_0 l Z a0 hw [] a0b a1 w_NUMBER w_SYMBOL w_NAME w_END w_STRING i_COMPACT_STRINGS v_SIOOBE_FORMATTER h0 n0 O0 g_a0b E_a0b F_a0b_coder F_a0b_value WW) hZ (hw _ (List.mem_of_getElem? (i := 21) rfl)) (hw _ (List.mem_of_getElem? (i := 13) rfl)) (by decide) (by decide) hEL CR0.1) (g := (mkF m 6 #[rv a0b, rv a1] [.null, (.int 0), (.int 0), (.ref a1), (.ref a0b)])) rfl (by rw [hml]; rfl) (Steps.refl _) (a := a0b) (argsL := [(.ref a1), (.int (0 : Int32)), (.int (0 : Int32)), .null]) (rest := []) (lenOf pd___CIILjava_lang_Void__V rfl) rfl (by show 2 * 0 + _ ≤ _; exact Nat.le_of_eq rfl) (hb hby d3_6) (fun _ _ => ⟨rfl, e0, (by decide : 0 + 4 ≤ _), (by decide : 0 + 8 ≤ _)⟩)
  dsimp only [Pt.U, Pt.locs, Pt.cells, Pt.slots] at Xw2 lq2 yq2 zz2 st2 hQ2 hSw2 hgw2 crw2
  subst lq2 yq2 zz2
  obtain ⟨X2, hS2, hZ2, hown2⟩ := rebS hS (by rw [e0]; exact (Nat.zero_le _)) Xw2 hSw2 hgw2 hZ hown
  obtain ⟨rfl, Nq2, kq2, eq2, cq2, tt2, kt2, fq2, vq2⟩ := hQ2
  have N2 := Fr.app N0 Nq2
  have O2 : Old Z n0 T2.heap := O0.keep kq2 (allS g_a0b all0)
  have K2 : Keep h0 T2.heap [a0b] := K0.trans kq2 (allS (Or.inl (List.mem_of_getElem? (i := 0) rfl)) all0)
  have lt_tt2 := vq2.lt
  have nt_a0b_tt2 : a0b ≠ tt2 := Exa.neArv eq2 vq2 (hw _ (List.mem_of_getElem? (i := 12) rfl))
  have ft3 := (V_a1.keep kq2 (ninS (Ne.symm nt_a0b_a1) nin0))
  have nt_a1_tt2 : a1 ≠ tt2 := own_neArv ft3 vq2 (by decide)
  have hk2 : T2.heap.size ≤ T2.heap.size := Nat.le_refl _
  have sf4 := crw2.safe lt_a0b sf_a0b
  have CR2 := CR0.trans crw2
  refine Go.tr (f' := (mkF m 9 #[rv a0b, rv a1] [])) st2 ?_
  refine GoW.ret0 X2 hlk hx hret (hb hby d3_9) rfl hS2 hk2 hZ2 hEL CR2 hh ?_ (by decide) (by decide)
  exact ⟨rfl, N2, K2, eq2, cq2, tt2, kt2, fq2, vq2⟩
theorem pn_java_lang_StringLatin1 : plainName "java/lang/StringLatin1" = true := by first | (simp [plainName, overriddenIn]; done) | decide +kernel
theorem d13_0 : decode jdk_43_method_13_code 0 = .ok (.aload_n 0, 1) := by decide +kernel
theorem d13_1 : decode jdk_43_method_13_code 1 = .ok (.arraylength, 1) := by decide +kernel
theorem d13_2 : decode jdk_43_method_13_code 2 = .ok (.aload_n 1, 1) := by decide +kernel
theorem d13_3 : decode jdk_43_method_13_code 3 = .ok (.arraylength, 1) := by decide +kernel
theorem d13_4 : decode jdk_43_method_13_code 4 = .ok (.if_icmp .ne 30, 3) := by decide +kernel
theorem d13_7 : decode jdk_43_method_13_code 7 = .ok (.iconst 0, 1) := by decide +kernel
theorem d13_8 : decode jdk_43_method_13_code 8 = .ok (.istore_n 2, 1) := by decide +kernel
theorem d13_9 : decode jdk_43_method_13_code 9 = .ok (.iload_n 2, 1) := by decide +kernel
theorem d13_10 : decode jdk_43_method_13_code 10 = .ok (.aload_n 0, 1) := by decide +kernel
theorem d13_11 : decode jdk_43_method_13_code 11 = .ok (.arraylength, 1) := by decide +kernel
theorem d13_12 : decode jdk_43_method_13_code 12 = .ok (.if_icmp .ge 20, 3) := by decide +kernel
theorem d13_32 : decode jdk_43_method_13_code 32 = .ok (.iconst 1, 1) := by decide +kernel
theorem d13_33 : decode jdk_43_method_13_code 33 = .ok (.ireturn, 1) := by decide +kernel
def elI_0_0  : Int32 := (1 : Int32)
set_option maxRecDepth 65536 in
set_option maxHeartbeats 40000000 in
theorem el_0_0 (l : Launch) (Z : State) (a0 : Array Value) (hw : ∀ d ∈ tables_1, d.before a0 Z = true) (ws : List Jvm.Cond) (t1 : Addr) (k1 : ClassId) (t2 : Addr) (k2 : ClassId) (h0 : Heap) (n0 : Nat) (O0 : Old Z n0 h0) (V_t1 : Arv Z h0 t1 k1 .byte (0 : Int32) [] (.int 0)) (V_t2 : Arv Z h0 t2 k2 .byte (0 : Int32) [] (.int 0)) :
    Con l Z (⟨"java/lang/StringLatin1", "equals", "([B[B)Z"⟩ : MethodName) jdk_43_method_13_code 3 (some .boolean) ws ({ frames := 0, cells := 0, slots := 0, locals := 0 } : Room) #[(.ref t1), (.ref t2)] h0 (fun v h L => v = some (.int (elI_0_0 )) ∧ Fr n0 L ∧ h = h0) := by
  refine own_body (plainFor_of_name pn_java_lang_StringLatin1) ?_
  intro p e s m below meth c s₁ hx hby hml hZ hown hnm hlk hret X0 e0
  have N0 := Fr.nil n0
  refine Go.st (T' := s₁) (f' := (mkF m 0 #[rv t1, rv t2, .unset] [])) (fun _ k => castTop (by first | (simp [entryFrame, mkF, argsToLocals, Value.category]; done) | rfl) k) ?_
  have lt_t1 := V_t1.lt
  have lt_t2 := V_t2.lt
  refine Go.st (f' := (mkF m 1 #[rv t1, rv t2, .unset] [(.ref t1)])) (fun _ k => XS.aloadN X0.here hx rfl (hb hby d13_0) rfl rfl k) ?_
  obtain ⟨cl1, Ar1, -, S1, Nx1, -, -⟩ := id V_t1
  refine Go.st (T' := s₁) (f' := (mkF m 2 #[rv t1, rv t2, .unset] [(.int 0)])) (fun _ k => X0.arraylength hx (by rw [e0]; exact Ar1.1) (State.isArrayOf_alike hZ.alike Ar1.2.1) (g := (mkF m 1 #[rv t1, rv t2, .unset] [(.ref t1)])) rfl rfl (hb hby d13_1) _ (by rw [len_of S1 Nx1]; exact k)) ?_
  refine Go.st (f' := (mkF m 3 #[rv t1, rv t2, .unset] [(.ref t2), (.int 0)])) (fun _ k => XS.aloadN X0.here hx rfl (hb hby d13_2) rfl rfl k) ?_
  obtain ⟨cl2, Ar2, -, S2, Nx2, -, -⟩ := id V_t2
  refine Go.st (T' := s₁) (f' := (mkF m 4 #[rv t1, rv t2, .unset] [(.int 0), (.int 0)])) (fun _ k => X0.arraylength hx (by rw [e0]; exact Ar2.1) (State.isArrayOf_alike hZ.alike Ar2.2.1) (g := (mkF m 3 #[rv t1, rv t2, .unset] [(.ref t2), (.int 0)])) rfl rfl (hb hby d13_3) _ (by rw [len_of S2 Nx2]; exact k)) ?_
  refine Go.st (f' := (mkF m 7 #[rv t1, rv t2, .unset] [])) (fun _ k => XS.icmpNo X0.here hx rfl (hb hby d13_4) rfl (by decide) k) ?_
  refine Go.st (f' := (mkF m 8 #[rv t1, rv t2, .unset] [(.int 0)])) (fun _ k => XS.iconst X0.here hx rfl (hb hby d13_7) k) ?_
  refine Go.st (f' := (mkF m 9 #[rv t1, rv t2, iv 0] [])) (fun _ k => XS.istoreN X0.here hx rfl (hb hby d13_8) rfl (l' := #[rv t1, rv t2, iv 0]) rfl k) ?_
  refine Go.st (f' := (mkF m 10 #[rv t1, rv t2, iv 0] [(.int 0)])) (fun _ k => XS.iloadN X0.here hx rfl (hb hby d13_9) rfl k) ?_
  refine Go.st (f' := (mkF m 11 #[rv t1, rv t2, iv 0] [(.ref t1), (.int 0)])) (fun _ k => XS.aloadN X0.here hx rfl (hb hby d13_10) rfl rfl k) ?_
  obtain ⟨cl3, Ar3, -, S3, Nx3, -, -⟩ := id V_t1
  refine Go.st (T' := s₁) (f' := (mkF m 12 #[rv t1, rv t2, iv 0] [(.int 0), (.int 0)])) (fun _ k => X0.arraylength hx (by rw [e0]; exact Ar3.1) (State.isArrayOf_alike hZ.alike Ar3.2.1) (g := (mkF m 11 #[rv t1, rv t2, iv 0] [(.ref t1), (.int 0)])) rfl rfl (hb hby d13_11) _ (by rw [len_of S3 Nx3]; exact k)) ?_
  refine Go.st (f' := (mkF m 32 #[rv t1, rv t2, iv 0] [])) (fun _ k => XS.icmpYes X0.here hx rfl (pc0 := 12) (pc' := 32) rfl (hb hby d13_12) rfl (by decide) (by decide) (by decide) k) ?_
  refine Go.st (f' := (mkF m 33 #[rv t1, rv t2, iv 0] [(.int 1)])) (fun _ k => XS.iconst X0.here hx rfl (hb hby d13_32) k) ?_
  refine Go.retB X0 hlk hx (t := .boolean) hret (by simp) (hb hby d13_33) e0 ?_ (by decide) (by decide)
  show (some (.int (1 : Int32)) : Option Value) = some (.int (elI_0_0 )) ∧ _
  exact ⟨by rw [elI_0_0], N0, rfl⟩
theorem d13_34 : decode jdk_43_method_13_code 34 = .ok (.iconst 0, 1) := by decide +kernel
theorem d13_35 : decode jdk_43_method_13_code 35 = .ok (.ireturn, 1) := by decide +kernel
def elI_0_1 (y0 : Int32) : Int32 := (0 : Int32)
set_option maxRecDepth 65536 in
set_option maxHeartbeats 40000000 in
theorem el_0_1 (l : Launch) (Z : State) (a0 : Array Value) (hw : ∀ d ∈ tables_1, d.before a0 Z = true) (ws : List Jvm.Cond) (t1 : Addr) (k1 : ClassId) (t2 : Addr) (k2 : ClassId) (y0 : Int32) (h0 : Heap) (n0 : Nat) (O0 : Old Z n0 h0) (V_t1 : Arv Z h0 t1 k1 .byte (0 : Int32) [] (.int 0)) (V_t2 : Arv Z h0 t2 k2 .byte (1 : Int32) [(.int y0)] (.int 0)) :
    Con l Z (⟨"java/lang/StringLatin1", "equals", "([B[B)Z"⟩ : MethodName) jdk_43_method_13_code 3 (some .boolean) ws ({ frames := 0, cells := 0, slots := 0, locals := 0 } : Room) #[(.ref t1), (.ref t2)] h0 (fun v h L => v = some (.int (elI_0_1 y0)) ∧ Fr n0 L ∧ h = h0) := by
  refine own_body (plainFor_of_name pn_java_lang_StringLatin1) ?_
  intro p e s m below meth c s₁ hx hby hml hZ hown hnm hlk hret X0 e0
  have N0 := Fr.nil n0
  refine Go.st (T' := s₁) (f' := (mkF m 0 #[rv t1, rv t2, .unset] [])) (fun _ k => castTop (by first | (simp [entryFrame, mkF, argsToLocals, Value.category]; done) | rfl) k) ?_
  have lt_t1 := V_t1.lt
  have lt_t2 := V_t2.lt
  refine Go.st (f' := (mkF m 1 #[rv t1, rv t2, .unset] [(.ref t1)])) (fun _ k => XS.aloadN X0.here hx rfl (hb hby d13_0) rfl rfl k) ?_
  obtain ⟨cl1, Ar1, -, S1, Nx1, -, -⟩ := id V_t1
  refine Go.st (T' := s₁) (f' := (mkF m 2 #[rv t1, rv t2, .unset] [(.int 0)])) (fun _ k => X0.arraylength hx (by rw [e0]; exact Ar1.1) (State.isArrayOf_alike hZ.alike Ar1.2.1) (g := (mkF m 1 #[rv t1, rv t2, .unset] [(.ref t1)])) rfl rfl (hb hby d13_1) _ (by rw [len_of S1 Nx1]; exact k)) ?_
  refine Go.st (f' := (mkF m 3 #[rv t1, rv t2, .unset] [(.ref t2), (.int 0)])) (fun _ k => XS.aloadN X0.here hx rfl (hb hby d13_2) rfl rfl k) ?_
  obtain ⟨cl2, Ar2, -, S2, Nx2, -, -⟩ := id V_t2
  refine Go.st (T' := s₁) (f' := (mkF m 4 #[rv t1, rv t2, .unset] [(.int 1), (.int 0)])) (fun _ k => X0.arraylength hx (by rw [e0]; exact Ar2.1) (State.isArrayOf_alike hZ.alike Ar2.2.1) (g := (mkF m 3 #[rv t1, rv t2, .unset] [(.ref t2), (.int 0)])) rfl rfl (hb hby d13_3) _ (by rw [len_of S2 Nx2]; exact k)) ?_
  refine Go.st (f' := (mkF m 34 #[rv t1, rv t2, .unset] [])) (fun _ k => XS.icmpYes X0.here hx rfl (pc0 := 4) (pc' := 34) rfl (hb hby d13_4) rfl (by decide) (by decide) (by decide) k) ?_
  refine Go.st (f' := (mkF m 35 #[rv t1, rv t2, .unset] [(.int 0)])) (fun _ k => XS.iconst X0.here hx rfl (hb hby d13_34) k) ?_
  refine Go.retB X0 hlk hx (t := .boolean) hret (by simp) (hb hby d13_35) e0 ?_ (by decide) (by decide)
  show (some (.int (0 : Int32)) : Option Value) = some (.int (elI_0_1 y0)) ∧ _
  exact ⟨by rw [elI_0_1], N0, rfl⟩
def elI_0_2 (y0 : Int32) (y1 : Int32) : Int32 := (0 : Int32)
set_option maxRecDepth 65536 in
set_option maxHeartbeats 40000000 in
theorem el_0_2 (l : Launch) (Z : State) (a0 : Array Value) (hw : ∀ d ∈ tables_1, d.before a0 Z = true) (ws : List Jvm.Cond) (t1 : Addr) (k1 : ClassId) (t2 : Addr) (k2 : ClassId) (y0 : Int32) (y1 : Int32) (h0 : Heap) (n0 : Nat) (O0 : Old Z n0 h0) (V_t1 : Arv Z h0 t1 k1 .byte (0 : Int32) [] (.int 0)) (V_t2 : Arv Z h0 t2 k2 .byte (2 : Int32) [(.int y0), (.int y1)] (.int 0)) :
    Con l Z (⟨"java/lang/StringLatin1", "equals", "([B[B)Z"⟩ : MethodName) jdk_43_method_13_code 3 (some .boolean) ws ({ frames := 0, cells := 0, slots := 0, locals := 0 } : Room) #[(.ref t1), (.ref t2)] h0 (fun v h L => v = some (.int (elI_0_2 y0 y1)) ∧ Fr n0 L ∧ h = h0) := by
  refine own_body (plainFor_of_name pn_java_lang_StringLatin1) ?_
  intro p e s m below meth c s₁ hx hby hml hZ hown hnm hlk hret X0 e0
  have N0 := Fr.nil n0
  refine Go.st (T' := s₁) (f' := (mkF m 0 #[rv t1, rv t2, .unset] [])) (fun _ k => castTop (by first | (simp [entryFrame, mkF, argsToLocals, Value.category]; done) | rfl) k) ?_
  have lt_t1 := V_t1.lt
  have lt_t2 := V_t2.lt
  refine Go.st (f' := (mkF m 1 #[rv t1, rv t2, .unset] [(.ref t1)])) (fun _ k => XS.aloadN X0.here hx rfl (hb hby d13_0) rfl rfl k) ?_
  obtain ⟨cl1, Ar1, -, S1, Nx1, -, -⟩ := id V_t1
  refine Go.st (T' := s₁) (f' := (mkF m 2 #[rv t1, rv t2, .unset] [(.int 0)])) (fun _ k => X0.arraylength hx (by rw [e0]; exact Ar1.1) (State.isArrayOf_alike hZ.alike Ar1.2.1) (g := (mkF m 1 #[rv t1, rv t2, .unset] [(.ref t1)])) rfl rfl (hb hby d13_1) _ (by rw [len_of S1 Nx1]; exact k)) ?_
  refine Go.st (f' := (mkF m 3 #[rv t1, rv t2, .unset] [(.ref t2), (.int 0)])) (fun _ k => XS.aloadN X0.here hx rfl (hb hby d13_2) rfl rfl k) ?_
  obtain ⟨cl2, Ar2, -, S2, Nx2, -, -⟩ := id V_t2
  refine Go.st (T' := s₁) (f' := (mkF m 4 #[rv t1, rv t2, .unset] [(.int 2), (.int 0)])) (fun _ k => X0.arraylength hx (by rw [e0]; exact Ar2.1) (State.isArrayOf_alike hZ.alike Ar2.2.1) (g := (mkF m 3 #[rv t1, rv t2, .unset] [(.ref t2), (.int 0)])) rfl rfl (hb hby d13_3) _ (by rw [len_of S2 Nx2]; exact k)) ?_
  refine Go.st (f' := (mkF m 34 #[rv t1, rv t2, .unset] [])) (fun _ k => XS.icmpYes X0.here hx rfl (pc0 := 4) (pc' := 34) rfl (hb hby d13_4) rfl (by decide) (by decide) (by decide) k) ?_
  refine Go.st (f' := (mkF m 35 #[rv t1, rv t2, .unset] [(.int 0)])) (fun _ k => XS.iconst X0.here hx rfl (hb hby d13_34) k) ?_
  refine Go.retB X0 hlk hx (t := .boolean) hret (by simp) (hb hby d13_35) e0 ?_ (by decide) (by decide)
  show (some (.int (0 : Int32)) : Option Value) = some (.int (elI_0_2 y0 y1)) ∧ _
  exact ⟨by rw [elI_0_2], N0, rfl⟩
def elI_1_0 (x0 : Int32) : Int32 := (0 : Int32)
set_option maxRecDepth 65536 in
set_option maxHeartbeats 40000000 in
theorem el_1_0 (l : Launch) (Z : State) (a0 : Array Value) (hw : ∀ d ∈ tables_1, d.before a0 Z = true) (ws : List Jvm.Cond) (t1 : Addr) (k1 : ClassId) (t2 : Addr) (k2 : ClassId) (x0 : Int32) (h0 : Heap) (n0 : Nat) (O0 : Old Z n0 h0) (V_t1 : Arv Z h0 t1 k1 .byte (1 : Int32) [(.int x0)] (.int 0)) (V_t2 : Arv Z h0 t2 k2 .byte (0 : Int32) [] (.int 0)) :
    Con l Z (⟨"java/lang/StringLatin1", "equals", "([B[B)Z"⟩ : MethodName) jdk_43_method_13_code 3 (some .boolean) ws ({ frames := 0, cells := 0, slots := 0, locals := 0 } : Room) #[(.ref t1), (.ref t2)] h0 (fun v h L => v = some (.int (elI_1_0 x0)) ∧ Fr n0 L ∧ h = h0) := by
  refine own_body (plainFor_of_name pn_java_lang_StringLatin1) ?_
  intro p e s m below meth c s₁ hx hby hml hZ hown hnm hlk hret X0 e0
  have N0 := Fr.nil n0
  refine Go.st (T' := s₁) (f' := (mkF m 0 #[rv t1, rv t2, .unset] [])) (fun _ k => castTop (by first | (simp [entryFrame, mkF, argsToLocals, Value.category]; done) | rfl) k) ?_
  have lt_t1 := V_t1.lt
  have lt_t2 := V_t2.lt
  refine Go.st (f' := (mkF m 1 #[rv t1, rv t2, .unset] [(.ref t1)])) (fun _ k => XS.aloadN X0.here hx rfl (hb hby d13_0) rfl rfl k) ?_
  obtain ⟨cl1, Ar1, -, S1, Nx1, -, -⟩ := id V_t1
  refine Go.st (T' := s₁) (f' := (mkF m 2 #[rv t1, rv t2, .unset] [(.int 1)])) (fun _ k => X0.arraylength hx (by rw [e0]; exact Ar1.1) (State.isArrayOf_alike hZ.alike Ar1.2.1) (g := (mkF m 1 #[rv t1, rv t2, .unset] [(.ref t1)])) rfl rfl (hb hby d13_1) _ (by rw [len_of S1 Nx1]; exact k)) ?_
  refine Go.st (f' := (mkF m 3 #[rv t1, rv t2, .unset] [(.ref t2), (.int 1)])) (fun _ k => XS.aloadN X0.here hx rfl (hb hby d13_2) rfl rfl k) ?_
  obtain ⟨cl2, Ar2, -, S2, Nx2, -, -⟩ := id V_t2
  refine Go.st (T' := s₁) (f' := (mkF m 4 #[rv t1, rv t2, .unset] [(.int 0), (.int 1)])) (fun _ k => X0.arraylength hx (by rw [e0]; exact Ar2.1) (State.isArrayOf_alike hZ.alike Ar2.2.1) (g := (mkF m 3 #[rv t1, rv t2, .unset] [(.ref t2), (.int 1)])) rfl rfl (hb hby d13_3) _ (by rw [len_of S2 Nx2]; exact k)) ?_
  refine Go.st (f' := (mkF m 34 #[rv t1, rv t2, .unset] [])) (fun _ k => XS.icmpYes X0.here hx rfl (pc0 := 4) (pc' := 34) rfl (hb hby d13_4) rfl (by decide) (by decide) (by decide) k) ?_
  refine Go.st (f' := (mkF m 35 #[rv t1, rv t2, .unset] [(.int 0)])) (fun _ k => XS.iconst X0.here hx rfl (hb hby d13_34) k) ?_
  refine Go.retB X0 hlk hx (t := .boolean) hret (by simp) (hb hby d13_35) e0 ?_ (by decide) (by decide)
  show (some (.int (0 : Int32)) : Option Value) = some (.int (elI_1_0 x0)) ∧ _
  exact ⟨by rw [elI_1_0], N0, rfl⟩
theorem d13_15 : decode jdk_43_method_13_code 15 = .ok (.aload_n 0, 1) := by decide +kernel
theorem d13_16 : decode jdk_43_method_13_code 16 = .ok (.iload_n 2, 1) := by decide +kernel
theorem d13_17 : decode jdk_43_method_13_code 17 = .ok (.baload, 1) := by decide +kernel
theorem d13_18 : decode jdk_43_method_13_code 18 = .ok (.aload_n 1, 1) := by decide +kernel
theorem d13_19 : decode jdk_43_method_13_code 19 = .ok (.iload_n 2, 1) := by decide +kernel
theorem d13_20 : decode jdk_43_method_13_code 20 = .ok (.baload, 1) := by decide +kernel
theorem d13_21 : decode jdk_43_method_13_code 21 = .ok (.if_icmp .eq 5, 3) := by decide +kernel
theorem d13_26 : decode jdk_43_method_13_code 26 = .ok (.iinc 2 1, 3) := by decide +kernel
theorem d13_29 : decode jdk_43_method_13_code 29 = .ok (.goto (-20), 3) := by decide +kernel
theorem d13_24 : decode jdk_43_method_13_code 24 = .ok (.iconst 0, 1) := by decide +kernel
theorem d13_25 : decode jdk_43_method_13_code 25 = .ok (.ireturn, 1) := by decide +kernel
def elI_1_1 (x0 : Int32) (y0 : Int32) : Int32 := (if x0 = y0 then (1 : Int32) else (0 : Int32))
set_option maxRecDepth 65536 in
set_option maxHeartbeats 40000000 in
theorem el_1_1 (l : Launch) (Z : State) (a0 : Array Value) (hw : ∀ d ∈ tables_1, d.before a0 Z = true) (ws : List Jvm.Cond) (t1 : Addr) (k1 : ClassId) (t2 : Addr) (k2 : ClassId) (x0 : Int32) (y0 : Int32) (h0 : Heap) (n0 : Nat) (O0 : Old Z n0 h0) (V_t1 : Arv Z h0 t1 k1 .byte (1 : Int32) [(.int x0)] (.int 0)) (V_t2 : Arv Z h0 t2 k2 .byte (1 : Int32) [(.int y0)] (.int 0)) :
    Con l Z (⟨"java/lang/StringLatin1", "equals", "([B[B)Z"⟩ : MethodName) jdk_43_method_13_code 3 (some .boolean) ws ({ frames := 0, cells := 0, slots := 0, locals := 0 } : Room) #[(.ref t1), (.ref t2)] h0 (fun v h L => v = some (.int (elI_1_1 x0 y0)) ∧ Fr n0 L ∧ h = h0) := by
  refine own_body (plainFor_of_name pn_java_lang_StringLatin1) ?_
  intro p e s m below meth c s₁ hx hby hml hZ hown hnm hlk hret X0 e0
  have N0 := Fr.nil n0
  refine Go.st (T' := s₁) (f' := (mkF m 0 #[rv t1, rv t2, .unset] [])) (fun _ k => castTop (by first | (simp [entryFrame, mkF, argsToLocals, Value.category]; done) | rfl) k) ?_
  have lt_t1 := V_t1.lt
  have lt_t2 := V_t2.lt
  refine Go.st (f' := (mkF m 1 #[rv t1, rv t2, .unset] [(.ref t1)])) (fun _ k => XS.aloadN X0.here hx rfl (hb hby d13_0) rfl rfl k) ?_
  obtain ⟨cl1, Ar1, -, S1, Nx1, -, -⟩ := id V_t1
  refine Go.st (T' := s₁) (f' := (mkF m 2 #[rv t1, rv t2, .unset] [(.int 1)])) (fun _ k => X0.arraylength hx (by rw [e0]; exact Ar1.1) (State.isArrayOf_alike hZ.alike Ar1.2.1) (g := (mkF m 1 #[rv t1, rv t2, .unset] [(.ref t1)])) rfl rfl (hb hby d13_1) _ (by rw [len_of S1 Nx1]; exact k)) ?_
  refine Go.st (f' := (mkF m 3 #[rv t1, rv t2, .unset] [(.ref t2), (.int 1)])) (fun _ k => XS.aloadN X0.here hx rfl (hb hby d13_2) rfl rfl k) ?_
  obtain ⟨cl2, Ar2, -, S2, Nx2, -, -⟩ := id V_t2
  refine Go.st (T' := s₁) (f' := (mkF m 4 #[rv t1, rv t2, .unset] [(.int 1), (.int 1)])) (fun _ k => X0.arraylength hx (by rw [e0]; exact Ar2.1) (State.isArrayOf_alike hZ.alike Ar2.2.1) (g := (mkF m 3 #[rv t1, rv t2, .unset] [(.ref t2), (.int 1)])) rfl rfl (hb hby d13_3) _ (by rw [len_of S2 Nx2]; exact k)) ?_
  refine Go.st (f' := (mkF m 7 #[rv t1, rv t2, .unset] [])) (fun _ k => XS.icmpNo X0.here hx rfl (hb hby d13_4) rfl (by decide) k) ?_
  refine Go.st (f' := (mkF m 8 #[rv t1, rv t2, .unset] [(.int 0)])) (fun _ k => XS.iconst X0.here hx rfl (hb hby d13_7) k) ?_
  refine Go.st (f' := (mkF m 9 #[rv t1, rv t2, iv 0] [])) (fun _ k => XS.istoreN X0.here hx rfl (hb hby d13_8) rfl (l' := #[rv t1, rv t2, iv 0]) rfl k) ?_
  refine Go.st (f' := (mkF m 10 #[rv t1, rv t2, iv 0] [(.int 0)])) (fun _ k => XS.iloadN X0.here hx rfl (hb hby d13_9) rfl k) ?_
  refine Go.st (f' := (mkF m 11 #[rv t1, rv t2, iv 0] [(.ref t1), (.int 0)])) (fun _ k => XS.aloadN X0.here hx rfl (hb hby d13_10) rfl rfl k) ?_
  obtain ⟨cl3, Ar3, -, S3, Nx3, -, -⟩ := id V_t1
  refine Go.st (T' := s₁) (f' := (mkF m 12 #[rv t1, rv t2, iv 0] [(.int 1), (.int 0)])) (fun _ k => X0.arraylength hx (by rw [e0]; exact Ar3.1) (State.isArrayOf_alike hZ.alike Ar3.2.1) (g := (mkF m 11 #[rv t1, rv t2, iv 0] [(.ref t1), (.int 0)])) rfl rfl (hb hby d13_11) _ (by rw [len_of S3 Nx3]; exact k)) ?_
  refine Go.st (f' := (mkF m 15 #[rv t1, rv t2, iv 0] [])) (fun _ k => XS.icmpNo X0.here hx rfl (hb hby d13_12) rfl (by decide) k) ?_
  refine Go.st (f' := (mkF m 16 #[rv t1, rv t2, iv 0] [(.ref t1)])) (fun _ k => XS.aloadN X0.here hx rfl (hb hby d13_15) rfl rfl k) ?_
  refine Go.st (f' := (mkF m 17 #[rv t1, rv t2, iv 0] [(.int 0), (.ref t1)])) (fun _ k => XS.iloadN X0.here hx rfl (hb hby d13_16) rfl k) ?_
  obtain ⟨cl4, Ar4, -, S4, -, H4, -⟩ := id V_t1
  have hin4 : ¬ ((0 : Int32) < 0 ∨ cl4.slots.size ≤ ((0 : Int32)).toNatClampNeg) := inb_of S4 ⟨by decide, by decide⟩
  have hat4 : cl4.slots[((0 : Int32)).toNatClampNeg]? = some (.int x0) := H4.at hin4 rfl
  refine Go.st (f' := (mkF m 18 #[rv t1, rv t2, iv 0] [(.int x0)])) (fun _ k => X0.baloadBytes hx (j := (0 : Int32)) (v := (.int x0)) (by rw [e0]; exact Ar4.1) (State.isArrayOf_alike hZ.alike Ar4.2.1) Ar4.2.2 hin4 hat4 (g := (mkF m 17 #[rv t1, rv t2, iv 0] [(.int 0), (.ref t1)])) rfl rfl (hb hby d13_17) _ k) ?_
  refine Go.st (f' := (mkF m 19 #[rv t1, rv t2, iv 0] [(.ref t2), (.int x0)])) (fun _ k => XS.aloadN X0.here hx rfl (hb hby d13_18) rfl rfl k) ?_
  refine Go.st (f' := (mkF m 20 #[rv t1, rv t2, iv 0] [(.int 0), (.ref t2), (.int x0)])) (fun _ k => XS.iloadN X0.here hx rfl (hb hby d13_19) rfl k) ?_
  obtain ⟨cl5, Ar5, -, S5, -, H5, -⟩ := id V_t2
  have hin5 : ¬ ((0 : Int32) < 0 ∨ cl5.slots.size ≤ ((0 : Int32)).toNatClampNeg) := inb_of S5 ⟨by decide, by decide⟩
  have hat5 : cl5.slots[((0 : Int32)).toNatClampNeg]? = some (.int y0) := H5.at hin5 rfl
  refine Go.st (f' := (mkF m 21 #[rv t1, rv t2, iv 0] [(.int y0), (.int x0)])) (fun _ k => X0.baloadBytes hx (j := (0 : Int32)) (v := (.int y0)) (by rw [e0]; exact Ar5.1) (State.isArrayOf_alike hZ.alike Ar5.2.1) Ar5.2.2 hin5 hat5 (g := (mkF m 20 #[rv t1, rv t2, iv 0] [(.int 0), (.ref t2), (.int x0)])) rfl rfl (hb hby d13_20) _ k) ?_
  by_cases cd6 : x0 = y0
  · refine Go.st (f' := (mkF m 26 #[rv t1, rv t2, iv 0] [])) (fun _ k => XS.icmpYes X0.here hx rfl (pc0 := 21) (pc' := 26) rfl (hb hby d13_21) rfl (teq cd6).1 (by decide) (by decide) k) ?_
    refine Go.st (f' := (mkF m 29 #[rv t1, rv t2, iv 1] [])) (fun _ k => XS.iinc X0.here hx rfl (hb hby d13_26) rfl (l' := #[rv t1, rv t2, iv 1]) rfl k) ?_
    refine Go.st (f' := (mkF m 9 #[rv t1, rv t2, iv 1] [])) (fun _ k => XS.goto X0.here hx rfl (pc0 := 29) (pc' := 9) rfl (hb hby d13_29) (by decide) (by decide) k) ?_
    refine Go.st (f' := (mkF m 10 #[rv t1, rv t2, iv 1] [(.int 1)])) (fun _ k => XS.iloadN X0.here hx rfl (hb hby d13_9) rfl k) ?_
    refine Go.st (f' := (mkF m 11 #[rv t1, rv t2, iv 1] [(.ref t1), (.int 1)])) (fun _ k => XS.aloadN X0.here hx rfl (hb hby d13_10) rfl rfl k) ?_
    obtain ⟨cl7, Ar7, -, S7, Nx7, -, -⟩ := id V_t1
    refine Go.st (T' := s₁) (f' := (mkF m 12 #[rv t1, rv t2, iv 1] [(.int 1), (.int 1)])) (fun _ k => X0.arraylength hx (by rw [e0]; exact Ar7.1) (State.isArrayOf_alike hZ.alike Ar7.2.1) (g := (mkF m 11 #[rv t1, rv t2, iv 1] [(.ref t1), (.int 1)])) rfl rfl (hb hby d13_11) _ (by rw [len_of S7 Nx7]; exact k)) ?_
    refine Go.st (f' := (mkF m 32 #[rv t1, rv t2, iv 1] [])) (fun _ k => XS.icmpYes X0.here hx rfl (pc0 := 12) (pc' := 32) rfl (hb hby d13_12) rfl (by decide) (by decide) (by decide) k) ?_
    refine Go.st (f' := (mkF m 33 #[rv t1, rv t2, iv 1] [(.int 1)])) (fun _ k => XS.iconst X0.here hx rfl (hb hby d13_32) k) ?_
    refine Go.retB X0 hlk hx (t := .boolean) hret (by simp) (hb hby d13_33) e0 ?_ (by decide) (by decide)
    show (some (.int (1 : Int32)) : Option Value) = some (.int (elI_1_1 x0 y0)) ∧ _
    exact ⟨by rw [elI_1_1, if_pos cd6], N0, rfl⟩
  · refine Go.st (f' := (mkF m 24 #[rv t1, rv t2, iv 0] [])) (fun _ k => XS.icmpNo X0.here hx rfl (hb hby d13_21) rfl (feq cd6).1 k) ?_
    refine Go.st (f' := (mkF m 25 #[rv t1, rv t2, iv 0] [(.int 0)])) (fun _ k => XS.iconst X0.here hx rfl (hb hby d13_24) k) ?_
    refine Go.retB X0 hlk hx (t := .boolean) hret (by simp) (hb hby d13_25) e0 ?_ (by decide) (by decide)
    show (some (.int (0 : Int32)) : Option Value) = some (.int (elI_1_1 x0 y0)) ∧ _
    exact ⟨by rw [elI_1_1, if_neg cd6], N0, rfl⟩
def elI_1_2 (x0 : Int32) (y0 : Int32) (y1 : Int32) : Int32 := (0 : Int32)
set_option maxRecDepth 65536 in
set_option maxHeartbeats 40000000 in
theorem el_1_2 (l : Launch) (Z : State) (a0 : Array Value) (hw : ∀ d ∈ tables_1, d.before a0 Z = true) (ws : List Jvm.Cond) (t1 : Addr) (k1 : ClassId) (t2 : Addr) (k2 : ClassId) (x0 : Int32) (y0 : Int32) (y1 : Int32) (h0 : Heap) (n0 : Nat) (O0 : Old Z n0 h0) (V_t1 : Arv Z h0 t1 k1 .byte (1 : Int32) [(.int x0)] (.int 0)) (V_t2 : Arv Z h0 t2 k2 .byte (2 : Int32) [(.int y0), (.int y1)] (.int 0)) :
    Con l Z (⟨"java/lang/StringLatin1", "equals", "([B[B)Z"⟩ : MethodName) jdk_43_method_13_code 3 (some .boolean) ws ({ frames := 0, cells := 0, slots := 0, locals := 0 } : Room) #[(.ref t1), (.ref t2)] h0 (fun v h L => v = some (.int (elI_1_2 x0 y0 y1)) ∧ Fr n0 L ∧ h = h0) := by
  refine own_body (plainFor_of_name pn_java_lang_StringLatin1) ?_
  intro p e s m below meth c s₁ hx hby hml hZ hown hnm hlk hret X0 e0
  have N0 := Fr.nil n0
  refine Go.st (T' := s₁) (f' := (mkF m 0 #[rv t1, rv t2, .unset] [])) (fun _ k => castTop (by first | (simp [entryFrame, mkF, argsToLocals, Value.category]; done) | rfl) k) ?_
  have lt_t1 := V_t1.lt
  have lt_t2 := V_t2.lt
  refine Go.st (f' := (mkF m 1 #[rv t1, rv t2, .unset] [(.ref t1)])) (fun _ k => XS.aloadN X0.here hx rfl (hb hby d13_0) rfl rfl k) ?_
  obtain ⟨cl1, Ar1, -, S1, Nx1, -, -⟩ := id V_t1
  refine Go.st (T' := s₁) (f' := (mkF m 2 #[rv t1, rv t2, .unset] [(.int 1)])) (fun _ k => X0.arraylength hx (by rw [e0]; exact Ar1.1) (State.isArrayOf_alike hZ.alike Ar1.2.1) (g := (mkF m 1 #[rv t1, rv t2, .unset] [(.ref t1)])) rfl rfl (hb hby d13_1) _ (by rw [len_of S1 Nx1]; exact k)) ?_
  refine Go.st (f' := (mkF m 3 #[rv t1, rv t2, .unset] [(.ref t2), (.int 1)])) (fun _ k => XS.aloadN X0.here hx rfl (hb hby d13_2) rfl rfl k) ?_
  obtain ⟨cl2, Ar2, -, S2, Nx2, -, -⟩ := id V_t2
  refine Go.st (T' := s₁) (f' := (mkF m 4 #[rv t1, rv t2, .unset] [(.int 2), (.int 1)])) (fun _ k => X0.arraylength hx (by rw [e0]; exact Ar2.1) (State.isArrayOf_alike hZ.alike Ar2.2.1) (g := (mkF m 3 #[rv t1, rv t2, .unset] [(.ref t2), (.int 1)])) rfl rfl (hb hby d13_3) _ (by rw [len_of S2 Nx2]; exact k)) ?_
  refine Go.st (f' := (mkF m 34 #[rv t1, rv t2, .unset] [])) (fun _ k => XS.icmpYes X0.here hx rfl (pc0 := 4) (pc' := 34) rfl (hb hby d13_4) rfl (by decide) (by decide) (by decide) k) ?_
  refine Go.st (f' := (mkF m 35 #[rv t1, rv t2, .unset] [(.int 0)])) (fun _ k => XS.iconst X0.here hx rfl (hb hby d13_34) k) ?_
  refine Go.retB X0 hlk hx (t := .boolean) hret (by simp) (hb hby d13_35) e0 ?_ (by decide) (by decide)
  show (some (.int (0 : Int32)) : Option Value) = some (.int (elI_1_2 x0 y0 y1)) ∧ _
  exact ⟨by rw [elI_1_2], N0, rfl⟩
def elI_2_0 (x0 : Int32) (x1 : Int32) : Int32 := (0 : Int32)
set_option maxRecDepth 65536 in
set_option maxHeartbeats 40000000 in
theorem el_2_0 (l : Launch) (Z : State) (a0 : Array Value) (hw : ∀ d ∈ tables_1, d.before a0 Z = true) (ws : List Jvm.Cond) (t1 : Addr) (k1 : ClassId) (t2 : Addr) (k2 : ClassId) (x0 : Int32) (x1 : Int32) (h0 : Heap) (n0 : Nat) (O0 : Old Z n0 h0) (V_t1 : Arv Z h0 t1 k1 .byte (2 : Int32) [(.int x0), (.int x1)] (.int 0)) (V_t2 : Arv Z h0 t2 k2 .byte (0 : Int32) [] (.int 0)) :
    Con l Z (⟨"java/lang/StringLatin1", "equals", "([B[B)Z"⟩ : MethodName) jdk_43_method_13_code 3 (some .boolean) ws ({ frames := 0, cells := 0, slots := 0, locals := 0 } : Room) #[(.ref t1), (.ref t2)] h0 (fun v h L => v = some (.int (elI_2_0 x0 x1)) ∧ Fr n0 L ∧ h = h0) := by
  refine own_body (plainFor_of_name pn_java_lang_StringLatin1) ?_
  intro p e s m below meth c s₁ hx hby hml hZ hown hnm hlk hret X0 e0
  have N0 := Fr.nil n0
  refine Go.st (T' := s₁) (f' := (mkF m 0 #[rv t1, rv t2, .unset] [])) (fun _ k => castTop (by first | (simp [entryFrame, mkF, argsToLocals, Value.category]; done) | rfl) k) ?_
  have lt_t1 := V_t1.lt
  have lt_t2 := V_t2.lt
  refine Go.st (f' := (mkF m 1 #[rv t1, rv t2, .unset] [(.ref t1)])) (fun _ k => XS.aloadN X0.here hx rfl (hb hby d13_0) rfl rfl k) ?_
  obtain ⟨cl1, Ar1, -, S1, Nx1, -, -⟩ := id V_t1
  refine Go.st (T' := s₁) (f' := (mkF m 2 #[rv t1, rv t2, .unset] [(.int 2)])) (fun _ k => X0.arraylength hx (by rw [e0]; exact Ar1.1) (State.isArrayOf_alike hZ.alike Ar1.2.1) (g := (mkF m 1 #[rv t1, rv t2, .unset] [(.ref t1)])) rfl rfl (hb hby d13_1) _ (by rw [len_of S1 Nx1]; exact k)) ?_
  refine Go.st (f' := (mkF m 3 #[rv t1, rv t2, .unset] [(.ref t2), (.int 2)])) (fun _ k => XS.aloadN X0.here hx rfl (hb hby d13_2) rfl rfl k) ?_
  obtain ⟨cl2, Ar2, -, S2, Nx2, -, -⟩ := id V_t2
  refine Go.st (T' := s₁) (f' := (mkF m 4 #[rv t1, rv t2, .unset] [(.int 0), (.int 2)])) (fun _ k => X0.arraylength hx (by rw [e0]; exact Ar2.1) (State.isArrayOf_alike hZ.alike Ar2.2.1) (g := (mkF m 3 #[rv t1, rv t2, .unset] [(.ref t2), (.int 2)])) rfl rfl (hb hby d13_3) _ (by rw [len_of S2 Nx2]; exact k)) ?_
  refine Go.st (f' := (mkF m 34 #[rv t1, rv t2, .unset] [])) (fun _ k => XS.icmpYes X0.here hx rfl (pc0 := 4) (pc' := 34) rfl (hb hby d13_4) rfl (by decide) (by decide) (by decide) k) ?_
  refine Go.st (f' := (mkF m 35 #[rv t1, rv t2, .unset] [(.int 0)])) (fun _ k => XS.iconst X0.here hx rfl (hb hby d13_34) k) ?_
  refine Go.retB X0 hlk hx (t := .boolean) hret (by simp) (hb hby d13_35) e0 ?_ (by decide) (by decide)
  show (some (.int (0 : Int32)) : Option Value) = some (.int (elI_2_0 x0 x1)) ∧ _
  exact ⟨by rw [elI_2_0], N0, rfl⟩
def elI_2_1 (x0 : Int32) (x1 : Int32) (y0 : Int32) : Int32 := (0 : Int32)
set_option maxRecDepth 65536 in
set_option maxHeartbeats 40000000 in
theorem el_2_1 (l : Launch) (Z : State) (a0 : Array Value) (hw : ∀ d ∈ tables_1, d.before a0 Z = true) (ws : List Jvm.Cond) (t1 : Addr) (k1 : ClassId) (t2 : Addr) (k2 : ClassId) (x0 : Int32) (x1 : Int32) (y0 : Int32) (h0 : Heap) (n0 : Nat) (O0 : Old Z n0 h0) (V_t1 : Arv Z h0 t1 k1 .byte (2 : Int32) [(.int x0), (.int x1)] (.int 0)) (V_t2 : Arv Z h0 t2 k2 .byte (1 : Int32) [(.int y0)] (.int 0)) :
    Con l Z (⟨"java/lang/StringLatin1", "equals", "([B[B)Z"⟩ : MethodName) jdk_43_method_13_code 3 (some .boolean) ws ({ frames := 0, cells := 0, slots := 0, locals := 0 } : Room) #[(.ref t1), (.ref t2)] h0 (fun v h L => v = some (.int (elI_2_1 x0 x1 y0)) ∧ Fr n0 L ∧ h = h0) := by
  refine own_body (plainFor_of_name pn_java_lang_StringLatin1) ?_
  intro p e s m below meth c s₁ hx hby hml hZ hown hnm hlk hret X0 e0
  have N0 := Fr.nil n0
  refine Go.st (T' := s₁) (f' := (mkF m 0 #[rv t1, rv t2, .unset] [])) (fun _ k => castTop (by first | (simp [entryFrame, mkF, argsToLocals, Value.category]; done) | rfl) k) ?_
  have lt_t1 := V_t1.lt
  have lt_t2 := V_t2.lt
  refine Go.st (f' := (mkF m 1 #[rv t1, rv t2, .unset] [(.ref t1)])) (fun _ k => XS.aloadN X0.here hx rfl (hb hby d13_0) rfl rfl k) ?_
  obtain ⟨cl1, Ar1, -, S1, Nx1, -, -⟩ := id V_t1
  refine Go.st (T' := s₁) (f' := (mkF m 2 #[rv t1, rv t2, .unset] [(.int 2)])) (fun _ k => X0.arraylength hx (by rw [e0]; exact Ar1.1) (State.isArrayOf_alike hZ.alike Ar1.2.1) (g := (mkF m 1 #[rv t1, rv t2, .unset] [(.ref t1)])) rfl rfl (hb hby d13_1) _ (by rw [len_of S1 Nx1]; exact k)) ?_
  refine Go.st (f' := (mkF m 3 #[rv t1, rv t2, .unset] [(.ref t2), (.int 2)])) (fun _ k => XS.aloadN X0.here hx rfl (hb hby d13_2) rfl rfl k) ?_
  obtain ⟨cl2, Ar2, -, S2, Nx2, -, -⟩ := id V_t2
  refine Go.st (T' := s₁) (f' := (mkF m 4 #[rv t1, rv t2, .unset] [(.int 1), (.int 2)])) (fun _ k => X0.arraylength hx (by rw [e0]; exact Ar2.1) (State.isArrayOf_alike hZ.alike Ar2.2.1) (g := (mkF m 3 #[rv t1, rv t2, .unset] [(.ref t2), (.int 2)])) rfl rfl (hb hby d13_3) _ (by rw [len_of S2 Nx2]; exact k)) ?_
  refine Go.st (f' := (mkF m 34 #[rv t1, rv t2, .unset] [])) (fun _ k => XS.icmpYes X0.here hx rfl (pc0 := 4) (pc' := 34) rfl (hb hby d13_4) rfl (by decide) (by decide) (by decide) k) ?_
  refine Go.st (f' := (mkF m 35 #[rv t1, rv t2, .unset] [(.int 0)])) (fun _ k => XS.iconst X0.here hx rfl (hb hby d13_34) k) ?_
  refine Go.retB X0 hlk hx (t := .boolean) hret (by simp) (hb hby d13_35) e0 ?_ (by decide) (by decide)
  show (some (.int (0 : Int32)) : Option Value) = some (.int (elI_2_1 x0 x1 y0)) ∧ _
  exact ⟨by rw [elI_2_1], N0, rfl⟩
def elI_2_2 (x0 : Int32) (x1 : Int32) (y0 : Int32) (y1 : Int32) : Int32 := (if x0 = y0 then (if x1 = y1 then (1 : Int32) else (0 : Int32)) else (0 : Int32))
set_option maxRecDepth 65536 in
set_option maxHeartbeats 40000000 in
theorem el_2_2 (l : Launch) (Z : State) (a0 : Array Value) (hw : ∀ d ∈ tables_1, d.before a0 Z = true) (ws : List Jvm.Cond) (t1 : Addr) (k1 : ClassId) (t2 : Addr) (k2 : ClassId) (x0 : Int32) (x1 : Int32) (y0 : Int32) (y1 : Int32) (h0 : Heap) (n0 : Nat) (O0 : Old Z n0 h0) (V_t1 : Arv Z h0 t1 k1 .byte (2 : Int32) [(.int x0), (.int x1)] (.int 0)) (V_t2 : Arv Z h0 t2 k2 .byte (2 : Int32) [(.int y0), (.int y1)] (.int 0)) :
    Con l Z (⟨"java/lang/StringLatin1", "equals", "([B[B)Z"⟩ : MethodName) jdk_43_method_13_code 3 (some .boolean) ws ({ frames := 0, cells := 0, slots := 0, locals := 0 } : Room) #[(.ref t1), (.ref t2)] h0 (fun v h L => v = some (.int (elI_2_2 x0 x1 y0 y1)) ∧ Fr n0 L ∧ h = h0) := by
  refine own_body (plainFor_of_name pn_java_lang_StringLatin1) ?_
  intro p e s m below meth c s₁ hx hby hml hZ hown hnm hlk hret X0 e0
  have N0 := Fr.nil n0
  refine Go.st (T' := s₁) (f' := (mkF m 0 #[rv t1, rv t2, .unset] [])) (fun _ k => castTop (by first | (simp [entryFrame, mkF, argsToLocals, Value.category]; done) | rfl) k) ?_
  have lt_t1 := V_t1.lt
  have lt_t2 := V_t2.lt
  refine Go.st (f' := (mkF m 1 #[rv t1, rv t2, .unset] [(.ref t1)])) (fun _ k => XS.aloadN X0.here hx rfl (hb hby d13_0) rfl rfl k) ?_
  obtain ⟨cl1, Ar1, -, S1, Nx1, -, -⟩ := id V_t1
  refine Go.st (T' := s₁) (f' := (mkF m 2 #[rv t1, rv t2, .unset] [(.int 2)])) (fun _ k => X0.arraylength hx (by rw [e0]; exact Ar1.1) (State.isArrayOf_alike hZ.alike Ar1.2.1) (g := (mkF m 1 #[rv t1, rv t2, .unset] [(.ref t1)])) rfl rfl (hb hby d13_1) _ (by rw [len_of S1 Nx1]; exact k)) ?_
  refine Go.st (f' := (mkF m 3 #[rv t1, rv t2, .unset] [(.ref t2), (.int 2)])) (fun _ k => XS.aloadN X0.here hx rfl (hb hby d13_2) rfl rfl k) ?_
  obtain ⟨cl2, Ar2, -, S2, Nx2, -, -⟩ := id V_t2
  refine Go.st (T' := s₁) (f' := (mkF m 4 #[rv t1, rv t2, .unset] [(.int 2), (.int 2)])) (fun _ k => X0.arraylength hx (by rw [e0]; exact Ar2.1) (State.isArrayOf_alike hZ.alike Ar2.2.1) (g := (mkF m 3 #[rv t1, rv t2, .unset] [(.ref t2), (.int 2)])) rfl rfl (hb hby d13_3) _ (by rw [len_of S2 Nx2]; exact k)) ?_
  refine Go.st (f' := (mkF m 7 #[rv t1, rv t2, .unset] [])) (fun _ k => XS.icmpNo X0.here hx rfl (hb hby d13_4) rfl (by decide) k) ?_
  refine Go.st (f' := (mkF m 8 #[rv t1, rv t2, .unset] [(.int 0)])) (fun _ k => XS.iconst X0.here hx rfl (hb hby d13_7) k) ?_
  refine Go.st (f' := (mkF m 9 #[rv t1, rv t2, iv 0] [])) (fun _ k => XS.istoreN X0.here hx rfl (hb hby d13_8) rfl (l' := #[rv t1, rv t2, iv 0]) rfl k) ?_
  refine Go.st (f' := (mkF m 10 #[rv t1, rv t2, iv 0] [(.int 0)])) (fun _ k => XS.iloadN X0.here hx rfl (hb hby d13_9) rfl k) ?_
  refine Go.st (f' := (mkF m 11 #[rv t1, rv t2, iv 0] [(.ref t1), (.int 0)])) (fun _ k => XS.aloadN X0.here hx rfl (hb hby d13_10) rfl rfl k) ?_
  obtain ⟨cl3, Ar3, -, S3, Nx3, -, -⟩ := id V_t1
  refine Go.st (T' := s₁) (f' := (mkF m 12 #[rv t1, rv t2, iv 0] [(.int 2), (.int 0)])) (fun _ k => X0.arraylength hx (by rw [e0]; exact Ar3.1) (State.isArrayOf_alike hZ.alike Ar3.2.1) (g := (mkF m 11 #[rv t1, rv t2, iv 0] [(.ref t1), (.int 0)])) rfl rfl (hb hby d13_11) _ (by rw [len_of S3 Nx3]; exact k)) ?_
  refine Go.st (f' := (mkF m 15 #[rv t1, rv t2, iv 0] [])) (fun _ k => XS.icmpNo X0.here hx rfl (hb hby d13_12) rfl (by decide) k) ?_
  refine Go.st (f' := (mkF m 16 #[rv t1, rv t2, iv 0] [(.ref t1)])) (fun _ k => XS.aloadN X0.here hx rfl (hb hby d13_15) rfl rfl k) ?_
  refine Go.st (f' := (mkF m 17 #[rv t1, rv t2, iv 0] [(.int 0), (.ref t1)])) (fun _ k => XS.iloadN X0.here hx rfl (hb hby d13_16) rfl k) ?_
  obtain ⟨cl4, Ar4, -, S4, -, H4, -⟩ := id V_t1
  have hin4 : ¬ ((0 : Int32) < 0 ∨ cl4.slots.size ≤ ((0 : Int32)).toNatClampNeg) := inb_of S4 ⟨by decide, by decide⟩
  have hat4 : cl4.slots[((0 : Int32)).toNatClampNeg]? = some (.int x0) := H4.at hin4 rfl
  refine Go.st (f' := (mkF m 18 #[rv t1, rv t2, iv 0] [(.int x0)])) (fun _ k => X0.baloadBytes hx (j := (0 : Int32)) (v := (.int x0)) (by rw [e0]; exact Ar4.1) (State.isArrayOf_alike hZ.alike Ar4.2.1) Ar4.2.2 hin4 hat4 (g := (mkF m 17 #[rv t1, rv t2, iv 0] [(.int 0), (.ref t1)])) rfl rfl (hb hby d13_17) _ k) ?_
  refine Go.st (f' := (mkF m 19 #[rv t1, rv t2, iv 0] [(.ref t2), (.int x0)])) (fun _ k => XS.aloadN X0.here hx rfl (hb hby d13_18) rfl rfl k) ?_
  refine Go.st (f' := (mkF m 20 #[rv t1, rv t2, iv 0] [(.int 0), (.ref t2), (.int x0)])) (fun _ k => XS.iloadN X0.here hx rfl (hb hby d13_19) rfl k) ?_
  obtain ⟨cl5, Ar5, -, S5, -, H5, -⟩ := id V_t2
  have hin5 : ¬ ((0 : Int32) < 0 ∨ cl5.slots.size ≤ ((0 : Int32)).toNatClampNeg) := inb_of S5 ⟨by decide, by decide⟩
  have hat5 : cl5.slots[((0 : Int32)).toNatClampNeg]? = some (.int y0) := H5.at hin5 rfl
  refine Go.st (f' := (mkF m 21 #[rv t1, rv t2, iv 0] [(.int y0), (.int x0)])) (fun _ k => X0.baloadBytes hx (j := (0 : Int32)) (v := (.int y0)) (by rw [e0]; exact Ar5.1) (State.isArrayOf_alike hZ.alike Ar5.2.1) Ar5.2.2 hin5 hat5 (g := (mkF m 20 #[rv t1, rv t2, iv 0] [(.int 0), (.ref t2), (.int x0)])) rfl rfl (hb hby d13_20) _ k) ?_
  by_cases cd6 : x0 = y0
  · refine Go.st (f' := (mkF m 26 #[rv t1, rv t2, iv 0] [])) (fun _ k => XS.icmpYes X0.here hx rfl (pc0 := 21) (pc' := 26) rfl (hb hby d13_21) rfl (teq cd6).1 (by decide) (by decide) k) ?_
    refine Go.st (f' := (mkF m 29 #[rv t1, rv t2, iv 1] [])) (fun _ k => XS.iinc X0.here hx rfl (hb hby d13_26) rfl (l' := #[rv t1, rv t2, iv 1]) rfl k) ?_
    refine Go.st (f' := (mkF m 9 #[rv t1, rv t2, iv 1] [])) (fun _ k => XS.goto X0.here hx rfl (pc0 := 29) (pc' := 9) rfl (hb hby d13_29) (by decide) (by decide) k) ?_
    refine Go.st (f' := (mkF m 10 #[rv t1, rv t2, iv 1] [(.int 1)])) (fun _ k => XS.iloadN X0.here hx rfl (hb hby d13_9) rfl k) ?_
    refine Go.st (f' := (mkF m 11 #[rv t1, rv t2, iv 1] [(.ref t1), (.int 1)])) (fun _ k => XS.aloadN X0.here hx rfl (hb hby d13_10) rfl rfl k) ?_
    obtain ⟨cl7, Ar7, -, S7, Nx7, -, -⟩ := id V_t1
    refine Go.st (T' := s₁) (f' := (mkF m 12 #[rv t1, rv t2, iv 1] [(.int 2), (.int 1)])) (fun _ k => X0.arraylength hx (by rw [e0]; exact Ar7.1) (State.isArrayOf_alike hZ.alike Ar7.2.1) (g := (mkF m 11 #[rv t1, rv t2, iv 1] [(.ref t1), (.int 1)])) rfl rfl (hb hby d13_11) _ (by rw [len_of S7 Nx7]; exact k)) ?_
    refine Go.st (f' := (mkF m 15 #[rv t1, rv t2, iv 1] [])) (fun _ k => XS.icmpNo X0.here hx rfl (hb hby d13_12) rfl (by decide) k) ?_
    refine Go.st (f' := (mkF m 16 #[rv t1, rv t2, iv 1] [(.ref t1)])) (fun _ k => XS.aloadN X0.here hx rfl (hb hby d13_15) rfl rfl k) ?_
    refine Go.st (f' := (mkF m 17 #[rv t1, rv t2, iv 1] [(.int 1), (.ref t1)])) (fun _ k => XS.iloadN X0.here hx rfl (hb hby d13_16) rfl k) ?_
    obtain ⟨cl8, Ar8, -, S8, -, H8, -⟩ := id V_t1
    have hin8 : ¬ ((1 : Int32) < 0 ∨ cl8.slots.size ≤ ((1 : Int32)).toNatClampNeg) := inb_of S8 ⟨by decide, by decide⟩
    have hat8 : cl8.slots[((1 : Int32)).toNatClampNeg]? = some (.int x1) := H8.at hin8 rfl
    refine Go.st (f' := (mkF m 18 #[rv t1, rv t2, iv 1] [(.int x1)])) (fun _ k => X0.baloadBytes hx (j := (1 : Int32)) (v := (.int x1)) (by rw [e0]; exact Ar8.1) (State.isArrayOf_alike hZ.alike Ar8.2.1) Ar8.2.2 hin8 hat8 (g := (mkF m 17 #[rv t1, rv t2, iv 1] [(.int 1), (.ref t1)])) rfl rfl (hb hby d13_17) _ k) ?_
    refine Go.st (f' := (mkF m 19 #[rv t1, rv t2, iv 1] [(.ref t2), (.int x1)])) (fun _ k => XS.aloadN X0.here hx rfl (hb hby d13_18) rfl rfl k) ?_
    refine Go.st (f' := (mkF m 20 #[rv t1, rv t2, iv 1] [(.int 1), (.ref t2), (.int x1)])) (fun _ k => XS.iloadN X0.here hx rfl (hb hby d13_19) rfl k) ?_
    obtain ⟨cl9, Ar9, -, S9, -, H9, -⟩ := id V_t2
    have hin9 : ¬ ((1 : Int32) < 0 ∨ cl9.slots.size ≤ ((1 : Int32)).toNatClampNeg) := inb_of S9 ⟨by decide, by decide⟩
    have hat9 : cl9.slots[((1 : Int32)).toNatClampNeg]? = some (.int y1) := H9.at hin9 rfl
    refine Go.st (f' := (mkF m 21 #[rv t1, rv t2, iv 1] [(.int y1), (.int x1)])) (fun _ k => X0.baloadBytes hx (j := (1 : Int32)) (v := (.int y1)) (by rw [e0]; exact Ar9.1) (State.isArrayOf_alike hZ.alike Ar9.2.1) Ar9.2.2 hin9 hat9 (g := (mkF m 20 #[rv t1, rv t2, iv 1] [(.int 1), (.ref t2), (.int x1)])) rfl rfl (hb hby d13_20) _ k) ?_
    by_cases cd10 : x1 = y1
    · refine Go.st (f' := (mkF m 26 #[rv t1, rv t2, iv 1] [])) (fun _ k => XS.icmpYes X0.here hx rfl (pc0 := 21) (pc' := 26) rfl (hb hby d13_21) rfl (teq cd10).1 (by decide) (by decide) k) ?_
      refine Go.st (f' := (mkF m 29 #[rv t1, rv t2, iv 2] [])) (fun _ k => XS.iinc X0.here hx rfl (hb hby d13_26) rfl (l' := #[rv t1, rv t2, iv 2]) rfl k) ?_
      refine Go.st (f' := (mkF m 9 #[rv t1, rv t2, iv 2] [])) (fun _ k => XS.goto X0.here hx rfl (pc0 := 29) (pc' := 9) rfl (hb hby d13_29) (by decide) (by decide) k) ?_
      refine Go.st (f' := (mkF m 10 #[rv t1, rv t2, iv 2] [(.int 2)])) (fun _ k => XS.iloadN X0.here hx rfl (hb hby d13_9) rfl k) ?_
      refine Go.st (f' := (mkF m 11 #[rv t1, rv t2, iv 2] [(.ref t1), (.int 2)])) (fun _ k => XS.aloadN X0.here hx rfl (hb hby d13_10) rfl rfl k) ?_
      obtain ⟨cl11, Ar11, -, S11, Nx11, -, -⟩ := id V_t1
      refine Go.st (T' := s₁) (f' := (mkF m 12 #[rv t1, rv t2, iv 2] [(.int 2), (.int 2)])) (fun _ k => X0.arraylength hx (by rw [e0]; exact Ar11.1) (State.isArrayOf_alike hZ.alike Ar11.2.1) (g := (mkF m 11 #[rv t1, rv t2, iv 2] [(.ref t1), (.int 2)])) rfl rfl (hb hby d13_11) _ (by rw [len_of S11 Nx11]; exact k)) ?_
      refine Go.st (f' := (mkF m 32 #[rv t1, rv t2, iv 2] [])) (fun _ k => XS.icmpYes X0.here hx rfl (pc0 := 12) (pc' := 32) rfl (hb hby d13_12) rfl (by decide) (by decide) (by decide) k) ?_
      refine Go.st (f' := (mkF m 33 #[rv t1, rv t2, iv 2] [(.int 1)])) (fun _ k => XS.iconst X0.here hx rfl (hb hby d13_32) k) ?_
      refine Go.retB X0 hlk hx (t := .boolean) hret (by simp) (hb hby d13_33) e0 ?_ (by decide) (by decide)
      show (some (.int (1 : Int32)) : Option Value) = some (.int (elI_2_2 x0 x1 y0 y1)) ∧ _
      exact ⟨by rw [elI_2_2, if_pos cd6, if_pos cd10], N0, rfl⟩
    · refine Go.st (f' := (mkF m 24 #[rv t1, rv t2, iv 1] [])) (fun _ k => XS.icmpNo X0.here hx rfl (hb hby d13_21) rfl (feq cd10).1 k) ?_
      refine Go.st (f' := (mkF m 25 #[rv t1, rv t2, iv 1] [(.int 0)])) (fun _ k => XS.iconst X0.here hx rfl (hb hby d13_24) k) ?_
      refine Go.retB X0 hlk hx (t := .boolean) hret (by simp) (hb hby d13_25) e0 ?_ (by decide) (by decide)
      show (some (.int (0 : Int32)) : Option Value) = some (.int (elI_2_2 x0 x1 y0 y1)) ∧ _
      exact ⟨by rw [elI_2_2, if_pos cd6, if_neg cd10], N0, rfl⟩
  · refine Go.st (f' := (mkF m 24 #[rv t1, rv t2, iv 0] [])) (fun _ k => XS.icmpNo X0.here hx rfl (hb hby d13_21) rfl (feq cd6).1 k) ?_
    refine Go.st (f' := (mkF m 25 #[rv t1, rv t2, iv 0] [(.int 0)])) (fun _ k => XS.iconst X0.here hx rfl (hb hby d13_24) k) ?_
    refine Go.retB X0 hlk hx (t := .boolean) hret (by simp) (hb hby d13_25) e0 ?_ (by decide) (by decide)
    show (some (.int (0 : Int32)) : Option Value) = some (.int (elI_2_2 x0 x1 y0 y1)) ∧ _
    exact ⟨by rw [elI_2_2, if_neg cd6], N0, rfl⟩
theorem d12_0 : decode jdk_42_method_66_code 0 = .ok (.aload_n 0, 1) := by decide +kernel
theorem d12_1 : decode jdk_42_method_66_code 1 = .ok (.aload_n 1, 1) := by decide +kernel
theorem d12_2 : decode jdk_42_method_66_code 2 = .ok (.if_acmp .ne 5, 3) := by decide +kernel
theorem d12_7 : decode jdk_42_method_66_code 7 = .ok (.aload_n 1, 1) := by decide +kernel
theorem d12_8 : decode jdk_42_method_66_code 8 = .ok (.instanceof 10, 3) := by decide +kernel
theorem d12_11 : decode jdk_42_method_66_code 11 = .ok (.ifCond .eq 43, 3) := by decide +kernel
theorem d12_14 : decode jdk_42_method_66_code 14 = .ok (.aload_n 1, 1) := by decide +kernel
theorem d12_15 : decode jdk_42_method_66_code 15 = .ok (.checkcast 10, 3) := by decide +kernel
theorem d12_18 : decode jdk_42_method_66_code 18 = .ok (.astore_n 2, 1) := by decide +kernel
theorem d12_19 : decode jdk_42_method_66_code 19 = .ok (.getstatic 38, 3) := by decide +kernel
theorem d12_22 : decode jdk_42_method_66_code 22 = .ok (.ifCond .eq 14, 3) := by decide +kernel
theorem d12_25 : decode jdk_42_method_66_code 25 = .ok (.aload_n 0, 1) := by decide +kernel
theorem d12_26 : decode jdk_42_method_66_code 26 = .ok (.getfield 15, 3) := by decide +kernel
theorem d12_29 : decode jdk_42_method_66_code 29 = .ok (.aload_n 2, 1) := by decide +kernel
theorem d12_30 : decode jdk_42_method_66_code 30 = .ok (.getfield 15, 3) := by decide +kernel
theorem d12_33 : decode jdk_42_method_66_code 33 = .ok (.if_icmp .ne 21, 3) := by decide +kernel
theorem d12_36 : decode jdk_42_method_66_code 36 = .ok (.aload_n 0, 1) := by decide +kernel
theorem d12_37 : decode jdk_42_method_66_code 37 = .ok (.getfield 9, 3) := by decide +kernel
theorem d12_40 : decode jdk_42_method_66_code 40 = .ok (.aload_n 2, 1) := by decide +kernel
theorem d12_41 : decode jdk_42_method_66_code 41 = .ok (.getfield 9, 3) := by decide +kernel
theorem d12_44 : decode jdk_42_method_66_code 44 = .ok (.invokestatic 541, 3) := by decide +kernel
theorem pd___B_B_Z : parseMethodDescriptor "([B[B)Z" = some ⟨[(.array .byte), (.array .byte)], some .boolean⟩ := by decide +kernel
theorem d12_47 : decode jdk_42_method_66_code 47 = .ok (.ifCond .eq 7, 3) := by decide +kernel
theorem d12_54 : decode jdk_42_method_66_code 54 = .ok (.iconst 0, 1) := by decide +kernel
theorem d12_55 : decode jdk_42_method_66_code 55 = .ok (.ireturn, 1) := by decide +kernel
theorem d12_50 : decode jdk_42_method_66_code 50 = .ok (.iconst 1, 1) := by decide +kernel
theorem d12_51 : decode jdk_42_method_66_code 51 = .ok (.goto 4, 3) := by decide +kernel
def eqI_0_0  : Int32 := (if (elI_0_0) = (0 : Int32) then (0 : Int32) else (1 : Int32))
set_option maxRecDepth 65536 in
set_option maxHeartbeats 40000000 in
theorem eq_0_0 (l : Launch) (Z : State) (a0 : Array Value) (hw : ∀ d ∈ tables_1, d.before a0 Z = true) (ws : List Jvm.Cond) (a1 : Addr) (a2 : Addr) (t1 : Addr) (k1 : ClassId) (t2 : Addr) (k2 : ClassId) (w_NUMBER : Addr) (w_SYMBOL : Addr) (w_NAME : Addr) (w_END : Addr) (w_STRING : Addr) (i_COMPACT_STRINGS : Int32) (v_SIOOBE_FORMATTER : Value) (h0 : Heap) (n0 : Nat) (O0 : Old Z n0 h0) (ne12 : a1 ≠ a2) (E_a1 : Exa Z h0 a1 "java/lang/String") (F_a1_coder : Fld Z h0 a1 "java/lang/String" "coder" "B" (.int 0)) (F_a1_value : Fld Z h0 a1 "java/lang/String" "value" "[B" (.ref t1)) (E_a2 : Exa Z h0 a2 "java/lang/String") (F_a2_coder : Fld Z h0 a2 "java/lang/String" "coder" "B" (.int 0)) (F_a2_value : Fld Z h0 a2 "java/lang/String" "value" "[B" (.ref t2)) (V_t1 : Arv Z h0 t1 k1 .byte (0 : Int32) [] (.int 0)) (V_t2 : Arv Z h0 t2 k2 .byte (0 : Int32) [] (.int 0)) (WW : World1 Z w_NUMBER w_SYMBOL w_NAME w_END w_STRING i_COMPACT_STRINGS v_SIOOBE_FORMATTER) :
    Con l Z (⟨"java/lang/String", "equals", "(Ljava/lang/Object;)Z"⟩ : MethodName) jdk_42_method_66_code 3 (some .boolean) ws ({ frames := 1, cells := 0, slots := 0, locals := 14 } : Room) #[(.ref a1), (.ref a2)] h0 (fun v h L => v = some (.int (eqI_0_0 )) ∧ Fr n0 L ∧ h = h0) := by
  refine own_body (plainFor_of_name pn_java_lang_String) ?_
  intro p e s m below meth c s₁ hx hby hml hZ hown hnm hlk hret X0 e0
  have N0 := Fr.nil n0
  refine Go.st (T' := s₁) (f' := (mkF m 0 #[rv a1, rv a2, .unset] [])) (fun _ k => castTop (by first | (simp [entryFrame, mkF, argsToLocals, Value.category]; done) | rfl) k) ?_
  have ⟨S_i_COMPACT_STRINGS, nz_i_COMPACT_STRINGS, S_v_SIOOBE_FORMATTER, r_v_SIOOBE_FORMATTER, S_w_NUMBER, E_w_NUMBER, S_w_SYMBOL, E_w_SYMBOL, S_w_NAME, E_w_NAME, S_w_END, E_w_END, S_w_STRING, E_w_STRING, F_w_NUMBER_ordinal, F_w_SYMBOL_ordinal, F_w_NAME_ordinal, F_w_END_ordinal, F_w_STRING_ordinal⟩ := WW
  have lt_w_NUMBER := E_w_NUMBER.lt
  have lt_w_SYMBOL := E_w_SYMBOL.lt
  have lt_w_NAME := E_w_NAME.lt
  have lt_w_END := E_w_END.lt
  have lt_w_STRING := E_w_STRING.lt
  have lt_a1 := E_a1.lt
  have lt_a2 := E_a2.lt
  have lt_t1 := V_t1.lt
  have lt_t2 := V_t2.lt
  refine Go.st (f' := (mkF m 1 #[rv a1, rv a2, .unset] [(.ref a1)])) (fun _ k => XS.aloadN X0.here hx rfl (hb hby d12_0) rfl rfl k) ?_
  refine Go.st (f' := (mkF m 2 #[rv a1, rv a2, .unset] [(.ref a2), (.ref a1)])) (fun _ k => XS.aloadN X0.here hx rfl (hb hby d12_1) rfl rfl k) ?_
  refine Go.st (f' := (mkF m 7 #[rv a1, rv a2, .unset] [])) (fun _ k => Jvm.RoadKit.acmp (g := (mkF m 2 #[rv a1, rv a2, .unset] [(.ref a2), (.ref a1)])) X0 hx rfl rfl rfl (pc0 := 2) (pc' := 7) (same := false) rfl (hb hby d12_2) rfl (decide_eq_false fun q => ne12 (Value.ref.inj q)) (by decide) (by decide) k) ?_
  refine Go.st (f' := (mkF m 8 #[rv a1, rv a2, .unset] [(.ref a2)])) (fun _ k => XS.aloadN X0.here hx rfl (hb hby d12_7) rfl rfl k) ?_
  obtain ⟨T1, X1, e1, st1⟩ := instY X0 hx hZ hown (hw _ (List.mem_of_getElem? (i := 81) rfl)) e0 (Ins.self E_a2) (g := (mkF m 8 #[rv a1, rv a2, .unset] [(.ref a2)])) rfl rfl (hb hby d12_8)
  refine Go.st (f' := (mkF m 11 #[rv a1, rv a2, .unset] [(.int 1)])) (fun _ k => st1 _ k) ?_
  refine Go.st (f' := (mkF m 14 #[rv a1, rv a2, .unset] [])) (fun _ k => XS.ifNo X1.here hx rfl (hb hby d12_11) rfl (by decide) k) ?_
  refine Go.st (f' := (mkF m 15 #[rv a1, rv a2, .unset] [(.ref a2)])) (fun _ k => XS.aloadN X1.here hx rfl (hb hby d12_14) rfl rfl k) ?_
  obtain ⟨T2, X2, e2, st2⟩ := castY X1 hx hZ hown (hw _ (List.mem_of_getElem? (i := 81) rfl)) e1 (Ins.self E_a2) (g := (mkF m 15 #[rv a1, rv a2, .unset] [(.ref a2)])) rfl rfl (hb hby d12_15)
  refine Go.st (f' := (mkF m 18 #[rv a1, rv a2, .unset] [(.ref a2)])) (fun _ k => st2 _ k) ?_
  refine Go.st (f' := (mkF m 19 #[rv a1, rv a2, rv a2] [])) (fun _ k => XS.astoreN X2.here hx rfl (hb hby d12_18) rfl rfl (l' := #[rv a1, rv a2, rv a2]) rfl k) ?_
  obtain ⟨T3, X3, e3, st3⟩ := getS2 X2 hx hZ hown (host := "") (Or.inl (hw _ (List.mem_of_getElem? (i := 33) rfl))) Via.refl e2 (S_i_COMPACT_STRINGS.ext O0.2) (g := (mkF m 19 #[rv a1, rv a2, rv a2] [])) rfl (hb hby d12_19)
  refine Go.st (f' := (mkF m 22 #[rv a1, rv a2, rv a2] [(.int i_COMPACT_STRINGS)])) (fun _ k => st3 _ k) ?_
  refine Go.st (f' := (mkF m 25 #[rv a1, rv a2, rv a2] [])) (fun _ k => XS.ifNo X3.here hx rfl (hb hby d12_22) rfl ((if0 _ _).trans (feq nz_i_COMPACT_STRINGS).1) k) ?_
  refine Go.st (f' := (mkF m 26 #[rv a1, rv a2, rv a2] [(.ref a1)])) (fun _ k => XS.aloadN X3.here hx rfl (hb hby d12_25) rfl rfl k) ?_
  obtain ⟨T4, X4, e4, st4⟩ := getF X3 hx hZ hown (host := "") (Or.inl (hw _ (List.mem_of_getElem? (i := 32) rfl))) Via.refl e3 F_a1_coder (g := (mkF m 26 #[rv a1, rv a2, rv a2] [(.ref a1)])) rfl rfl (hb hby d12_26)
  refine Go.st (f' := (mkF m 29 #[rv a1, rv a2, rv a2] [(.int 0)])) (fun _ k => st4 _ k) ?_
  refine Go.st (f' := (mkF m 30 #[rv a1, rv a2, rv a2] [(.ref a2), (.int 0)])) (fun _ k => XS.aloadN X4.here hx rfl (hb hby d12_29) rfl rfl k) ?_
  obtain ⟨T5, X5, e5, st5⟩ := getF X4 hx hZ hown (host := "") (Or.inl (hw _ (List.mem_of_getElem? (i := 32) rfl))) Via.refl e4 F_a2_coder (g := (mkF m 30 #[rv a1, rv a2, rv a2] [(.ref a2), (.int 0)])) rfl rfl (hb hby d12_30)
  refine Go.st (f' := (mkF m 33 #[rv a1, rv a2, rv a2] [(.int 0), (.int 0)])) (fun _ k => st5 _ k) ?_
  refine Go.st (f' := (mkF m 36 #[rv a1, rv a2, rv a2] [])) (fun _ k => XS.icmpNo X5.here hx rfl (hb hby d12_33) rfl (by decide) k) ?_
  refine Go.st (f' := (mkF m 37 #[rv a1, rv a2, rv a2] [(.ref a1)])) (fun _ k => XS.aloadN X5.here hx rfl (hb hby d12_36) rfl rfl k) ?_
  obtain ⟨T6, X6, e6, st6⟩ := getF X5 hx hZ hown (host := "") (Or.inl (hw _ (List.mem_of_getElem? (i := 31) rfl))) Via.refl e5 F_a1_value (g := (mkF m 37 #[rv a1, rv a2, rv a2] [(.ref a1)])) rfl rfl (hb hby d12_37)
  refine Go.st (f' := (mkF m 40 #[rv a1, rv a2, rv a2] [(.ref t1)])) (fun _ k => st6 _ k) ?_
  refine Go.st (f' := (mkF m 41 #[rv a1, rv a2, rv a2] [(.ref a2), (.ref t1)])) (fun _ k => XS.aloadN X6.here hx rfl (hb hby d12_40) rfl rfl k) ?_
  obtain ⟨T7, X7, e7, st7⟩ := getF X6 hx hZ hown (host := "") (Or.inl (hw _ (List.mem_of_getElem? (i := 31) rfl))) Via.refl e6 F_a2_value (g := (mkF m 41 #[rv a1, rv a2, rv a2] [(.ref a2), (.ref t1)])) rfl rfl (hb hby d12_41)
  refine Go.st (f' := (mkF m 44 #[rv a1, rv a2, rv a2] [(.ref t2), (.ref t1)])) (fun _ k => st7 _ k) ?_
  obtain ⟨_, _, ⟨T8, L8, kk8, nn8⟩, -, X8, ⟨Lc8, hQ8, lq8, yq8, zz8⟩, st8⟩ := Jvm.LawKit.callS X7 hx (y := (⟨"java/lang/StringLatin1", "equals", "([B[B)Z"⟩ : MethodName)) hown (mvT hZ (hw _ (List.mem_of_getElem? (i := 82) rfl))) (mvT hZ (hw _ (List.mem_of_getElem? (i := 83) rfl))) (mvT hZ (hw _ (List.mem_of_getElem? (i := 84) rfl))) (mvT hZ (hw _ (List.mem_of_getElem? (i := 85) rfl))) (by decide) (own_back (W := 0) (el_0_0 l Z a0 hw [] t1 k1 t2 k2  h0 n0 O0 V_t1 V_t2) hZ (hw _ (List.mem_of_getElem? (i := 85) rfl)) (hw _ (List.mem_of_getElem? (i := 84) rfl)) (by decide) (by decide)) (g := (mkF m 44 #[rv a1, rv a2, rv a2] [(.ref t2), (.ref t1)])) rfl (by rw [hml]; rfl) (argsL := [(.ref t1), (.ref t2)]) (rest := []) (lenOf pd___B_B_Z rfl) rfl (by show 2 * 0 + _ ≤ _; exact Nat.le_of_eq rfl) (hb hby d12_44) (fun _ _ => ⟨rfl, e7, (by decide : 0 + 0 ≤ _), (by decide : 0 + 0 ≤ _)⟩)
  dsimp only [Pt.U, Pt.locs, Pt.cells, Pt.slots] at X8 lq8 yq8 zz8 st8 hQ8
  subst lq8 yq8 zz8
  obtain ⟨rfl, Nq8, kq8⟩ := hQ8
  have N8 := Fr.app N0 Nq8
  refine Go.st (f' := (mkF m 47 #[rv a1, rv a2, rv a2] [(.int (elI_0_0))])) (fun _ k => st8 _ k) ?_
  by_cases cd9 : (elI_0_0) = (0 : Int32)
  · refine Go.st (f' := (mkF m 54 #[rv a1, rv a2, rv a2] [])) (fun _ k => XS.ifYes X8.here hx rfl (pc0 := 47) (pc' := 54) rfl (hb hby d12_47) rfl ((if0 _ _).trans (teq cd9).1) (by decide) (by decide) k) ?_
    refine Go.st (f' := (mkF m 55 #[rv a1, rv a2, rv a2] [(.int 0)])) (fun _ k => XS.iconst X8.here hx rfl (hb hby d12_54) k) ?_
    refine Go.retB X8 hlk hx (t := .boolean) hret (by simp) (hb hby d12_55) kq8 ?_ (by decide) (by decide)
    show (some (.int (0 : Int32)) : Option Value) = some (.int (eqI_0_0 )) ∧ _
    exact ⟨by rw [eqI_0_0, if_pos cd9], N8, rfl⟩
  · refine Go.st (f' := (mkF m 50 #[rv a1, rv a2, rv a2] [])) (fun _ k => XS.ifNo X8.here hx rfl (hb hby d12_47) rfl ((if0 _ _).trans (feq cd9).1) k) ?_
    refine Go.st (f' := (mkF m 51 #[rv a1, rv a2, rv a2] [(.int 1)])) (fun _ k => XS.iconst X8.here hx rfl (hb hby d12_50) k) ?_
    refine Go.st (f' := (mkF m 55 #[rv a1, rv a2, rv a2] [(.int 1)])) (fun _ k => XS.goto X8.here hx rfl (pc0 := 51) (pc' := 55) rfl (hb hby d12_51) (by decide) (by decide) k) ?_
    refine Go.retB X8 hlk hx (t := .boolean) hret (by simp) (hb hby d12_55) kq8 ?_ (by decide) (by decide)
    show (some (.int (1 : Int32)) : Option Value) = some (.int (eqI_0_0 )) ∧ _
    exact ⟨by rw [eqI_0_0, if_neg cd9], N8, rfl⟩
def eqI_0_1 (y0 : Int32) : Int32 := (if (elI_0_1 y0) = (0 : Int32) then (0 : Int32) else (1 : Int32))
set_option maxRecDepth 65536 in
set_option maxHeartbeats 40000000 in
theorem eq_0_1 (l : Launch) (Z : State) (a0 : Array Value) (hw : ∀ d ∈ tables_1, d.before a0 Z = true) (ws : List Jvm.Cond) (a1 : Addr) (a2 : Addr) (t1 : Addr) (k1 : ClassId) (t2 : Addr) (k2 : ClassId) (y0 : Int32) (w_NUMBER : Addr) (w_SYMBOL : Addr) (w_NAME : Addr) (w_END : Addr) (w_STRING : Addr) (i_COMPACT_STRINGS : Int32) (v_SIOOBE_FORMATTER : Value) (h0 : Heap) (n0 : Nat) (O0 : Old Z n0 h0) (ne12 : a1 ≠ a2) (E_a1 : Exa Z h0 a1 "java/lang/String") (F_a1_coder : Fld Z h0 a1 "java/lang/String" "coder" "B" (.int 0)) (F_a1_value : Fld Z h0 a1 "java/lang/String" "value" "[B" (.ref t1)) (E_a2 : Exa Z h0 a2 "java/lang/String") (F_a2_coder : Fld Z h0 a2 "java/lang/String" "coder" "B" (.int 0)) (F_a2_value : Fld Z h0 a2 "java/lang/String" "value" "[B" (.ref t2)) (V_t1 : Arv Z h0 t1 k1 .byte (0 : Int32) [] (.int 0)) (V_t2 : Arv Z h0 t2 k2 .byte (1 : Int32) [(.int y0)] (.int 0)) (WW : World1 Z w_NUMBER w_SYMBOL w_NAME w_END w_STRING i_COMPACT_STRINGS v_SIOOBE_FORMATTER) :
    Con l Z (⟨"java/lang/String", "equals", "(Ljava/lang/Object;)Z"⟩ : MethodName) jdk_42_method_66_code 3 (some .boolean) ws ({ frames := 1, cells := 0, slots := 0, locals := 14 } : Room) #[(.ref a1), (.ref a2)] h0 (fun v h L => v = some (.int (eqI_0_1 y0)) ∧ Fr n0 L ∧ h = h0) := by
  refine own_body (plainFor_of_name pn_java_lang_String) ?_
  intro p e s m below meth c s₁ hx hby hml hZ hown hnm hlk hret X0 e0
  have N0 := Fr.nil n0
  refine Go.st (T' := s₁) (f' := (mkF m 0 #[rv a1, rv a2, .unset] [])) (fun _ k => castTop (by first | (simp [entryFrame, mkF, argsToLocals, Value.category]; done) | rfl) k) ?_
  have ⟨S_i_COMPACT_STRINGS, nz_i_COMPACT_STRINGS, S_v_SIOOBE_FORMATTER, r_v_SIOOBE_FORMATTER, S_w_NUMBER, E_w_NUMBER, S_w_SYMBOL, E_w_SYMBOL, S_w_NAME, E_w_NAME, S_w_END, E_w_END, S_w_STRING, E_w_STRING, F_w_NUMBER_ordinal, F_w_SYMBOL_ordinal, F_w_NAME_ordinal, F_w_END_ordinal, F_w_STRING_ordinal⟩ := WW
  have lt_w_NUMBER := E_w_NUMBER.lt
  have lt_w_SYMBOL := E_w_SYMBOL.lt
  have lt_w_NAME := E_w_NAME.lt
  have lt_w_END := E_w_END.lt
  have lt_w_STRING := E_w_STRING.lt
  have lt_a1 := E_a1.lt
  have lt_a2 := E_a2.lt
  have lt_t1 := V_t1.lt
  have lt_t2 := V_t2.lt
  refine Go.st (f' := (mkF m 1 #[rv a1, rv a2, .unset] [(.ref a1)])) (fun _ k => XS.aloadN X0.here hx rfl (hb hby d12_0) rfl rfl k) ?_
  refine Go.st (f' := (mkF m 2 #[rv a1, rv a2, .unset] [(.ref a2), (.ref a1)])) (fun _ k => XS.aloadN X0.here hx rfl (hb hby d12_1) rfl rfl k) ?_
  refine Go.st (f' := (mkF m 7 #[rv a1, rv a2, .unset] [])) (fun _ k => Jvm.RoadKit.acmp (g := (mkF m 2 #[rv a1, rv a2, .unset] [(.ref a2), (.ref a1)])) X0 hx rfl rfl rfl (pc0 := 2) (pc' := 7) (same := false) rfl (hb hby d12_2) rfl (decide_eq_false fun q => ne12 (Value.ref.inj q)) (by decide) (by decide) k) ?_
  refine Go.st (f' := (mkF m 8 #[rv a1, rv a2, .unset] [(.ref a2)])) (fun _ k => XS.aloadN X0.here hx rfl (hb hby d12_7) rfl rfl k) ?_
  obtain ⟨T1, X1, e1, st1⟩ := instY X0 hx hZ hown (hw _ (List.mem_of_getElem? (i := 81) rfl)) e0 (Ins.self E_a2) (g := (mkF m 8 #[rv a1, rv a2, .unset] [(.ref a2)])) rfl rfl (hb hby d12_8)
  refine Go.st (f' := (mkF m 11 #[rv a1, rv a2, .unset] [(.int 1)])) (fun _ k => st1 _ k) ?_
  refine Go.st (f' := (mkF m 14 #[rv a1, rv a2, .unset] [])) (fun _ k => XS.ifNo X1.here hx rfl (hb hby d12_11) rfl (by decide) k) ?_
  refine Go.st (f' := (mkF m 15 #[rv a1, rv a2, .unset] [(.ref a2)])) (fun _ k => XS.aloadN X1.here hx rfl (hb hby d12_14) rfl rfl k) ?_
  obtain ⟨T2, X2, e2, st2⟩ := castY X1 hx hZ hown (hw _ (List.mem_of_getElem? (i := 81) rfl)) e1 (Ins.self E_a2) (g := (mkF m 15 #[rv a1, rv a2, .unset] [(.ref a2)])) rfl rfl (hb hby d12_15)
  refine Go.st (f' := (mkF m 18 #[rv a1, rv a2, .unset] [(.ref a2)])) (fun _ k => st2 _ k) ?_
  refine Go.st (f' := (mkF m 19 #[rv a1, rv a2, rv a2] [])) (fun _ k => XS.astoreN X2.here hx rfl (hb hby d12_18) rfl rfl (l' := #[rv a1, rv a2, rv a2]) rfl k) ?_
  obtain ⟨T3, X3, e3, st3⟩ := getS2 X2 hx hZ hown (host := "") (Or.inl (hw _ (List.mem_of_getElem? (i := 33) rfl))) Via.refl e2 (S_i_COMPACT_STRINGS.ext O0.2) (g := (mkF m 19 #[rv a1, rv a2, rv a2] [])) rfl (hb hby d12_19)
  refine Go.st (f' := (mkF m 22 #[rv a1, rv a2, rv a2] [(.int i_COMPACT_STRINGS)])) (fun _ k => st3 _ k) ?_
  refine Go.st (f' := (mkF m 25 #[rv a1, rv a2, rv a2] [])) (fun _ k => XS.ifNo X3.here hx rfl (hb hby d12_22) rfl ((if0 _ _).trans (feq nz_i_COMPACT_STRINGS).1) k) ?_
  refine Go.st (f' := (mkF m 26 #[rv a1, rv a2, rv a2] [(.ref a1)])) (fun _ k => XS.aloadN X3.here hx rfl (hb hby d12_25) rfl rfl k) ?_
  obtain ⟨T4, X4, e4, st4⟩ := getF X3 hx hZ hown (host := "") (Or.inl (hw _ (List.mem_of_getElem? (i := 32) rfl))) Via.refl e3 F_a1_coder (g := (mkF m 26 #[rv a1, rv a2, rv a2] [(.ref a1)])) rfl rfl (hb hby d12_26)
  refine Go.st (f' := (mkF m 29 #[rv a1, rv a2, rv a2] [(.int 0)])) (fun _ k => st4 _ k) ?_
  refine Go.st (f' := (mkF m 30 #[rv a1, rv a2, rv a2] [(.ref a2), (.int 0)])) (fun _ k => XS.aloadN X4.here hx rfl (hb hby d12_29) rfl rfl k) ?_
  obtain ⟨T5, X5, e5, st5⟩ := getF X4 hx hZ hown (host := "") (Or.inl (hw _ (List.mem_of_getElem? (i := 32) rfl))) Via.refl e4 F_a2_coder (g := (mkF m 30 #[rv a1, rv a2, rv a2] [(.ref a2), (.int 0)])) rfl rfl (hb hby d12_30)
  refine Go.st (f' := (mkF m 33 #[rv a1, rv a2, rv a2] [(.int 0), (.int 0)])) (fun _ k => st5 _ k) ?_
  refine Go.st (f' := (mkF m 36 #[rv a1, rv a2, rv a2] [])) (fun _ k => XS.icmpNo X5.here hx rfl (hb hby d12_33) rfl (by decide) k) ?_
  refine Go.st (f' := (mkF m 37 #[rv a1, rv a2, rv a2] [(.ref a1)])) (fun _ k => XS.aloadN X5.here hx rfl (hb hby d12_36) rfl rfl k) ?_
  obtain ⟨T6, X6, e6, st6⟩ := getF X5 hx hZ hown (host := "") (Or.inl (hw _ (List.mem_of_getElem? (i := 31) rfl))) Via.refl e5 F_a1_value (g := (mkF m 37 #[rv a1, rv a2, rv a2] [(.ref a1)])) rfl rfl (hb hby d12_37)
  refine Go.st (f' := (mkF m 40 #[rv a1, rv a2, rv a2] [(.ref t1)])) (fun _ k => st6 _ k) ?_
  refine Go.st (f' := (mkF m 41 #[rv a1, rv a2, rv a2] [(.ref a2), (.ref t1)])) (fun _ k => XS.aloadN X6.here hx rfl (hb hby d12_40) rfl rfl k) ?_
  obtain ⟨T7, X7, e7, st7⟩ := getF X6 hx hZ hown (host := "") (Or.inl (hw _ (List.mem_of_getElem? (i := 31) rfl))) Via.refl e6 F_a2_value (g := (mkF m 41 #[rv a1, rv a2, rv a2] [(.ref a2), (.ref t1)])) rfl rfl (hb hby d12_41)
  refine Go.st (f' := (mkF m 44 #[rv a1, rv a2, rv a2] [(.ref t2), (.ref t1)])) (fun _ k => st7 _ k) ?_
  obtain ⟨_, _, ⟨T8, L8, kk8, nn8⟩, -, X8, ⟨Lc8, hQ8, lq8, yq8, zz8⟩, st8⟩ := Jvm.LawKit.callS X7 hx (y := (⟨"java/lang/StringLatin1", "equals", "([B[B)Z"⟩ : MethodName)) hown (mvT hZ (hw _ (List.mem_of_getElem? (i := 82) rfl))) (mvT hZ (hw _ (List.mem_of_getElem? (i := 83) rfl))) (mvT hZ (hw _ (List.mem_of_getElem? (i := 84) rfl))) (mvT hZ (hw _ (List.mem_of_getElem? (i := 85) rfl))) (by decide) (own_back (W := 0) (el_0_1 l Z a0 hw [] t1 k1 t2 k2 y0 h0 n0 O0 V_t1 V_t2) hZ (hw _ (List.mem_of_getElem? (i := 85) rfl)) (hw _ (List.mem_of_getElem? (i := 84) rfl)) (by decide) (by decide)) (g := (mkF m 44 #[rv a1, rv a2, rv a2] [(.ref t2), (.ref t1)])) rfl (by rw [hml]; rfl) (argsL := [(.ref t1), (.ref t2)]) (rest := []) (lenOf pd___B_B_Z rfl) rfl (by show 2 * 0 + _ ≤ _; exact Nat.le_of_eq rfl) (hb hby d12_44) (fun _ _ => ⟨rfl, e7, (by decide : 0 + 0 ≤ _), (by decide : 0 + 0 ≤ _)⟩)
  dsimp only [Pt.U, Pt.locs, Pt.cells, Pt.slots] at X8 lq8 yq8 zz8 st8 hQ8
  subst lq8 yq8 zz8
  obtain ⟨rfl, Nq8, kq8⟩ := hQ8
  have N8 := Fr.app N0 Nq8
  refine Go.st (f' := (mkF m 47 #[rv a1, rv a2, rv a2] [(.int (elI_0_1 y0))])) (fun _ k => st8 _ k) ?_
  by_cases cd9 : (elI_0_1 y0) = (0 : Int32)
  · refine Go.st (f' := (mkF m 54 #[rv a1, rv a2, rv a2] [])) (fun _ k => XS.ifYes X8.here hx rfl (pc0 := 47) (pc' := 54) rfl (hb hby d12_47) rfl ((if0 _ _).trans (teq cd9).1) (by decide) (by decide) k) ?_
    refine Go.st (f' := (mkF m 55 #[rv a1, rv a2, rv a2] [(.int 0)])) (fun _ k => XS.iconst X8.here hx rfl (hb hby d12_54) k) ?_
    refine Go.retB X8 hlk hx (t := .boolean) hret (by simp) (hb hby d12_55) kq8 ?_ (by decide) (by decide)
    show (some (.int (0 : Int32)) : Option Value) = some (.int (eqI_0_1 y0)) ∧ _
    exact ⟨by rw [eqI_0_1, if_pos cd9], N8, rfl⟩
  · refine Go.st (f' := (mkF m 50 #[rv a1, rv a2, rv a2] [])) (fun _ k => XS.ifNo X8.here hx rfl (hb hby d12_47) rfl ((if0 _ _).trans (feq cd9).1) k) ?_
    refine Go.st (f' := (mkF m 51 #[rv a1, rv a2, rv a2] [(.int 1)])) (fun _ k => XS.iconst X8.here hx rfl (hb hby d12_50) k) ?_
    refine Go.st (f' := (mkF m 55 #[rv a1, rv a2, rv a2] [(.int 1)])) (fun _ k => XS.goto X8.here hx rfl (pc0 := 51) (pc' := 55) rfl (hb hby d12_51) (by decide) (by decide) k) ?_
    refine Go.retB X8 hlk hx (t := .boolean) hret (by simp) (hb hby d12_55) kq8 ?_ (by decide) (by decide)
    show (some (.int (1 : Int32)) : Option Value) = some (.int (eqI_0_1 y0)) ∧ _
    exact ⟨by rw [eqI_0_1, if_neg cd9], N8, rfl⟩
def eqI_0_2 (y0 : Int32) (y1 : Int32) : Int32 := (if (elI_0_2 y0 y1) = (0 : Int32) then (0 : Int32) else (1 : Int32))
set_option maxRecDepth 65536 in
set_option maxHeartbeats 40000000 in
theorem eq_0_2 (l : Launch) (Z : State) (a0 : Array Value) (hw : ∀ d ∈ tables_1, d.before a0 Z = true) (ws : List Jvm.Cond) (a1 : Addr) (a2 : Addr) (t1 : Addr) (k1 : ClassId) (t2 : Addr) (k2 : ClassId) (y0 : Int32) (y1 : Int32) (w_NUMBER : Addr) (w_SYMBOL : Addr) (w_NAME : Addr) (w_END : Addr) (w_STRING : Addr) (i_COMPACT_STRINGS : Int32) (v_SIOOBE_FORMATTER : Value) (h0 : Heap) (n0 : Nat) (O0 : Old Z n0 h0) (ne12 : a1 ≠ a2) (E_a1 : Exa Z h0 a1 "java/lang/String") (F_a1_coder : Fld Z h0 a1 "java/lang/String" "coder" "B" (.int 0)) (F_a1_value : Fld Z h0 a1 "java/lang/String" "value" "[B" (.ref t1)) (E_a2 : Exa Z h0 a2 "java/lang/String") (F_a2_coder : Fld Z h0 a2 "java/lang/String" "coder" "B" (.int 0)) (F_a2_value : Fld Z h0 a2 "java/lang/String" "value" "[B" (.ref t2)) (V_t1 : Arv Z h0 t1 k1 .byte (0 : Int32) [] (.int 0)) (V_t2 : Arv Z h0 t2 k2 .byte (2 : Int32) [(.int y0), (.int y1)] (.int 0)) (WW : World1 Z w_NUMBER w_SYMBOL w_NAME w_END w_STRING i_COMPACT_STRINGS v_SIOOBE_FORMATTER) :
    Con l Z (⟨"java/lang/String", "equals", "(Ljava/lang/Object;)Z"⟩ : MethodName) jdk_42_method_66_code 3 (some .boolean) ws ({ frames := 1, cells := 0, slots := 0, locals := 14 } : Room) #[(.ref a1), (.ref a2)] h0 (fun v h L => v = some (.int (eqI_0_2 y0 y1)) ∧ Fr n0 L ∧ h = h0) := by
  refine own_body (plainFor_of_name pn_java_lang_String) ?_
  intro p e s m below meth c s₁ hx hby hml hZ hown hnm hlk hret X0 e0
  have N0 := Fr.nil n0
  refine Go.st (T' := s₁) (f' := (mkF m 0 #[rv a1, rv a2, .unset] [])) (fun _ k => castTop (by first | (simp [entryFrame, mkF, argsToLocals, Value.category]; done) | rfl) k) ?_
  have ⟨S_i_COMPACT_STRINGS, nz_i_COMPACT_STRINGS, S_v_SIOOBE_FORMATTER, r_v_SIOOBE_FORMATTER, S_w_NUMBER, E_w_NUMBER, S_w_SYMBOL, E_w_SYMBOL, S_w_NAME, E_w_NAME, S_w_END, E_w_END, S_w_STRING, E_w_STRING, F_w_NUMBER_ordinal, F_w_SYMBOL_ordinal, F_w_NAME_ordinal, F_w_END_ordinal, F_w_STRING_ordinal⟩ := WW
  have lt_w_NUMBER := E_w_NUMBER.lt
  have lt_w_SYMBOL := E_w_SYMBOL.lt
  have lt_w_NAME := E_w_NAME.lt
  have lt_w_END := E_w_END.lt
  have lt_w_STRING := E_w_STRING.lt
  have lt_a1 := E_a1.lt
  have lt_a2 := E_a2.lt
  have lt_t1 := V_t1.lt
  have lt_t2 := V_t2.lt
  refine Go.st (f' := (mkF m 1 #[rv a1, rv a2, .unset] [(.ref a1)])) (fun _ k => XS.aloadN X0.here hx rfl (hb hby d12_0) rfl rfl k) ?_
  refine Go.st (f' := (mkF m 2 #[rv a1, rv a2, .unset] [(.ref a2), (.ref a1)])) (fun _ k => XS.aloadN X0.here hx rfl (hb hby d12_1) rfl rfl k) ?_
  refine Go.st (f' := (mkF m 7 #[rv a1, rv a2, .unset] [])) (fun _ k => Jvm.RoadKit.acmp (g := (mkF m 2 #[rv a1, rv a2, .unset] [(.ref a2), (.ref a1)])) X0 hx rfl rfl rfl (pc0 := 2) (pc' := 7) (same := false) rfl (hb hby d12_2) rfl (decide_eq_false fun q => ne12 (Value.ref.inj q)) (by decide) (by decide) k) ?_
  refine Go.st (f' := (mkF m 8 #[rv a1, rv a2, .unset] [(.ref a2)])) (fun _ k => XS.aloadN X0.here hx rfl (hb hby d12_7) rfl rfl k) ?_
  obtain ⟨T1, X1, e1, st1⟩ := instY X0 hx hZ hown (hw _ (List.mem_of_getElem? (i := 81) rfl)) e0 (Ins.self E_a2) (g := (mkF m 8 #[rv a1, rv a2, .unset] [(.ref a2)])) rfl rfl (hb hby d12_8)
  refine Go.st (f' := (mkF m 11 #[rv a1, rv a2, .unset] [(.int 1)])) (fun _ k => st1 _ k) ?_
  refine Go.st (f' := (mkF m 14 #[rv a1, rv a2, .unset] [])) (fun _ k => XS.ifNo X1.here hx rfl (hb hby d12_11) rfl (by decide) k) ?_
  refine Go.st (f' := (mkF m 15 #[rv a1, rv a2, .unset] [(.ref a2)])) (fun _ k => XS.aloadN X1.here hx rfl (hb hby d12_14) rfl rfl k) ?_
  obtain ⟨T2, X2, e2, st2⟩ := castY X1 hx hZ hown (hw _ (List.mem_of_getElem? (i := 81) rfl)) e1 (Ins.self E_a2) (g := (mkF m 15 #[rv a1, rv a2, .unset] [(.ref a2)])) rfl rfl (hb hby d12_15)
  refine Go.st (f' := (mkF m 18 #[rv a1, rv a2, .unset] [(.ref a2)])) (fun _ k => st2 _ k) ?_
  refine Go.st (f' := (mkF m 19 #[rv a1, rv a2, rv a2] [])) (fun _ k => XS.astoreN X2.here hx rfl (hb hby d12_18) rfl rfl (l' := #[rv a1, rv a2, rv a2]) rfl k) ?_
  obtain ⟨T3, X3, e3, st3⟩ := getS2 X2 hx hZ hown (host := "") (Or.inl (hw _ (List.mem_of_getElem? (i := 33) rfl))) Via.refl e2 (S_i_COMPACT_STRINGS.ext O0.2) (g := (mkF m 19 #[rv a1, rv a2, rv a2] [])) rfl (hb hby d12_19)
  refine Go.st (f' := (mkF m 22 #[rv a1, rv a2, rv a2] [(.int i_COMPACT_STRINGS)])) (fun _ k => st3 _ k) ?_
  refine Go.st (f' := (mkF m 25 #[rv a1, rv a2, rv a2] [])) (fun _ k => XS.ifNo X3.here hx rfl (hb hby d12_22) rfl ((if0 _ _).trans (feq nz_i_COMPACT_STRINGS).1) k) ?_
  refine Go.st (f' := (mkF m 26 #[rv a1, rv a2, rv a2] [(.ref a1)])) (fun _ k => XS.aloadN X3.here hx rfl (hb hby d12_25) rfl rfl k) ?_
  obtain ⟨T4, X4, e4, st4⟩ := getF X3 hx hZ hown (host := "") (Or.inl (hw _ (List.mem_of_getElem? (i := 32) rfl))) Via.refl e3 F_a1_coder (g := (mkF m 26 #[rv a1, rv a2, rv a2] [(.ref a1)])) rfl rfl (hb hby d12_26)
  refine Go.st (f' := (mkF m 29 #[rv a1, rv a2, rv a2] [(.int 0)])) (fun _ k => st4 _ k) ?_
  refine Go.st (f' := (mkF m 30 #[rv a1, rv a2, rv a2] [(.ref a2), (.int 0)])) (fun _ k => XS.aloadN X4.here hx rfl (hb hby d12_29) rfl rfl k) ?_
  obtain ⟨T5, X5, e5, st5⟩ := getF X4 hx hZ hown (host := "") (Or.inl (hw _ (List.mem_of_getElem? (i := 32) rfl))) Via.refl e4 F_a2_coder (g := (mkF m 30 #[rv a1, rv a2, rv a2] [(.ref a2), (.int 0)])) rfl rfl (hb hby d12_30)
  refine Go.st (f' := (mkF m 33 #[rv a1, rv a2, rv a2] [(.int 0), (.int 0)])) (fun _ k => st5 _ k) ?_
  refine Go.st (f' := (mkF m 36 #[rv a1, rv a2, rv a2] [])) (fun _ k => XS.icmpNo X5.here hx rfl (hb hby d12_33) rfl (by decide) k) ?_
  refine Go.st (f' := (mkF m 37 #[rv a1, rv a2, rv a2] [(.ref a1)])) (fun _ k => XS.aloadN X5.here hx rfl (hb hby d12_36) rfl rfl k) ?_
  obtain ⟨T6, X6, e6, st6⟩ := getF X5 hx hZ hown (host := "") (Or.inl (hw _ (List.mem_of_getElem? (i := 31) rfl))) Via.refl e5 F_a1_value (g := (mkF m 37 #[rv a1, rv a2, rv a2] [(.ref a1)])) rfl rfl (hb hby d12_37)
  refine Go.st (f' := (mkF m 40 #[rv a1, rv a2, rv a2] [(.ref t1)])) (fun _ k => st6 _ k) ?_
  refine Go.st (f' := (mkF m 41 #[rv a1, rv a2, rv a2] [(.ref a2), (.ref t1)])) (fun _ k => XS.aloadN X6.here hx rfl (hb hby d12_40) rfl rfl k) ?_
  obtain ⟨T7, X7, e7, st7⟩ := getF X6 hx hZ hown (host := "") (Or.inl (hw _ (List.mem_of_getElem? (i := 31) rfl))) Via.refl e6 F_a2_value (g := (mkF m 41 #[rv a1, rv a2, rv a2] [(.ref a2), (.ref t1)])) rfl rfl (hb hby d12_41)
  refine Go.st (f' := (mkF m 44 #[rv a1, rv a2, rv a2] [(.ref t2), (.ref t1)])) (fun _ k => st7 _ k) ?_
  obtain ⟨_, _, ⟨T8, L8, kk8, nn8⟩, -, X8, ⟨Lc8, hQ8, lq8, yq8, zz8⟩, st8⟩ := Jvm.LawKit.callS X7 hx (y := (⟨"java/lang/StringLatin1", "equals", "([B[B)Z"⟩ : MethodName)) hown (mvT hZ (hw _ (List.mem_of_getElem? (i := 82) rfl))) (mvT hZ (hw _ (List.mem_of_getElem? (i := 83) rfl))) (mvT hZ (hw _ (List.mem_of_getElem? (i := 84) rfl))) (mvT hZ (hw _ (List.mem_of_getElem? (i := 85) rfl))) (by decide) (own_back (W := 0) (el_0_2 l Z a0 hw [] t1 k1 t2 k2 y0 y1 h0 n0 O0 V_t1 V_t2) hZ (hw _ (List.mem_of_getElem? (i := 85) rfl)) (hw _ (List.mem_of_getElem? (i := 84) rfl)) (by decide) (by decide)) (g := (mkF m 44 #[rv a1, rv a2, rv a2] [(.ref t2), (.ref t1)])) rfl (by rw [hml]; rfl) (argsL := [(.ref t1), (.ref t2)]) (rest := []) (lenOf pd___B_B_Z rfl) rfl (by show 2 * 0 + _ ≤ _; exact Nat.le_of_eq rfl) (hb hby d12_44) (fun _ _ => ⟨rfl, e7, (by decide : 0 + 0 ≤ _), (by decide : 0 + 0 ≤ _)⟩)
  dsimp only [Pt.U, Pt.locs, Pt.cells, Pt.slots] at X8 lq8 yq8 zz8 st8 hQ8
  subst lq8 yq8 zz8
  obtain ⟨rfl, Nq8, kq8⟩ := hQ8
  have N8 := Fr.app N0 Nq8
  refine Go.st (f' := (mkF m 47 #[rv a1, rv a2, rv a2] [(.int (elI_0_2 y0 y1))])) (fun _ k => st8 _ k) ?_
  by_cases cd9 : (elI_0_2 y0 y1) = (0 : Int32)
  · refine Go.st (f' := (mkF m 54 #[rv a1, rv a2, rv a2] [])) (fun _ k => XS.ifYes X8.here hx rfl (pc0 := 47) (pc' := 54) rfl (hb hby d12_47) rfl ((if0 _ _).trans (teq cd9).1) (by decide) (by decide) k) ?_
    refine Go.st (f' := (mkF m 55 #[rv a1, rv a2, rv a2] [(.int 0)])) (fun _ k => XS.iconst X8.here hx rfl (hb hby d12_54) k) ?_
    refine Go.retB X8 hlk hx (t := .boolean) hret (by simp) (hb hby d12_55) kq8 ?_ (by decide) (by decide)
    show (some (.int (0 : Int32)) : Option Value) = some (.int (eqI_0_2 y0 y1)) ∧ _
    exact ⟨by rw [eqI_0_2, if_pos cd9], N8, rfl⟩
  · refine Go.st (f' := (mkF m 50 #[rv a1, rv a2, rv a2] [])) (fun _ k => XS.ifNo X8.here hx rfl (hb hby d12_47) rfl ((if0 _ _).trans (feq cd9).1) k) ?_
    refine Go.st (f' := (mkF m 51 #[rv a1, rv a2, rv a2] [(.int 1)])) (fun _ k => XS.iconst X8.here hx rfl (hb hby d12_50) k) ?_
    refine Go.st (f' := (mkF m 55 #[rv a1, rv a2, rv a2] [(.int 1)])) (fun _ k => XS.goto X8.here hx rfl (pc0 := 51) (pc' := 55) rfl (hb hby d12_51) (by decide) (by decide) k) ?_
    refine Go.retB X8 hlk hx (t := .boolean) hret (by simp) (hb hby d12_55) kq8 ?_ (by decide) (by decide)
    show (some (.int (1 : Int32)) : Option Value) = some (.int (eqI_0_2 y0 y1)) ∧ _
    exact ⟨by rw [eqI_0_2, if_neg cd9], N8, rfl⟩
def eqI_1_0 (x0 : Int32) : Int32 := (if (elI_1_0 x0) = (0 : Int32) then (0 : Int32) else (1 : Int32))
set_option maxRecDepth 65536 in
set_option maxHeartbeats 40000000 in
theorem eq_1_0 (l : Launch) (Z : State) (a0 : Array Value) (hw : ∀ d ∈ tables_1, d.before a0 Z = true) (ws : List Jvm.Cond) (a1 : Addr) (a2 : Addr) (t1 : Addr) (k1 : ClassId) (t2 : Addr) (k2 : ClassId) (x0 : Int32) (w_NUMBER : Addr) (w_SYMBOL : Addr) (w_NAME : Addr) (w_END : Addr) (w_STRING : Addr) (i_COMPACT_STRINGS : Int32) (v_SIOOBE_FORMATTER : Value) (h0 : Heap) (n0 : Nat) (O0 : Old Z n0 h0) (ne12 : a1 ≠ a2) (E_a1 : Exa Z h0 a1 "java/lang/String") (F_a1_coder : Fld Z h0 a1 "java/lang/String" "coder" "B" (.int 0)) (F_a1_value : Fld Z h0 a1 "java/lang/String" "value" "[B" (.ref t1)) (E_a2 : Exa Z h0 a2 "java/lang/String") (F_a2_coder : Fld Z h0 a2 "java/lang/String" "coder" "B" (.int 0)) (F_a2_value : Fld Z h0 a2 "java/lang/String" "value" "[B" (.ref t2)) (V_t1 : Arv Z h0 t1 k1 .byte (1 : Int32) [(.int x0)] (.int 0)) (V_t2 : Arv Z h0 t2 k2 .byte (0 : Int32) [] (.int 0)) (WW : World1 Z w_NUMBER w_SYMBOL w_NAME w_END w_STRING i_COMPACT_STRINGS v_SIOOBE_FORMATTER) :
    Con l Z (⟨"java/lang/String", "equals", "(Ljava/lang/Object;)Z"⟩ : MethodName) jdk_42_method_66_code 3 (some .boolean) ws ({ frames := 1, cells := 0, slots := 0, locals := 14 } : Room) #[(.ref a1), (.ref a2)] h0 (fun v h L => v = some (.int (eqI_1_0 x0)) ∧ Fr n0 L ∧ h = h0) := by
  refine own_body (plainFor_of_name pn_java_lang_String) ?_
  intro p e s m below meth c s₁ hx hby hml hZ hown hnm hlk hret X0 e0
  have N0 := Fr.nil n0
  refine Go.st (T' := s₁) (f' := (mkF m 0 #[rv a1, rv a2, .unset] [])) (fun _ k => castTop (by first | (simp [entryFrame, mkF, argsToLocals, Value.category]; done) | rfl) k) ?_
  have ⟨S_i_COMPACT_STRINGS, nz_i_COMPACT_STRINGS, S_v_SIOOBE_FORMATTER, r_v_SIOOBE_FORMATTER, S_w_NUMBER, E_w_NUMBER, S_w_SYMBOL, E_w_SYMBOL, S_w_NAME, E_w_NAME, S_w_END, E_w_END, S_w_STRING, E_w_STRING, F_w_NUMBER_ordinal, F_w_SYMBOL_ordinal, F_w_NAME_ordinal, F_w_END_ordinal, F_w_STRING_ordinal⟩ := WW
  have lt_w_NUMBER := E_w_NUMBER.lt
  have lt_w_SYMBOL := E_w_SYMBOL.lt
  have lt_w_NAME := E_w_NAME.lt
  have lt_w_END := E_w_END.lt
  have lt_w_STRING := E_w_STRING.lt
  have lt_a1 := E_a1.lt
  have lt_a2 := E_a2.lt
  have lt_t1 := V_t1.lt
  have lt_t2 := V_t2.lt
  refine Go.st (f' := (mkF m 1 #[rv a1, rv a2, .unset] [(.ref a1)])) (fun _ k => XS.aloadN X0.here hx rfl (hb hby d12_0) rfl rfl k) ?_
  refine Go.st (f' := (mkF m 2 #[rv a1, rv a2, .unset] [(.ref a2), (.ref a1)])) (fun _ k => XS.aloadN X0.here hx rfl (hb hby d12_1) rfl rfl k) ?_
  refine Go.st (f' := (mkF m 7 #[rv a1, rv a2, .unset] [])) (fun _ k => Jvm.RoadKit.acmp (g := (mkF m 2 #[rv a1, rv a2, .unset] [(.ref a2), (.ref a1)])) X0 hx rfl rfl rfl (pc0 := 2) (pc' := 7) (same := false) rfl (hb hby d12_2) rfl (decide_eq_false fun q => ne12 (Value.ref.inj q)) (by decide) (by decide) k) ?_
  refine Go.st (f' := (mkF m 8 #[rv a1, rv a2, .unset] [(.ref a2)])) (fun _ k => XS.aloadN X0.here hx rfl (hb hby d12_7) rfl rfl k) ?_
  obtain ⟨T1, X1, e1, st1⟩ := instY X0 hx hZ hown (hw _ (List.mem_of_getElem? (i := 81) rfl)) e0 (Ins.self E_a2) (g := (mkF m 8 #[rv a1, rv a2, .unset] [(.ref a2)])) rfl rfl (hb hby d12_8)
  refine Go.st (f' := (mkF m 11 #[rv a1, rv a2, .unset] [(.int 1)])) (fun _ k => st1 _ k) ?_
  refine Go.st (f' := (mkF m 14 #[rv a1, rv a2, .unset] [])) (fun _ k => XS.ifNo X1.here hx rfl (hb hby d12_11) rfl (by decide) k) ?_
  refine Go.st (f' := (mkF m 15 #[rv a1, rv a2, .unset] [(.ref a2)])) (fun _ k => XS.aloadN X1.here hx rfl (hb hby d12_14) rfl rfl k) ?_
  obtain ⟨T2, X2, e2, st2⟩ := castY X1 hx hZ hown (hw _ (List.mem_of_getElem? (i := 81) rfl)) e1 (Ins.self E_a2) (g := (mkF m 15 #[rv a1, rv a2, .unset] [(.ref a2)])) rfl rfl (hb hby d12_15)
  refine Go.st (f' := (mkF m 18 #[rv a1, rv a2, .unset] [(.ref a2)])) (fun _ k => st2 _ k) ?_
  refine Go.st (f' := (mkF m 19 #[rv a1, rv a2, rv a2] [])) (fun _ k => XS.astoreN X2.here hx rfl (hb hby d12_18) rfl rfl (l' := #[rv a1, rv a2, rv a2]) rfl k) ?_
  obtain ⟨T3, X3, e3, st3⟩ := getS2 X2 hx hZ hown (host := "") (Or.inl (hw _ (List.mem_of_getElem? (i := 33) rfl))) Via.refl e2 (S_i_COMPACT_STRINGS.ext O0.2) (g := (mkF m 19 #[rv a1, rv a2, rv a2] [])) rfl (hb hby d12_19)
  refine Go.st (f' := (mkF m 22 #[rv a1, rv a2, rv a2] [(.int i_COMPACT_STRINGS)])) (fun _ k => st3 _ k) ?_
  refine Go.st (f' := (mkF m 25 #[rv a1, rv a2, rv a2] [])) (fun _ k => XS.ifNo X3.here hx rfl (hb hby d12_22) rfl ((if0 _ _).trans (feq nz_i_COMPACT_STRINGS).1) k) ?_
  refine Go.st (f' := (mkF m 26 #[rv a1, rv a2, rv a2] [(.ref a1)])) (fun _ k => XS.aloadN X3.here hx rfl (hb hby d12_25) rfl rfl k) ?_
  obtain ⟨T4, X4, e4, st4⟩ := getF X3 hx hZ hown (host := "") (Or.inl (hw _ (List.mem_of_getElem? (i := 32) rfl))) Via.refl e3 F_a1_coder (g := (mkF m 26 #[rv a1, rv a2, rv a2] [(.ref a1)])) rfl rfl (hb hby d12_26)
  refine Go.st (f' := (mkF m 29 #[rv a1, rv a2, rv a2] [(.int 0)])) (fun _ k => st4 _ k) ?_
  refine Go.st (f' := (mkF m 30 #[rv a1, rv a2, rv a2] [(.ref a2), (.int 0)])) (fun _ k => XS.aloadN X4.here hx rfl (hb hby d12_29) rfl rfl k) ?_
  obtain ⟨T5, X5, e5, st5⟩ := getF X4 hx hZ hown (host := "") (Or.inl (hw _ (List.mem_of_getElem? (i := 32) rfl))) Via.refl e4 F_a2_coder (g := (mkF m 30 #[rv a1, rv a2, rv a2] [(.ref a2), (.int 0)])) rfl rfl (hb hby d12_30)
  refine Go.st (f' := (mkF m 33 #[rv a1, rv a2, rv a2] [(.int 0), (.int 0)])) (fun _ k => st5 _ k) ?_
  refine Go.st (f' := (mkF m 36 #[rv a1, rv a2, rv a2] [])) (fun _ k => XS.icmpNo X5.here hx rfl (hb hby d12_33) rfl (by decide) k) ?_
  refine Go.st (f' := (mkF m 37 #[rv a1, rv a2, rv a2] [(.ref a1)])) (fun _ k => XS.aloadN X5.here hx rfl (hb hby d12_36) rfl rfl k) ?_
  obtain ⟨T6, X6, e6, st6⟩ := getF X5 hx hZ hown (host := "") (Or.inl (hw _ (List.mem_of_getElem? (i := 31) rfl))) Via.refl e5 F_a1_value (g := (mkF m 37 #[rv a1, rv a2, rv a2] [(.ref a1)])) rfl rfl (hb hby d12_37)
  refine Go.st (f' := (mkF m 40 #[rv a1, rv a2, rv a2] [(.ref t1)])) (fun _ k => st6 _ k) ?_
  refine Go.st (f' := (mkF m 41 #[rv a1, rv a2, rv a2] [(.ref a2), (.ref t1)])) (fun _ k => XS.aloadN X6.here hx rfl (hb hby d12_40) rfl rfl k) ?_
  obtain ⟨T7, X7, e7, st7⟩ := getF X6 hx hZ hown (host := "") (Or.inl (hw _ (List.mem_of_getElem? (i := 31) rfl))) Via.refl e6 F_a2_value (g := (mkF m 41 #[rv a1, rv a2, rv a2] [(.ref a2), (.ref t1)])) rfl rfl (hb hby d12_41)
  refine Go.st (f' := (mkF m 44 #[rv a1, rv a2, rv a2] [(.ref t2), (.ref t1)])) (fun _ k => st7 _ k) ?_
  obtain ⟨_, _, ⟨T8, L8, kk8, nn8⟩, -, X8, ⟨Lc8, hQ8, lq8, yq8, zz8⟩, st8⟩ := Jvm.LawKit.callS X7 hx (y := (⟨"java/lang/StringLatin1", "equals", "([B[B)Z"⟩ : MethodName)) hown (mvT hZ (hw _ (List.mem_of_getElem? (i := 82) rfl))) (mvT hZ (hw _ (List.mem_of_getElem? (i := 83) rfl))) (mvT hZ (hw _ (List.mem_of_getElem? (i := 84) rfl))) (mvT hZ (hw _ (List.mem_of_getElem? (i := 85) rfl))) (by decide) (own_back (W := 0) (el_1_0 l Z a0 hw [] t1 k1 t2 k2 x0 h0 n0 O0 V_t1 V_t2) hZ (hw _ (List.mem_of_getElem? (i := 85) rfl)) (hw _ (List.mem_of_getElem? (i := 84) rfl)) (by decide) (by decide)) (g := (mkF m 44 #[rv a1, rv a2, rv a2] [(.ref t2), (.ref t1)])) rfl (by rw [hml]; rfl) (argsL := [(.ref t1), (.ref t2)]) (rest := []) (lenOf pd___B_B_Z rfl) rfl (by show 2 * 0 + _ ≤ _; exact Nat.le_of_eq rfl) (hb hby d12_44) (fun _ _ => ⟨rfl, e7, (by decide : 0 + 0 ≤ _), (by decide : 0 + 0 ≤ _)⟩)
  dsimp only [Pt.U, Pt.locs, Pt.cells, Pt.slots] at X8 lq8 yq8 zz8 st8 hQ8
  subst lq8 yq8 zz8
  obtain ⟨rfl, Nq8, kq8⟩ := hQ8
  have N8 := Fr.app N0 Nq8
  refine Go.st (f' := (mkF m 47 #[rv a1, rv a2, rv a2] [(.int (elI_1_0 x0))])) (fun _ k => st8 _ k) ?_
  by_cases cd9 : (elI_1_0 x0) = (0 : Int32)
  · refine Go.st (f' := (mkF m 54 #[rv a1, rv a2, rv a2] [])) (fun _ k => XS.ifYes X8.here hx rfl (pc0 := 47) (pc' := 54) rfl (hb hby d12_47) rfl ((if0 _ _).trans (teq cd9).1) (by decide) (by decide) k) ?_
    refine Go.st (f' := (mkF m 55 #[rv a1, rv a2, rv a2] [(.int 0)])) (fun _ k => XS.iconst X8.here hx rfl (hb hby d12_54) k) ?_
    refine Go.retB X8 hlk hx (t := .boolean) hret (by simp) (hb hby d12_55) kq8 ?_ (by decide) (by decide)
    show (some (.int (0 : Int32)) : Option Value) = some (.int (eqI_1_0 x0)) ∧ _
    exact ⟨by rw [eqI_1_0, if_pos cd9], N8, rfl⟩
  · refine Go.st (f' := (mkF m 50 #[rv a1, rv a2, rv a2] [])) (fun _ k => XS.ifNo X8.here hx rfl (hb hby d12_47) rfl ((if0 _ _).trans (feq cd9).1) k) ?_
    refine Go.st (f' := (mkF m 51 #[rv a1, rv a2, rv a2] [(.int 1)])) (fun _ k => XS.iconst X8.here hx rfl (hb hby d12_50) k) ?_
    refine Go.st (f' := (mkF m 55 #[rv a1, rv a2, rv a2] [(.int 1)])) (fun _ k => XS.goto X8.here hx rfl (pc0 := 51) (pc' := 55) rfl (hb hby d12_51) (by decide) (by decide) k) ?_
    refine Go.retB X8 hlk hx (t := .boolean) hret (by simp) (hb hby d12_55) kq8 ?_ (by decide) (by decide)
    show (some (.int (1 : Int32)) : Option Value) = some (.int (eqI_1_0 x0)) ∧ _
    exact ⟨by rw [eqI_1_0, if_neg cd9], N8, rfl⟩
def eqI_1_1 (x0 : Int32) (y0 : Int32) : Int32 := (if (elI_1_1 x0 y0) = (0 : Int32) then (0 : Int32) else (1 : Int32))
set_option maxRecDepth 65536 in
set_option maxHeartbeats 40000000 in
theorem eq_1_1 (l : Launch) (Z : State) (a0 : Array Value) (hw : ∀ d ∈ tables_1, d.before a0 Z = true) (ws : List Jvm.Cond) (a1 : Addr) (a2 : Addr) (t1 : Addr) (k1 : ClassId) (t2 : Addr) (k2 : ClassId) (x0 : Int32) (y0 : Int32) (w_NUMBER : Addr) (w_SYMBOL : Addr) (w_NAME : Addr) (w_END : Addr) (w_STRING : Addr) (i_COMPACT_STRINGS : Int32) (v_SIOOBE_FORMATTER : Value) (h0 : Heap) (n0 : Nat) (O0 : Old Z n0 h0) (ne12 : a1 ≠ a2) (E_a1 : Exa Z h0 a1 "java/lang/String") (F_a1_coder : Fld Z h0 a1 "java/lang/String" "coder" "B" (.int 0)) (F_a1_value : Fld Z h0 a1 "java/lang/String" "value" "[B" (.ref t1)) (E_a2 : Exa Z h0 a2 "java/lang/String") (F_a2_coder : Fld Z h0 a2 "java/lang/String" "coder" "B" (.int 0)) (F_a2_value : Fld Z h0 a2 "java/lang/String" "value" "[B" (.ref t2)) (V_t1 : Arv Z h0 t1 k1 .byte (1 : Int32) [(.int x0)] (.int 0)) (V_t2 : Arv Z h0 t2 k2 .byte (1 : Int32) [(.int y0)] (.int 0)) (WW : World1 Z w_NUMBER w_SYMBOL w_NAME w_END w_STRING i_COMPACT_STRINGS v_SIOOBE_FORMATTER) :
    Con l Z (⟨"java/lang/String", "equals", "(Ljava/lang/Object;)Z"⟩ : MethodName) jdk_42_method_66_code 3 (some .boolean) ws ({ frames := 1, cells := 0, slots := 0, locals := 14 } : Room) #[(.ref a1), (.ref a2)] h0 (fun v h L => v = some (.int (eqI_1_1 x0 y0)) ∧ Fr n0 L ∧ h = h0) := by
  refine own_body (plainFor_of_name pn_java_lang_String) ?_
  intro p e s m below meth c s₁ hx hby hml hZ hown hnm hlk hret X0 e0
  have N0 := Fr.nil n0
  refine Go.st (T' := s₁) (f' := (mkF m 0 #[rv a1, rv a2, .unset] [])) (fun _ k => castTop (by first | (simp [entryFrame, mkF, argsToLocals, Value.category]; done) | rfl) k) ?_
  have ⟨S_i_COMPACT_STRINGS, nz_i_COMPACT_STRINGS, S_v_SIOOBE_FORMATTER, r_v_SIOOBE_FORMATTER, S_w_NUMBER, E_w_NUMBER, S_w_SYMBOL, E_w_SYMBOL, S_w_NAME, E_w_NAME, S_w_END, E_w_END, S_w_STRING, E_w_STRING, F_w_NUMBER_ordinal, F_w_SYMBOL_ordinal, F_w_NAME_ordinal, F_w_END_ordinal, F_w_STRING_ordinal⟩ := WW
  have lt_w_NUMBER := E_w_NUMBER.lt
  have lt_w_SYMBOL := E_w_SYMBOL.lt
  have lt_w_NAME := E_w_NAME.lt
  have lt_w_END := E_w_END.lt
  have lt_w_STRING := E_w_STRING.lt
  have lt_a1 := E_a1.lt
  have lt_a2 := E_a2.lt
  have lt_t1 := V_t1.lt
  have lt_t2 := V_t2.lt
  refine Go.st (f' := (mkF m 1 #[rv a1, rv a2, .unset] [(.ref a1)])) (fun _ k => XS.aloadN X0.here hx rfl (hb hby d12_0) rfl rfl k) ?_
  refine Go.st (f' := (mkF m 2 #[rv a1, rv a2, .unset] [(.ref a2), (.ref a1)])) (fun _ k => XS.aloadN X0.here hx rfl (hb hby d12_1) rfl rfl k) ?_
  refine Go.st (f' := (mkF m 7 #[rv a1, rv a2, .unset] [])) (fun _ k => Jvm.RoadKit.acmp (g := (mkF m 2 #[rv a1, rv a2, .unset] [(.ref a2), (.ref a1)])) X0 hx rfl rfl rfl (pc0 := 2) (pc' := 7) (same := false) rfl (hb hby d12_2) rfl (decide_eq_false fun q => ne12 (Value.ref.inj q)) (by decide) (by decide) k) ?_
  refine Go.st (f' := (mkF m 8 #[rv a1, rv a2, .unset] [(.ref a2)])) (fun _ k => XS.aloadN X0.here hx rfl (hb hby d12_7) rfl rfl k) ?_
  obtain ⟨T1, X1, e1, st1⟩ := instY X0 hx hZ hown (hw _ (List.mem_of_getElem? (i := 81) rfl)) e0 (Ins.self E_a2) (g := (mkF m 8 #[rv a1, rv a2, .unset] [(.ref a2)])) rfl rfl (hb hby d12_8)
  refine Go.st (f' := (mkF m 11 #[rv a1, rv a2, .unset] [(.int 1)])) (fun _ k => st1 _ k) ?_
  refine Go.st (f' := (mkF m 14 #[rv a1, rv a2, .unset] [])) (fun _ k => XS.ifNo X1.here hx rfl (hb hby d12_11) rfl (by decide) k) ?_
  refine Go.st (f' := (mkF m 15 #[rv a1, rv a2, .unset] [(.ref a2)])) (fun _ k => XS.aloadN X1.here hx rfl (hb hby d12_14) rfl rfl k) ?_
  obtain ⟨T2, X2, e2, st2⟩ := castY X1 hx hZ hown (hw _ (List.mem_of_getElem? (i := 81) rfl)) e1 (Ins.self E_a2) (g := (mkF m 15 #[rv a1, rv a2, .unset] [(.ref a2)])) rfl rfl (hb hby d12_15)
  refine Go.st (f' := (mkF m 18 #[rv a1, rv a2, .unset] [(.ref a2)])) (fun _ k => st2 _ k) ?_
  refine Go.st (f' := (mkF m 19 #[rv a1, rv a2, rv a2] [])) (fun _ k => XS.astoreN X2.here hx rfl (hb hby d12_18) rfl rfl (l' := #[rv a1, rv a2, rv a2]) rfl k) ?_
  obtain ⟨T3, X3, e3, st3⟩ := getS2 X2 hx hZ hown (host := "") (Or.inl (hw _ (List.mem_of_getElem? (i := 33) rfl))) Via.refl e2 (S_i_COMPACT_STRINGS.ext O0.2) (g := (mkF m 19 #[rv a1, rv a2, rv a2] [])) rfl (hb hby d12_19)
  refine Go.st (f' := (mkF m 22 #[rv a1, rv a2, rv a2] [(.int i_COMPACT_STRINGS)])) (fun _ k => st3 _ k) ?_
  refine Go.st (f' := (mkF m 25 #[rv a1, rv a2, rv a2] [])) (fun _ k => XS.ifNo X3.here hx rfl (hb hby d12_22) rfl ((if0 _ _).trans (feq nz_i_COMPACT_STRINGS).1) k) ?_
  refine Go.st (f' := (mkF m 26 #[rv a1, rv a2, rv a2] [(.ref a1)])) (fun _ k => XS.aloadN X3.here hx rfl (hb hby d12_25) rfl rfl k) ?_
  obtain ⟨T4, X4, e4, st4⟩ := getF X3 hx hZ hown (host := "") (Or.inl (hw _ (List.mem_of_getElem? (i := 32) rfl))) Via.refl e3 F_a1_coder (g := (mkF m 26 #[rv a1, rv a2, rv a2] [(.ref a1)])) rfl rfl (hb hby d12_26)
  refine Go.st (f' := (mkF m 29 #[rv a1, rv a2, rv a2] [(.int 0)])) (fun _ k => st4 _ k) ?_
  refine Go.st (f' := (mkF m 30 #[rv a1, rv a2, rv a2] [(.ref a2), (.int 0)])) (fun _ k => XS.aloadN X4.here hx rfl (hb hby d12_29) rfl rfl k) ?_
  obtain ⟨T5, X5, e5, st5⟩ := getF X4 hx hZ hown (host := "") (Or.inl (hw _ (List.mem_of_getElem? (i := 32) rfl))) Via.refl e4 F_a2_coder (g := (mkF m 30 #[rv a1, rv a2, rv a2] [(.ref a2), (.int 0)])) rfl rfl (hb hby d12_30)
  refine Go.st (f' := (mkF m 33 #[rv a1, rv a2, rv a2] [(.int 0), (.int 0)])) (fun _ k => st5 _ k) ?_
  refine Go.st (f' := (mkF m 36 #[rv a1, rv a2, rv a2] [])) (fun _ k => XS.icmpNo X5.here hx rfl (hb hby d12_33) rfl (by decide) k) ?_
  refine Go.st (f' := (mkF m 37 #[rv a1, rv a2, rv a2] [(.ref a1)])) (fun _ k => XS.aloadN X5.here hx rfl (hb hby d12_36) rfl rfl k) ?_
  obtain ⟨T6, X6, e6, st6⟩ := getF X5 hx hZ hown (host := "") (Or.inl (hw _ (List.mem_of_getElem? (i := 31) rfl))) Via.refl e5 F_a1_value (g := (mkF m 37 #[rv a1, rv a2, rv a2] [(.ref a1)])) rfl rfl (hb hby d12_37)
  refine Go.st (f' := (mkF m 40 #[rv a1, rv a2, rv a2] [(.ref t1)])) (fun _ k => st6 _ k) ?_
  refine Go.st (f' := (mkF m 41 #[rv a1, rv a2, rv a2] [(.ref a2), (.ref t1)])) (fun _ k => XS.aloadN X6.here hx rfl (hb hby d12_40) rfl rfl k) ?_
  obtain ⟨T7, X7, e7, st7⟩ := getF X6 hx hZ hown (host := "") (Or.inl (hw _ (List.mem_of_getElem? (i := 31) rfl))) Via.refl e6 F_a2_value (g := (mkF m 41 #[rv a1, rv a2, rv a2] [(.ref a2), (.ref t1)])) rfl rfl (hb hby d12_41)
  refine Go.st (f' := (mkF m 44 #[rv a1, rv a2, rv a2] [(.ref t2), (.ref t1)])) (fun _ k => st7 _ k) ?_
  obtain ⟨_, _, ⟨T8, L8, kk8, nn8⟩, -, X8, ⟨Lc8, hQ8, lq8, yq8, zz8⟩, st8⟩ := Jvm.LawKit.callS X7 hx (y := (⟨"java/lang/StringLatin1", "equals", "([B[B)Z"⟩ : MethodName)) hown (mvT hZ (hw _ (List.mem_of_getElem? (i := 82) rfl))) (mvT hZ (hw _ (List.mem_of_getElem? (i := 83) rfl))) (mvT hZ (hw _ (List.mem_of_getElem? (i := 84) rfl))) (mvT hZ (hw _ (List.mem_of_getElem? (i := 85) rfl))) (by decide) (own_back (W := 0) (el_1_1 l Z a0 hw [] t1 k1 t2 k2 x0 y0 h0 n0 O0 V_t1 V_t2) hZ (hw _ (List.mem_of_getElem? (i := 85) rfl)) (hw _ (List.mem_of_getElem? (i := 84) rfl)) (by decide) (by decide)) (g := (mkF m 44 #[rv a1, rv a2, rv a2] [(.ref t2), (.ref t1)])) rfl (by rw [hml]; rfl) (argsL := [(.ref t1), (.ref t2)]) (rest := []) (lenOf pd___B_B_Z rfl) rfl (by show 2 * 0 + _ ≤ _; exact Nat.le_of_eq rfl) (hb hby d12_44) (fun _ _ => ⟨rfl, e7, (by decide : 0 + 0 ≤ _), (by decide : 0 + 0 ≤ _)⟩)
  dsimp only [Pt.U, Pt.locs, Pt.cells, Pt.slots] at X8 lq8 yq8 zz8 st8 hQ8
  subst lq8 yq8 zz8
  obtain ⟨rfl, Nq8, kq8⟩ := hQ8
  have N8 := Fr.app N0 Nq8
  refine Go.st (f' := (mkF m 47 #[rv a1, rv a2, rv a2] [(.int (elI_1_1 x0 y0))])) (fun _ k => st8 _ k) ?_
  by_cases cd9 : (elI_1_1 x0 y0) = (0 : Int32)
  · refine Go.st (f' := (mkF m 54 #[rv a1, rv a2, rv a2] [])) (fun _ k => XS.ifYes X8.here hx rfl (pc0 := 47) (pc' := 54) rfl (hb hby d12_47) rfl ((if0 _ _).trans (teq cd9).1) (by decide) (by decide) k) ?_
    refine Go.st (f' := (mkF m 55 #[rv a1, rv a2, rv a2] [(.int 0)])) (fun _ k => XS.iconst X8.here hx rfl (hb hby d12_54) k) ?_
    refine Go.retB X8 hlk hx (t := .boolean) hret (by simp) (hb hby d12_55) kq8 ?_ (by decide) (by decide)
    show (some (.int (0 : Int32)) : Option Value) = some (.int (eqI_1_1 x0 y0)) ∧ _
    exact ⟨by rw [eqI_1_1, if_pos cd9], N8, rfl⟩
  · refine Go.st (f' := (mkF m 50 #[rv a1, rv a2, rv a2] [])) (fun _ k => XS.ifNo X8.here hx rfl (hb hby d12_47) rfl ((if0 _ _).trans (feq cd9).1) k) ?_
    refine Go.st (f' := (mkF m 51 #[rv a1, rv a2, rv a2] [(.int 1)])) (fun _ k => XS.iconst X8.here hx rfl (hb hby d12_50) k) ?_
    refine Go.st (f' := (mkF m 55 #[rv a1, rv a2, rv a2] [(.int 1)])) (fun _ k => XS.goto X8.here hx rfl (pc0 := 51) (pc' := 55) rfl (hb hby d12_51) (by decide) (by decide) k) ?_
    refine Go.retB X8 hlk hx (t := .boolean) hret (by simp) (hb hby d12_55) kq8 ?_ (by decide) (by decide)
    show (some (.int (1 : Int32)) : Option Value) = some (.int (eqI_1_1 x0 y0)) ∧ _
    exact ⟨by rw [eqI_1_1, if_neg cd9], N8, rfl⟩
def eqI_1_2 (x0 : Int32) (y0 : Int32) (y1 : Int32) : Int32 := (if (elI_1_2 x0 y0 y1) = (0 : Int32) then (0 : Int32) else (1 : Int32))
set_option maxRecDepth 65536 in
set_option maxHeartbeats 40000000 in
theorem eq_1_2 (l : Launch) (Z : State) (a0 : Array Value) (hw : ∀ d ∈ tables_1, d.before a0 Z = true) (ws : List Jvm.Cond) (a1 : Addr) (a2 : Addr) (t1 : Addr) (k1 : ClassId) (t2 : Addr) (k2 : ClassId) (x0 : Int32) (y0 : Int32) (y1 : Int32) (w_NUMBER : Addr) (w_SYMBOL : Addr) (w_NAME : Addr) (w_END : Addr) (w_STRING : Addr) (i_COMPACT_STRINGS : Int32) (v_SIOOBE_FORMATTER : Value) (h0 : Heap) (n0 : Nat) (O0 : Old Z n0 h0) (ne12 : a1 ≠ a2) (E_a1 : Exa Z h0 a1 "java/lang/String") (F_a1_coder : Fld Z h0 a1 "java/lang/String" "coder" "B" (.int 0)) (F_a1_value : Fld Z h0 a1 "java/lang/String" "value" "[B" (.ref t1)) (E_a2 : Exa Z h0 a2 "java/lang/String") (F_a2_coder : Fld Z h0 a2 "java/lang/String" "coder" "B" (.int 0)) (F_a2_value : Fld Z h0 a2 "java/lang/String" "value" "[B" (.ref t2)) (V_t1 : Arv Z h0 t1 k1 .byte (1 : Int32) [(.int x0)] (.int 0)) (V_t2 : Arv Z h0 t2 k2 .byte (2 : Int32) [(.int y0), (.int y1)] (.int 0)) (WW : World1 Z w_NUMBER w_SYMBOL w_NAME w_END w_STRING i_COMPACT_STRINGS v_SIOOBE_FORMATTER) :
    Con l Z (⟨"java/lang/String", "equals", "(Ljava/lang/Object;)Z"⟩ : MethodName) jdk_42_method_66_code 3 (some .boolean) ws ({ frames := 1, cells := 0, slots := 0, locals := 14 } : Room) #[(.ref a1), (.ref a2)] h0 (fun v h L => v = some (.int (eqI_1_2 x0 y0 y1)) ∧ Fr n0 L ∧ h = h0) := by
  refine own_body (plainFor_of_name pn_java_lang_String) ?_
  intro p e s m below meth c s₁ hx hby hml hZ hown hnm hlk hret X0 e0
  have N0 := Fr.nil n0
  refine Go.st (T' := s₁) (f' := (mkF m 0 #[rv a1, rv a2, .unset] [])) (fun _ k => castTop (by first | (simp [entryFrame, mkF, argsToLocals, Value.category]; done) | rfl) k) ?_
  have ⟨S_i_COMPACT_STRINGS, nz_i_COMPACT_STRINGS, S_v_SIOOBE_FORMATTER, r_v_SIOOBE_FORMATTER, S_w_NUMBER, E_w_NUMBER, S_w_SYMBOL, E_w_SYMBOL, S_w_NAME, E_w_NAME, S_w_END, E_w_END, S_w_STRING, E_w_STRING, F_w_NUMBER_ordinal, F_w_SYMBOL_ordinal, F_w_NAME_ordinal, F_w_END_ordinal, F_w_STRING_ordinal⟩ := WW
  have lt_w_NUMBER := E_w_NUMBER.lt
  have lt_w_SYMBOL := E_w_SYMBOL.lt
  have lt_w_NAME := E_w_NAME.lt
  have lt_w_END := E_w_END.lt
  have lt_w_STRING := E_w_STRING.lt
  have lt_a1 := E_a1.lt
  have lt_a2 := E_a2.lt
  have lt_t1 := V_t1.lt
  have lt_t2 := V_t2.lt
  refine Go.st (f' := (mkF m 1 #[rv a1, rv a2, .unset] [(.ref a1)])) (fun _ k => XS.aloadN X0.here hx rfl (hb hby d12_0) rfl rfl k) ?_
  refine Go.st (f' := (mkF m 2 #[rv a1, rv a2, .unset] [(.ref a2), (.ref a1)])) (fun _ k => XS.aloadN X0.here hx rfl (hb hby d12_1) rfl rfl k) ?_
  refine Go.st (f' := (mkF m 7 #[rv a1, rv a2, .unset] [])) (fun _ k => Jvm.RoadKit.acmp (g := (mkF m 2 #[rv a1, rv a2, .unset] [(.ref a2), (.ref a1)])) X0 hx rfl rfl rfl (pc0 := 2) (pc' := 7) (same := false) rfl (hb hby d12_2) rfl (decide_eq_false fun q => ne12 (Value.ref.inj q)) (by decide) (by decide) k) ?_
  refine Go.st (f' := (mkF m 8 #[rv a1, rv a2, .unset] [(.ref a2)])) (fun _ k => XS.aloadN X0.here hx rfl (hb hby d12_7) rfl rfl k) ?_
  obtain ⟨T1, X1, e1, st1⟩ := instY X0 hx hZ hown (hw _ (List.mem_of_getElem? (i := 81) rfl)) e0 (Ins.self E_a2) (g := (mkF m 8 #[rv a1, rv a2, .unset] [(.ref a2)])) rfl rfl (hb hby d12_8)
  refine Go.st (f' := (mkF m 11 #[rv a1, rv a2, .unset] [(.int 1)])) (fun _ k => st1 _ k) ?_
  refine Go.st (f' := (mkF m 14 #[rv a1, rv a2, .unset] [])) (fun _ k => XS.ifNo X1.here hx rfl (hb hby d12_11) rfl (by decide) k) ?_
  refine Go.st (f' := (mkF m 15 #[rv a1, rv a2, .unset] [(.ref a2)])) (fun _ k => XS.aloadN X1.here hx rfl (hb hby d12_14) rfl rfl k) ?_
  obtain ⟨T2, X2, e2, st2⟩ := castY X1 hx hZ hown (hw _ (List.mem_of_getElem? (i := 81) rfl)) e1 (Ins.self E_a2) (g := (mkF m 15 #[rv a1, rv a2, .unset] [(.ref a2)])) rfl rfl (hb hby d12_15)
  refine Go.st (f' := (mkF m 18 #[rv a1, rv a2, .unset] [(.ref a2)])) (fun _ k => st2 _ k) ?_
  refine Go.st (f' := (mkF m 19 #[rv a1, rv a2, rv a2] [])) (fun _ k => XS.astoreN X2.here hx rfl (hb hby d12_18) rfl rfl (l' := #[rv a1, rv a2, rv a2]) rfl k) ?_
  obtain ⟨T3, X3, e3, st3⟩ := getS2 X2 hx hZ hown (host := "") (Or.inl (hw _ (List.mem_of_getElem? (i := 33) rfl))) Via.refl e2 (S_i_COMPACT_STRINGS.ext O0.2) (g := (mkF m 19 #[rv a1, rv a2, rv a2] [])) rfl (hb hby d12_19)
  refine Go.st (f' := (mkF m 22 #[rv a1, rv a2, rv a2] [(.int i_COMPACT_STRINGS)])) (fun _ k => st3 _ k) ?_
  refine Go.st (f' := (mkF m 25 #[rv a1, rv a2, rv a2] [])) (fun _ k => XS.ifNo X3.here hx rfl (hb hby d12_22) rfl ((if0 _ _).trans (feq nz_i_COMPACT_STRINGS).1) k) ?_
  refine Go.st (f' := (mkF m 26 #[rv a1, rv a2, rv a2] [(.ref a1)])) (fun _ k => XS.aloadN X3.here hx rfl (hb hby d12_25) rfl rfl k) ?_
  obtain ⟨T4, X4, e4, st4⟩ := getF X3 hx hZ hown (host := "") (Or.inl (hw _ (List.mem_of_getElem? (i := 32) rfl))) Via.refl e3 F_a1_coder (g := (mkF m 26 #[rv a1, rv a2, rv a2] [(.ref a1)])) rfl rfl (hb hby d12_26)
  refine Go.st (f' := (mkF m 29 #[rv a1, rv a2, rv a2] [(.int 0)])) (fun _ k => st4 _ k) ?_
  refine Go.st (f' := (mkF m 30 #[rv a1, rv a2, rv a2] [(.ref a2), (.int 0)])) (fun _ k => XS.aloadN X4.here hx rfl (hb hby d12_29) rfl rfl k) ?_
  obtain ⟨T5, X5, e5, st5⟩ := getF X4 hx hZ hown (host := "") (Or.inl (hw _ (List.mem_of_getElem? (i := 32) rfl))) Via.refl e4 F_a2_coder (g := (mkF m 30 #[rv a1, rv a2, rv a2] [(.ref a2), (.int 0)])) rfl rfl (hb hby d12_30)
  refine Go.st (f' := (mkF m 33 #[rv a1, rv a2, rv a2] [(.int 0), (.int 0)])) (fun _ k => st5 _ k) ?_
  refine Go.st (f' := (mkF m 36 #[rv a1, rv a2, rv a2] [])) (fun _ k => XS.icmpNo X5.here hx rfl (hb hby d12_33) rfl (by decide) k) ?_
  refine Go.st (f' := (mkF m 37 #[rv a1, rv a2, rv a2] [(.ref a1)])) (fun _ k => XS.aloadN X5.here hx rfl (hb hby d12_36) rfl rfl k) ?_
  obtain ⟨T6, X6, e6, st6⟩ := getF X5 hx hZ hown (host := "") (Or.inl (hw _ (List.mem_of_getElem? (i := 31) rfl))) Via.refl e5 F_a1_value (g := (mkF m 37 #[rv a1, rv a2, rv a2] [(.ref a1)])) rfl rfl (hb hby d12_37)
  refine Go.st (f' := (mkF m 40 #[rv a1, rv a2, rv a2] [(.ref t1)])) (fun _ k => st6 _ k) ?_
  refine Go.st (f' := (mkF m 41 #[rv a1, rv a2, rv a2] [(.ref a2), (.ref t1)])) (fun _ k => XS.aloadN X6.here hx rfl (hb hby d12_40) rfl rfl k) ?_
  obtain ⟨T7, X7, e7, st7⟩ := getF X6 hx hZ hown (host := "") (Or.inl (hw _ (List.mem_of_getElem? (i := 31) rfl))) Via.refl e6 F_a2_value (g := (mkF m 41 #[rv a1, rv a2, rv a2] [(.ref a2), (.ref t1)])) rfl rfl (hb hby d12_41)
  refine Go.st (f' := (mkF m 44 #[rv a1, rv a2, rv a2] [(.ref t2), (.ref t1)])) (fun _ k => st7 _ k) ?_
  obtain ⟨_, _, ⟨T8, L8, kk8, nn8⟩, -, X8, ⟨Lc8, hQ8, lq8, yq8, zz8⟩, st8⟩ := Jvm.LawKit.callS X7 hx (y := (⟨"java/lang/StringLatin1", "equals", "([B[B)Z"⟩ : MethodName)) hown (mvT hZ (hw _ (List.mem_of_getElem? (i := 82) rfl))) (mvT hZ (hw _ (List.mem_of_getElem? (i := 83) rfl))) (mvT hZ (hw _ (List.mem_of_getElem? (i := 84) rfl))) (mvT hZ (hw _ (List.mem_of_getElem? (i := 85) rfl))) (by decide) (own_back (W := 0) (el_1_2 l Z a0 hw [] t1 k1 t2 k2 x0 y0 y1 h0 n0 O0 V_t1 V_t2) hZ (hw _ (List.mem_of_getElem? (i := 85) rfl)) (hw _ (List.mem_of_getElem? (i := 84) rfl)) (by decide) (by decide)) (g := (mkF m 44 #[rv a1, rv a2, rv a2] [(.ref t2), (.ref t1)])) rfl (by rw [hml]; rfl) (argsL := [(.ref t1), (.ref t2)]) (rest := []) (lenOf pd___B_B_Z rfl) rfl (by show 2 * 0 + _ ≤ _; exact Nat.le_of_eq rfl) (hb hby d12_44) (fun _ _ => ⟨rfl, e7, (by decide : 0 + 0 ≤ _), (by decide : 0 + 0 ≤ _)⟩)
  dsimp only [Pt.U, Pt.locs, Pt.cells, Pt.slots] at X8 lq8 yq8 zz8 st8 hQ8
  subst lq8 yq8 zz8
  obtain ⟨rfl, Nq8, kq8⟩ := hQ8
  have N8 := Fr.app N0 Nq8
  refine Go.st (f' := (mkF m 47 #[rv a1, rv a2, rv a2] [(.int (elI_1_2 x0 y0 y1))])) (fun _ k => st8 _ k) ?_
  by_cases cd9 : (elI_1_2 x0 y0 y1) = (0 : Int32)
  · refine Go.st (f' := (mkF m 54 #[rv a1, rv a2, rv a2] [])) (fun _ k => XS.ifYes X8.here hx rfl (pc0 := 47) (pc' := 54) rfl (hb hby d12_47) rfl ((if0 _ _).trans (teq cd9).1) (by decide) (by decide) k) ?_
    refine Go.st (f' := (mkF m 55 #[rv a1, rv a2, rv a2] [(.int 0)])) (fun _ k => XS.iconst X8.here hx rfl (hb hby d12_54) k) ?_
    refine Go.retB X8 hlk hx (t := .boolean) hret (by simp) (hb hby d12_55) kq8 ?_ (by decide) (by decide)
    show (some (.int (0 : Int32)) : Option Value) = some (.int (eqI_1_2 x0 y0 y1)) ∧ _
    exact ⟨by rw [eqI_1_2, if_pos cd9], N8, rfl⟩
  · refine Go.st (f' := (mkF m 50 #[rv a1, rv a2, rv a2] [])) (fun _ k => XS.ifNo X8.here hx rfl (hb hby d12_47) rfl ((if0 _ _).trans (feq cd9).1) k) ?_
    refine Go.st (f' := (mkF m 51 #[rv a1, rv a2, rv a2] [(.int 1)])) (fun _ k => XS.iconst X8.here hx rfl (hb hby d12_50) k) ?_
    refine Go.st (f' := (mkF m 55 #[rv a1, rv a2, rv a2] [(.int 1)])) (fun _ k => XS.goto X8.here hx rfl (pc0 := 51) (pc' := 55) rfl (hb hby d12_51) (by decide) (by decide) k) ?_
    refine Go.retB X8 hlk hx (t := .boolean) hret (by simp) (hb hby d12_55) kq8 ?_ (by decide) (by decide)
    show (some (.int (1 : Int32)) : Option Value) = some (.int (eqI_1_2 x0 y0 y1)) ∧ _
    exact ⟨by rw [eqI_1_2, if_neg cd9], N8, rfl⟩
def eqI_2_0 (x0 : Int32) (x1 : Int32) : Int32 := (if (elI_2_0 x0 x1) = (0 : Int32) then (0 : Int32) else (1 : Int32))
set_option maxRecDepth 65536 in
set_option maxHeartbeats 40000000 in
theorem eq_2_0 (l : Launch) (Z : State) (a0 : Array Value) (hw : ∀ d ∈ tables_1, d.before a0 Z = true) (ws : List Jvm.Cond) (a1 : Addr) (a2 : Addr) (t1 : Addr) (k1 : ClassId) (t2 : Addr) (k2 : ClassId) (x0 : Int32) (x1 : Int32) (w_NUMBER : Addr) (w_SYMBOL : Addr) (w_NAME : Addr) (w_END : Addr) (w_STRING : Addr) (i_COMPACT_STRINGS : Int32) (v_SIOOBE_FORMATTER : Value) (h0 : Heap) (n0 : Nat) (O0 : Old Z n0 h0) (ne12 : a1 ≠ a2) (E_a1 : Exa Z h0 a1 "java/lang/String") (F_a1_coder : Fld Z h0 a1 "java/lang/String" "coder" "B" (.int 0)) (F_a1_value : Fld Z h0 a1 "java/lang/String" "value" "[B" (.ref t1)) (E_a2 : Exa Z h0 a2 "java/lang/String") (F_a2_coder : Fld Z h0 a2 "java/lang/String" "coder" "B" (.int 0)) (F_a2_value : Fld Z h0 a2 "java/lang/String" "value" "[B" (.ref t2)) (V_t1 : Arv Z h0 t1 k1 .byte (2 : Int32) [(.int x0), (.int x1)] (.int 0)) (V_t2 : Arv Z h0 t2 k2 .byte (0 : Int32) [] (.int 0)) (WW : World1 Z w_NUMBER w_SYMBOL w_NAME w_END w_STRING i_COMPACT_STRINGS v_SIOOBE_FORMATTER) :
    Con l Z (⟨"java/lang/String", "equals", "(Ljava/lang/Object;)Z"⟩ : MethodName) jdk_42_method_66_code 3 (some .boolean) ws ({ frames := 1, cells := 0, slots := 0, locals := 14 } : Room) #[(.ref a1), (.ref a2)] h0 (fun v h L => v = some (.int (eqI_2_0 x0 x1)) ∧ Fr n0 L ∧ h = h0) := by
  refine own_body (plainFor_of_name pn_java_lang_String) ?_
  intro p e s m below meth c s₁ hx hby hml hZ hown hnm hlk hret X0 e0
  have N0 := Fr.nil n0
  refine Go.st (T' := s₁) (f' := (mkF m 0 #[rv a1, rv a2, .unset] [])) (fun _ k => castTop (by first | (simp [entryFrame, mkF, argsToLocals, Value.category]; done) | rfl) k) ?_
  have ⟨S_i_COMPACT_STRINGS, nz_i_COMPACT_STRINGS, S_v_SIOOBE_FORMATTER, r_v_SIOOBE_FORMATTER, S_w_NUMBER, E_w_NUMBER, S_w_SYMBOL, E_w_SYMBOL, S_w_NAME, E_w_NAME, S_w_END, E_w_END, S_w_STRING, E_w_STRING, F_w_NUMBER_ordinal, F_w_SYMBOL_ordinal, F_w_NAME_ordinal, F_w_END_ordinal, F_w_STRING_ordinal⟩ := WW
  have lt_w_NUMBER := E_w_NUMBER.lt
  have lt_w_SYMBOL := E_w_SYMBOL.lt
  have lt_w_NAME := E_w_NAME.lt
  have lt_w_END := E_w_END.lt
  have lt_w_STRING := E_w_STRING.lt
  have lt_a1 := E_a1.lt
  have lt_a2 := E_a2.lt
  have lt_t1 := V_t1.lt
  have lt_t2 := V_t2.lt
  refine Go.st (f' := (mkF m 1 #[rv a1, rv a2, .unset] [(.ref a1)])) (fun _ k => XS.aloadN X0.here hx rfl (hb hby d12_0) rfl rfl k) ?_
  refine Go.st (f' := (mkF m 2 #[rv a1, rv a2, .unset] [(.ref a2), (.ref a1)])) (fun _ k => XS.aloadN X0.here hx rfl (hb hby d12_1) rfl rfl k) ?_
  refine Go.st (f' := (mkF m 7 #[rv a1, rv a2, .unset] [])) (fun _ k => Jvm.RoadKit.acmp (g := (mkF m 2 #[rv a1, rv a2, .unset] [(.ref a2), (.ref a1)])) X0 hx rfl rfl rfl (pc0 := 2) (pc' := 7) (same := false) rfl (hb hby d12_2) rfl (decide_eq_false fun q => ne12 (Value.ref.inj q)) (by decide) (by decide) k) ?_
  refine Go.st (f' := (mkF m 8 #[rv a1, rv a2, .unset] [(.ref a2)])) (fun _ k => XS.aloadN X0.here hx rfl (hb hby d12_7) rfl rfl k) ?_
  obtain ⟨T1, X1, e1, st1⟩ := instY X0 hx hZ hown (hw _ (List.mem_of_getElem? (i := 81) rfl)) e0 (Ins.self E_a2) (g := (mkF m 8 #[rv a1, rv a2, .unset] [(.ref a2)])) rfl rfl (hb hby d12_8)
  refine Go.st (f' := (mkF m 11 #[rv a1, rv a2, .unset] [(.int 1)])) (fun _ k => st1 _ k) ?_
  refine Go.st (f' := (mkF m 14 #[rv a1, rv a2, .unset] [])) (fun _ k => XS.ifNo X1.here hx rfl (hb hby d12_11) rfl (by decide) k) ?_
  refine Go.st (f' := (mkF m 15 #[rv a1, rv a2, .unset] [(.ref a2)])) (fun _ k => XS.aloadN X1.here hx rfl (hb hby d12_14) rfl rfl k) ?_
  obtain ⟨T2, X2, e2, st2⟩ := castY X1 hx hZ hown (hw _ (List.mem_of_getElem? (i := 81) rfl)) e1 (Ins.self E_a2) (g := (mkF m 15 #[rv a1, rv a2, .unset] [(.ref a2)])) rfl rfl (hb hby d12_15)
  refine Go.st (f' := (mkF m 18 #[rv a1, rv a2, .unset] [(.ref a2)])) (fun _ k => st2 _ k) ?_
  refine Go.st (f' := (mkF m 19 #[rv a1, rv a2, rv a2] [])) (fun _ k => XS.astoreN X2.here hx rfl (hb hby d12_18) rfl rfl (l' := #[rv a1, rv a2, rv a2]) rfl k) ?_
  obtain ⟨T3, X3, e3, st3⟩ := getS2 X2 hx hZ hown (host := "") (Or.inl (hw _ (List.mem_of_getElem? (i := 33) rfl))) Via.refl e2 (S_i_COMPACT_STRINGS.ext O0.2) (g := (mkF m 19 #[rv a1, rv a2, rv a2] [])) rfl (hb hby d12_19)
  refine Go.st (f' := (mkF m 22 #[rv a1, rv a2, rv a2] [(.int i_COMPACT_STRINGS)])) (fun _ k => st3 _ k) ?_
  refine Go.st (f' := (mkF m 25 #[rv a1, rv a2, rv a2] [])) (fun _ k => XS.ifNo X3.here hx rfl (hb hby d12_22) rfl ((if0 _ _).trans (feq nz_i_COMPACT_STRINGS).1) k) ?_
  refine Go.st (f' := (mkF m 26 #[rv a1, rv a2, rv a2] [(.ref a1)])) (fun _ k => XS.aloadN X3.here hx rfl (hb hby d12_25) rfl rfl k) ?_
  obtain ⟨T4, X4, e4, st4⟩ := getF X3 hx hZ hown (host := "") (Or.inl (hw _ (List.mem_of_getElem? (i := 32) rfl))) Via.refl e3 F_a1_coder (g := (mkF m 26 #[rv a1, rv a2, rv a2] [(.ref a1)])) rfl rfl (hb hby d12_26)
  refine Go.st (f' := (mkF m 29 #[rv a1, rv a2, rv a2] [(.int 0)])) (fun _ k => st4 _ k) ?_
  refine Go.st (f' := (mkF m 30 #[rv a1, rv a2, rv a2] [(.ref a2), (.int 0)])) (fun _ k => XS.aloadN X4.here hx rfl (hb hby d12_29) rfl rfl k) ?_
  obtain ⟨T5, X5, e5, st5⟩ := getF X4 hx hZ hown (host := "") (Or.inl (hw _ (List.mem_of_getElem? (i := 32) rfl))) Via.refl e4 F_a2_coder (g := (mkF m 30 #[rv a1, rv a2, rv a2] [(.ref a2), (.int 0)])) rfl rfl (hb hby d12_30)
  refine Go.st (f' := (mkF m 33 #[rv a1, rv a2, rv a2] [(.int 0), (.int 0)])) (fun _ k => st5 _ k) ?_
  refine Go.st (f' := (mkF m 36 #[rv a1, rv a2, rv a2] [])) (fun _ k => XS.icmpNo X5.here hx rfl (hb hby d12_33) rfl (by decide) k) ?_
  refine Go.st (f' := (mkF m 37 #[rv a1, rv a2, rv a2] [(.ref a1)])) (fun _ k => XS.aloadN X5.here hx rfl (hb hby d12_36) rfl rfl k) ?_
  obtain ⟨T6, X6, e6, st6⟩ := getF X5 hx hZ hown (host := "") (Or.inl (hw _ (List.mem_of_getElem? (i := 31) rfl))) Via.refl e5 F_a1_value (g := (mkF m 37 #[rv a1, rv a2, rv a2] [(.ref a1)])) rfl rfl (hb hby d12_37)
  refine Go.st (f' := (mkF m 40 #[rv a1, rv a2, rv a2] [(.ref t1)])) (fun _ k => st6 _ k) ?_
  refine Go.st (f' := (mkF m 41 #[rv a1, rv a2, rv a2] [(.ref a2), (.ref t1)])) (fun _ k => XS.aloadN X6.here hx rfl (hb hby d12_40) rfl rfl k) ?_
  obtain ⟨T7, X7, e7, st7⟩ := getF X6 hx hZ hown (host := "") (Or.inl (hw _ (List.mem_of_getElem? (i := 31) rfl))) Via.refl e6 F_a2_value (g := (mkF m 41 #[rv a1, rv a2, rv a2] [(.ref a2), (.ref t1)])) rfl rfl (hb hby d12_41)
  refine Go.st (f' := (mkF m 44 #[rv a1, rv a2, rv a2] [(.ref t2), (.ref t1)])) (fun _ k => st7 _ k) ?_
  obtain ⟨_, _, ⟨T8, L8, kk8, nn8⟩, -, X8, ⟨Lc8, hQ8, lq8, yq8, zz8⟩, st8⟩ := Jvm.LawKit.callS X7 hx (y := (⟨"java/lang/StringLatin1", "equals", "([B[B)Z"⟩ : MethodName)) hown (mvT hZ (hw _ (List.mem_of_getElem? (i := 82) rfl))) (mvT hZ (hw _ (List.mem_of_getElem? (i := 83) rfl))) (mvT hZ (hw _ (List.mem_of_getElem? (i := 84) rfl))) (mvT hZ (hw _ (List.mem_of_getElem? (i := 85) rfl))) (by decide) (own_back (W := 0) (el_2_0 l Z a0 hw [] t1 k1 t2 k2 x0 x1 h0 n0 O0 V_t1 V_t2) hZ (hw _ (List.mem_of_getElem? (i := 85) rfl)) (hw _ (List.mem_of_getElem? (i := 84) rfl)) (by decide) (by decide)) (g := (mkF m 44 #[rv a1, rv a2, rv a2] [(.ref t2), (.ref t1)])) rfl (by rw [hml]; rfl) (argsL := [(.ref t1), (.ref t2)]) (rest := []) (lenOf pd___B_B_Z rfl) rfl (by show 2 * 0 + _ ≤ _; exact Nat.le_of_eq rfl) (hb hby d12_44) (fun _ _ => ⟨rfl, e7, (by decide : 0 + 0 ≤ _), (by decide : 0 + 0 ≤ _)⟩)
  dsimp only [Pt.U, Pt.locs, Pt.cells, Pt.slots] at X8 lq8 yq8 zz8 st8 hQ8
  subst lq8 yq8 zz8
  obtain ⟨rfl, Nq8, kq8⟩ := hQ8
  have N8 := Fr.app N0 Nq8
  refine Go.st (f' := (mkF m 47 #[rv a1, rv a2, rv a2] [(.int (elI_2_0 x0 x1))])) (fun _ k => st8 _ k) ?_
  by_cases cd9 : (elI_2_0 x0 x1) = (0 : Int32)
  · refine Go.st (f' := (mkF m 54 #[rv a1, rv a2, rv a2] [])) (fun _ k => XS.ifYes X8.here hx rfl (pc0 := 47) (pc' := 54) rfl (hb hby d12_47) rfl ((if0 _ _).trans (teq cd9).1) (by decide) (by decide) k) ?_
    refine Go.st (f' := (mkF m 55 #[rv a1, rv a2, rv a2] [(.int 0)])) (fun _ k => XS.iconst X8.here hx rfl (hb hby d12_54) k) ?_
    refine Go.retB X8 hlk hx (t := .boolean) hret (by simp) (hb hby d12_55) kq8 ?_ (by decide) (by decide)
    show (some (.int (0 : Int32)) : Option Value) = some (.int (eqI_2_0 x0 x1)) ∧ _
    exact ⟨by rw [eqI_2_0, if_pos cd9], N8, rfl⟩
  · refine Go.st (f' := (mkF m 50 #[rv a1, rv a2, rv a2] [])) (fun _ k => XS.ifNo X8.here hx rfl (hb hby d12_47) rfl ((if0 _ _).trans (feq cd9).1) k) ?_
    refine Go.st (f' := (mkF m 51 #[rv a1, rv a2, rv a2] [(.int 1)])) (fun _ k => XS.iconst X8.here hx rfl (hb hby d12_50) k) ?_
    refine Go.st (f' := (mkF m 55 #[rv a1, rv a2, rv a2] [(.int 1)])) (fun _ k => XS.goto X8.here hx rfl (pc0 := 51) (pc' := 55) rfl (hb hby d12_51) (by decide) (by decide) k) ?_
    refine Go.retB X8 hlk hx (t := .boolean) hret (by simp) (hb hby d12_55) kq8 ?_ (by decide) (by decide)
    show (some (.int (1 : Int32)) : Option Value) = some (.int (eqI_2_0 x0 x1)) ∧ _
    exact ⟨by rw [eqI_2_0, if_neg cd9], N8, rfl⟩
def eqI_2_1 (x0 : Int32) (x1 : Int32) (y0 : Int32) : Int32 := (if (elI_2_1 x0 x1 y0) = (0 : Int32) then (0 : Int32) else (1 : Int32))
set_option maxRecDepth 65536 in
set_option maxHeartbeats 40000000 in
theorem eq_2_1 (l : Launch) (Z : State) (a0 : Array Value) (hw : ∀ d ∈ tables_1, d.before a0 Z = true) (ws : List Jvm.Cond) (a1 : Addr) (a2 : Addr) (t1 : Addr) (k1 : ClassId) (t2 : Addr) (k2 : ClassId) (x0 : Int32) (x1 : Int32) (y0 : Int32) (w_NUMBER : Addr) (w_SYMBOL : Addr) (w_NAME : Addr) (w_END : Addr) (w_STRING : Addr) (i_COMPACT_STRINGS : Int32) (v_SIOOBE_FORMATTER : Value) (h0 : Heap) (n0 : Nat) (O0 : Old Z n0 h0) (ne12 : a1 ≠ a2) (E_a1 : Exa Z h0 a1 "java/lang/String") (F_a1_coder : Fld Z h0 a1 "java/lang/String" "coder" "B" (.int 0)) (F_a1_value : Fld Z h0 a1 "java/lang/String" "value" "[B" (.ref t1)) (E_a2 : Exa Z h0 a2 "java/lang/String") (F_a2_coder : Fld Z h0 a2 "java/lang/String" "coder" "B" (.int 0)) (F_a2_value : Fld Z h0 a2 "java/lang/String" "value" "[B" (.ref t2)) (V_t1 : Arv Z h0 t1 k1 .byte (2 : Int32) [(.int x0), (.int x1)] (.int 0)) (V_t2 : Arv Z h0 t2 k2 .byte (1 : Int32) [(.int y0)] (.int 0)) (WW : World1 Z w_NUMBER w_SYMBOL w_NAME w_END w_STRING i_COMPACT_STRINGS v_SIOOBE_FORMATTER) :
    Con l Z (⟨"java/lang/String", "equals", "(Ljava/lang/Object;)Z"⟩ : MethodName) jdk_42_method_66_code 3 (some .boolean) ws ({ frames := 1, cells := 0, slots := 0, locals := 14 } : Room) #[(.ref a1), (.ref a2)] h0 (fun v h L => v = some (.int (eqI_2_1 x0 x1 y0)) ∧ Fr n0 L ∧ h = h0) := by
  refine own_body (plainFor_of_name pn_java_lang_String) ?_
  intro p e s m below meth c s₁ hx hby hml hZ hown hnm hlk hret X0 e0
  have N0 := Fr.nil n0
  refine Go.st (T' := s₁) (f' := (mkF m 0 #[rv a1, rv a2, .unset] [])) (fun _ k => castTop (by first | (simp [entryFrame, mkF, argsToLocals, Value.category]; done) | rfl) k) ?_
  have ⟨S_i_COMPACT_STRINGS, nz_i_COMPACT_STRINGS, S_v_SIOOBE_FORMATTER, r_v_SIOOBE_FORMATTER, S_w_NUMBER, E_w_NUMBER, S_w_SYMBOL, E_w_SYMBOL, S_w_NAME, E_w_NAME, S_w_END, E_w_END, S_w_STRING, E_w_STRING, F_w_NUMBER_ordinal, F_w_SYMBOL_ordinal, F_w_NAME_ordinal, F_w_END_ordinal, F_w_STRING_ordinal⟩ := WW
  have lt_w_NUMBER := E_w_NUMBER.lt
  have lt_w_SYMBOL := E_w_SYMBOL.lt
  have lt_w_NAME := E_w_NAME.lt
  have lt_w_END := E_w_END.lt
  have lt_w_STRING := E_w_STRING.lt
  have lt_a1 := E_a1.lt
  have lt_a2 := E_a2.lt
  have lt_t1 := V_t1.lt
  have lt_t2 := V_t2.lt
  refine Go.st (f' := (mkF m 1 #[rv a1, rv a2, .unset] [(.ref a1)])) (fun _ k => XS.aloadN X0.here hx rfl (hb hby d12_0) rfl rfl k) ?_
  refine Go.st (f' := (mkF m 2 #[rv a1, rv a2, .unset] [(.ref a2), (.ref a1)])) (fun _ k => XS.aloadN X0.here hx rfl (hb hby d12_1) rfl rfl k) ?_
  refine Go.st (f' := (mkF m 7 #[rv a1, rv a2, .unset] [])) (fun _ k => Jvm.RoadKit.acmp (g := (mkF m 2 #[rv a1, rv a2, .unset] [(.ref a2), (.ref a1)])) X0 hx rfl rfl rfl (pc0 := 2) (pc' := 7) (same := false) rfl (hb hby d12_2) rfl (decide_eq_false fun q => ne12 (Value.ref.inj q)) (by decide) (by decide) k) ?_
  refine Go.st (f' := (mkF m 8 #[rv a1, rv a2, .unset] [(.ref a2)])) (fun _ k => XS.aloadN X0.here hx rfl (hb hby d12_7) rfl rfl k) ?_
  obtain ⟨T1, X1, e1, st1⟩ := instY X0 hx hZ hown (hw _ (List.mem_of_getElem? (i := 81) rfl)) e0 (Ins.self E_a2) (g := (mkF m 8 #[rv a1, rv a2, .unset] [(.ref a2)])) rfl rfl (hb hby d12_8)
  refine Go.st (f' := (mkF m 11 #[rv a1, rv a2, .unset] [(.int 1)])) (fun _ k => st1 _ k) ?_
  refine Go.st (f' := (mkF m 14 #[rv a1, rv a2, .unset] [])) (fun _ k => XS.ifNo X1.here hx rfl (hb hby d12_11) rfl (by decide) k) ?_
  refine Go.st (f' := (mkF m 15 #[rv a1, rv a2, .unset] [(.ref a2)])) (fun _ k => XS.aloadN X1.here hx rfl (hb hby d12_14) rfl rfl k) ?_
  obtain ⟨T2, X2, e2, st2⟩ := castY X1 hx hZ hown (hw _ (List.mem_of_getElem? (i := 81) rfl)) e1 (Ins.self E_a2) (g := (mkF m 15 #[rv a1, rv a2, .unset] [(.ref a2)])) rfl rfl (hb hby d12_15)
  refine Go.st (f' := (mkF m 18 #[rv a1, rv a2, .unset] [(.ref a2)])) (fun _ k => st2 _ k) ?_
  refine Go.st (f' := (mkF m 19 #[rv a1, rv a2, rv a2] [])) (fun _ k => XS.astoreN X2.here hx rfl (hb hby d12_18) rfl rfl (l' := #[rv a1, rv a2, rv a2]) rfl k) ?_
  obtain ⟨T3, X3, e3, st3⟩ := getS2 X2 hx hZ hown (host := "") (Or.inl (hw _ (List.mem_of_getElem? (i := 33) rfl))) Via.refl e2 (S_i_COMPACT_STRINGS.ext O0.2) (g := (mkF m 19 #[rv a1, rv a2, rv a2] [])) rfl (hb hby d12_19)
  refine Go.st (f' := (mkF m 22 #[rv a1, rv a2, rv a2] [(.int i_COMPACT_STRINGS)])) (fun _ k => st3 _ k) ?_
  refine Go.st (f' := (mkF m 25 #[rv a1, rv a2, rv a2] [])) (fun _ k => XS.ifNo X3.here hx rfl (hb hby d12_22) rfl ((if0 _ _).trans (feq nz_i_COMPACT_STRINGS).1) k) ?_
  refine Go.st (f' := (mkF m 26 #[rv a1, rv a2, rv a2] [(.ref a1)])) (fun _ k => XS.aloadN X3.here hx rfl (hb hby d12_25) rfl rfl k) ?_
  obtain ⟨T4, X4, e4, st4⟩ := getF X3 hx hZ hown (host := "") (Or.inl (hw _ (List.mem_of_getElem? (i := 32) rfl))) Via.refl e3 F_a1_coder (g := (mkF m 26 #[rv a1, rv a2, rv a2] [(.ref a1)])) rfl rfl (hb hby d12_26)
  refine Go.st (f' := (mkF m 29 #[rv a1, rv a2, rv a2] [(.int 0)])) (fun _ k => st4 _ k) ?_
  refine Go.st (f' := (mkF m 30 #[rv a1, rv a2, rv a2] [(.ref a2), (.int 0)])) (fun _ k => XS.aloadN X4.here hx rfl (hb hby d12_29) rfl rfl k) ?_
  obtain ⟨T5, X5, e5, st5⟩ := getF X4 hx hZ hown (host := "") (Or.inl (hw _ (List.mem_of_getElem? (i := 32) rfl))) Via.refl e4 F_a2_coder (g := (mkF m 30 #[rv a1, rv a2, rv a2] [(.ref a2), (.int 0)])) rfl rfl (hb hby d12_30)
  refine Go.st (f' := (mkF m 33 #[rv a1, rv a2, rv a2] [(.int 0), (.int 0)])) (fun _ k => st5 _ k) ?_
  refine Go.st (f' := (mkF m 36 #[rv a1, rv a2, rv a2] [])) (fun _ k => XS.icmpNo X5.here hx rfl (hb hby d12_33) rfl (by decide) k) ?_
  refine Go.st (f' := (mkF m 37 #[rv a1, rv a2, rv a2] [(.ref a1)])) (fun _ k => XS.aloadN X5.here hx rfl (hb hby d12_36) rfl rfl k) ?_
  obtain ⟨T6, X6, e6, st6⟩ := getF X5 hx hZ hown (host := "") (Or.inl (hw _ (List.mem_of_getElem? (i := 31) rfl))) Via.refl e5 F_a1_value (g := (mkF m 37 #[rv a1, rv a2, rv a2] [(.ref a1)])) rfl rfl (hb hby d12_37)
  refine Go.st (f' := (mkF m 40 #[rv a1, rv a2, rv a2] [(.ref t1)])) (fun _ k => st6 _ k) ?_
  refine Go.st (f' := (mkF m 41 #[rv a1, rv a2, rv a2] [(.ref a2), (.ref t1)])) (fun _ k => XS.aloadN X6.here hx rfl (hb hby d12_40) rfl rfl k) ?_
  obtain ⟨T7, X7, e7, st7⟩ := getF X6 hx hZ hown (host := "") (Or.inl (hw _ (List.mem_of_getElem? (i := 31) rfl))) Via.refl e6 F_a2_value (g := (mkF m 41 #[rv a1, rv a2, rv a2] [(.ref a2), (.ref t1)])) rfl rfl (hb hby d12_41)
  refine Go.st (f' := (mkF m 44 #[rv a1, rv a2, rv a2] [(.ref t2), (.ref t1)])) (fun _ k => st7 _ k) ?_
  obtain ⟨_, _, ⟨T8, L8, kk8, nn8⟩, -, X8, ⟨Lc8, hQ8, lq8, yq8, zz8⟩, st8⟩ := Jvm.LawKit.callS X7 hx (y := (⟨"java/lang/StringLatin1", "equals", "([B[B)Z"⟩ : MethodName)) hown (mvT hZ (hw _ (List.mem_of_getElem? (i := 82) rfl))) (mvT hZ (hw _ (List.mem_of_getElem? (i := 83) rfl))) (mvT hZ (hw _ (List.mem_of_getElem? (i := 84) rfl))) (mvT hZ (hw _ (List.mem_of_getElem? (i := 85) rfl))) (by decide) (own_back (W := 0) (el_2_1 l Z a0 hw [] t1 k1 t2 k2 x0 x1 y0 h0 n0 O0 V_t1 V_t2) hZ (hw _ (List.mem_of_getElem? (i := 85) rfl)) (hw _ (List.mem_of_getElem? (i := 84) rfl)) (by decide) (by decide)) (g := (mkF m 44 #[rv a1, rv a2, rv a2] [(.ref t2), (.ref t1)])) rfl (by rw [hml]; rfl) (argsL := [(.ref t1), (.ref t2)]) (rest := []) (lenOf pd___B_B_Z rfl) rfl (by show 2 * 0 + _ ≤ _; exact Nat.le_of_eq rfl) (hb hby d12_44) (fun _ _ => ⟨rfl, e7, (by decide : 0 + 0 ≤ _), (by decide : 0 + 0 ≤ _)⟩)
  dsimp only [Pt.U, Pt.locs, Pt.cells, Pt.slots] at X8 lq8 yq8 zz8 st8 hQ8
  subst lq8 yq8 zz8
  obtain ⟨rfl, Nq8, kq8⟩ := hQ8
  have N8 := Fr.app N0 Nq8
  refine Go.st (f' := (mkF m 47 #[rv a1, rv a2, rv a2] [(.int (elI_2_1 x0 x1 y0))])) (fun _ k => st8 _ k) ?_
  by_cases cd9 : (elI_2_1 x0 x1 y0) = (0 : Int32)
  · refine Go.st (f' := (mkF m 54 #[rv a1, rv a2, rv a2] [])) (fun _ k => XS.ifYes X8.here hx rfl (pc0 := 47) (pc' := 54) rfl (hb hby d12_47) rfl ((if0 _ _).trans (teq cd9).1) (by decide) (by decide) k) ?_
    refine Go.st (f' := (mkF m 55 #[rv a1, rv a2, rv a2] [(.int 0)])) (fun _ k => XS.iconst X8.here hx rfl (hb hby d12_54) k) ?_
    refine Go.retB X8 hlk hx (t := .boolean) hret (by simp) (hb hby d12_55) kq8 ?_ (by decide) (by decide)
    show (some (.int (0 : Int32)) : Option Value) = some (.int (eqI_2_1 x0 x1 y0)) ∧ _
    exact ⟨by rw [eqI_2_1, if_pos cd9], N8, rfl⟩
  · refine Go.st (f' := (mkF m 50 #[rv a1, rv a2, rv a2] [])) (fun _ k => XS.ifNo X8.here hx rfl (hb hby d12_47) rfl ((if0 _ _).trans (feq cd9).1) k) ?_
    refine Go.st (f' := (mkF m 51 #[rv a1, rv a2, rv a2] [(.int 1)])) (fun _ k => XS.iconst X8.here hx rfl (hb hby d12_50) k) ?_
    refine Go.st (f' := (mkF m 55 #[rv a1, rv a2, rv a2] [(.int 1)])) (fun _ k => XS.goto X8.here hx rfl (pc0 := 51) (pc' := 55) rfl (hb hby d12_51) (by decide) (by decide) k) ?_
    refine Go.retB X8 hlk hx (t := .boolean) hret (by simp) (hb hby d12_55) kq8 ?_ (by decide) (by decide)
    show (some (.int (1 : Int32)) : Option Value) = some (.int (eqI_2_1 x0 x1 y0)) ∧ _
    exact ⟨by rw [eqI_2_1, if_neg cd9], N8, rfl⟩
def eqI_2_2 (x0 : Int32) (x1 : Int32) (y0 : Int32) (y1 : Int32) : Int32 := (if (elI_2_2 x0 x1 y0 y1) = (0 : Int32) then (0 : Int32) else (1 : Int32))
set_option maxRecDepth 65536 in
set_option maxHeartbeats 40000000 in
theorem eq_2_2 (l : Launch) (Z : State) (a0 : Array Value) (hw : ∀ d ∈ tables_1, d.before a0 Z = true) (ws : List Jvm.Cond) (a1 : Addr) (a2 : Addr) (t1 : Addr) (k1 : ClassId) (t2 : Addr) (k2 : ClassId) (x0 : Int32) (x1 : Int32) (y0 : Int32) (y1 : Int32) (w_NUMBER : Addr) (w_SYMBOL : Addr) (w_NAME : Addr) (w_END : Addr) (w_STRING : Addr) (i_COMPACT_STRINGS : Int32) (v_SIOOBE_FORMATTER : Value) (h0 : Heap) (n0 : Nat) (O0 : Old Z n0 h0) (ne12 : a1 ≠ a2) (E_a1 : Exa Z h0 a1 "java/lang/String") (F_a1_coder : Fld Z h0 a1 "java/lang/String" "coder" "B" (.int 0)) (F_a1_value : Fld Z h0 a1 "java/lang/String" "value" "[B" (.ref t1)) (E_a2 : Exa Z h0 a2 "java/lang/String") (F_a2_coder : Fld Z h0 a2 "java/lang/String" "coder" "B" (.int 0)) (F_a2_value : Fld Z h0 a2 "java/lang/String" "value" "[B" (.ref t2)) (V_t1 : Arv Z h0 t1 k1 .byte (2 : Int32) [(.int x0), (.int x1)] (.int 0)) (V_t2 : Arv Z h0 t2 k2 .byte (2 : Int32) [(.int y0), (.int y1)] (.int 0)) (WW : World1 Z w_NUMBER w_SYMBOL w_NAME w_END w_STRING i_COMPACT_STRINGS v_SIOOBE_FORMATTER) :
    Con l Z (⟨"java/lang/String", "equals", "(Ljava/lang/Object;)Z"⟩ : MethodName) jdk_42_method_66_code 3 (some .boolean) ws ({ frames := 1, cells := 0, slots := 0, locals := 14 } : Room) #[(.ref a1), (.ref a2)] h0 (fun v h L => v = some (.int (eqI_2_2 x0 x1 y0 y1)) ∧ Fr n0 L ∧ h = h0) := by
  refine own_body (plainFor_of_name pn_java_lang_String) ?_
  intro p e s m below meth c s₁ hx hby hml hZ hown hnm hlk hret X0 e0
  have N0 := Fr.nil n0
  refine Go.st (T' := s₁) (f' := (mkF m 0 #[rv a1, rv a2, .unset] [])) (fun _ k => castTop (by first | (simp [entryFrame, mkF, argsToLocals, Value.category]; done) | rfl) k) ?_
  have ⟨S_i_COMPACT_STRINGS, nz_i_COMPACT_STRINGS, S_v_SIOOBE_FORMATTER, r_v_SIOOBE_FORMATTER, S_w_NUMBER, E_w_NUMBER, S_w_SYMBOL, E_w_SYMBOL, S_w_NAME, E_w_NAME, S_w_END, E_w_END, S_w_STRING, E_w_STRING, F_w_NUMBER_ordinal, F_w_SYMBOL_ordinal, F_w_NAME_ordinal, F_w_END_ordinal, F_w_STRING_ordinal⟩ := WW
  have lt_w_NUMBER := E_w_NUMBER.lt
  have lt_w_SYMBOL := E_w_SYMBOL.lt
  have lt_w_NAME := E_w_NAME.lt
  have lt_w_END := E_w_END.lt
  have lt_w_STRING := E_w_STRING.lt
  have lt_a1 := E_a1.lt
  have lt_a2 := E_a2.lt
  have lt_t1 := V_t1.lt
  have lt_t2 := V_t2.lt
  refine Go.st (f' := (mkF m 1 #[rv a1, rv a2, .unset] [(.ref a1)])) (fun _ k => XS.aloadN X0.here hx rfl (hb hby d12_0) rfl rfl k) ?_
  refine Go.st (f' := (mkF m 2 #[rv a1, rv a2, .unset] [(.ref a2), (.ref a1)])) (fun _ k => XS.aloadN X0.here hx rfl (hb hby d12_1) rfl rfl k) ?_
  refine Go.st (f' := (mkF m 7 #[rv a1, rv a2, .unset] [])) (fun _ k => Jvm.RoadKit.acmp (g := (mkF m 2 #[rv a1, rv a2, .unset] [(.ref a2), (.ref a1)])) X0 hx rfl rfl rfl (pc0 := 2) (pc' := 7) (same := false) rfl (hb hby d12_2) rfl (decide_eq_false fun q => ne12 (Value.ref.inj q)) (by decide) (by decide) k) ?_
  refine Go.st (f' := (mkF m 8 #[rv a1, rv a2, .unset] [(.ref a2)])) (fun _ k => XS.aloadN X0.here hx rfl (hb hby d12_7) rfl rfl k) ?_
  obtain ⟨T1, X1, e1, st1⟩ := instY X0 hx hZ hown (hw _ (List.mem_of_getElem? (i := 81) rfl)) e0 (Ins.self E_a2) (g := (mkF m 8 #[rv a1, rv a2, .unset] [(.ref a2)])) rfl rfl (hb hby d12_8)
  refine Go.st (f' := (mkF m 11 #[rv a1, rv a2, .unset] [(.int 1)])) (fun _ k => st1 _ k) ?_
  refine Go.st (f' := (mkF m 14 #[rv a1, rv a2, .unset] [])) (fun _ k => XS.ifNo X1.here hx rfl (hb hby d12_11) rfl (by decide) k) ?_
  refine Go.st (f' := (mkF m 15 #[rv a1, rv a2, .unset] [(.ref a2)])) (fun _ k => XS.aloadN X1.here hx rfl (hb hby d12_14) rfl rfl k) ?_
  obtain ⟨T2, X2, e2, st2⟩ := castY X1 hx hZ hown (hw _ (List.mem_of_getElem? (i := 81) rfl)) e1 (Ins.self E_a2) (g := (mkF m 15 #[rv a1, rv a2, .unset] [(.ref a2)])) rfl rfl (hb hby d12_15)
  refine Go.st (f' := (mkF m 18 #[rv a1, rv a2, .unset] [(.ref a2)])) (fun _ k => st2 _ k) ?_
  refine Go.st (f' := (mkF m 19 #[rv a1, rv a2, rv a2] [])) (fun _ k => XS.astoreN X2.here hx rfl (hb hby d12_18) rfl rfl (l' := #[rv a1, rv a2, rv a2]) rfl k) ?_
  obtain ⟨T3, X3, e3, st3⟩ := getS2 X2 hx hZ hown (host := "") (Or.inl (hw _ (List.mem_of_getElem? (i := 33) rfl))) Via.refl e2 (S_i_COMPACT_STRINGS.ext O0.2) (g := (mkF m 19 #[rv a1, rv a2, rv a2] [])) rfl (hb hby d12_19)
  refine Go.st (f' := (mkF m 22 #[rv a1, rv a2, rv a2] [(.int i_COMPACT_STRINGS)])) (fun _ k => st3 _ k) ?_
  refine Go.st (f' := (mkF m 25 #[rv a1, rv a2, rv a2] [])) (fun _ k => XS.ifNo X3.here hx rfl (hb hby d12_22) rfl ((if0 _ _).trans (feq nz_i_COMPACT_STRINGS).1) k) ?_
  refine Go.st (f' := (mkF m 26 #[rv a1, rv a2, rv a2] [(.ref a1)])) (fun _ k => XS.aloadN X3.here hx rfl (hb hby d12_25) rfl rfl k) ?_
  obtain ⟨T4, X4, e4, st4⟩ := getF X3 hx hZ hown (host := "") (Or.inl (hw _ (List.mem_of_getElem? (i := 32) rfl))) Via.refl e3 F_a1_coder (g := (mkF m 26 #[rv a1, rv a2, rv a2] [(.ref a1)])) rfl rfl (hb hby d12_26)
  refine Go.st (f' := (mkF m 29 #[rv a1, rv a2, rv a2] [(.int 0)])) (fun _ k => st4 _ k) ?_
  refine Go.st (f' := (mkF m 30 #[rv a1, rv a2, rv a2] [(.ref a2), (.int 0)])) (fun _ k => XS.aloadN X4.here hx rfl (hb hby d12_29) rfl rfl k) ?_
  obtain ⟨T5, X5, e5, st5⟩ := getF X4 hx hZ hown (host := "") (Or.inl (hw _ (List.mem_of_getElem? (i := 32) rfl))) Via.refl e4 F_a2_coder (g := (mkF m 30 #[rv a1, rv a2, rv a2] [(.ref a2), (.int 0)])) rfl rfl (hb hby d12_30)
  refine Go.st (f' := (mkF m 33 #[rv a1, rv a2, rv a2] [(.int 0), (.int 0)])) (fun _ k => st5 _ k) ?_
  refine Go.st (f' := (mkF m 36 #[rv a1, rv a2, rv a2] [])) (fun _ k => XS.icmpNo X5.here hx rfl (hb hby d12_33) rfl (by decide) k) ?_
  refine Go.st (f' := (mkF m 37 #[rv a1, rv a2, rv a2] [(.ref a1)])) (fun _ k => XS.aloadN X5.here hx rfl (hb hby d12_36) rfl rfl k) ?_
  obtain ⟨T6, X6, e6, st6⟩ := getF X5 hx hZ hown (host := "") (Or.inl (hw _ (List.mem_of_getElem? (i := 31) rfl))) Via.refl e5 F_a1_value (g := (mkF m 37 #[rv a1, rv a2, rv a2] [(.ref a1)])) rfl rfl (hb hby d12_37)
  refine Go.st (f' := (mkF m 40 #[rv a1, rv a2, rv a2] [(.ref t1)])) (fun _ k => st6 _ k) ?_
  refine Go.st (f' := (mkF m 41 #[rv a1, rv a2, rv a2] [(.ref a2), (.ref t1)])) (fun _ k => XS.aloadN X6.here hx rfl (hb hby d12_40) rfl rfl k) ?_
  obtain ⟨T7, X7, e7, st7⟩ := getF X6 hx hZ hown (host := "") (Or.inl (hw _ (List.mem_of_getElem? (i := 31) rfl))) Via.refl e6 F_a2_value (g := (mkF m 41 #[rv a1, rv a2, rv a2] [(.ref a2), (.ref t1)])) rfl rfl (hb hby d12_41)
  refine Go.st (f' := (mkF m 44 #[rv a1, rv a2, rv a2] [(.ref t2), (.ref t1)])) (fun _ k => st7 _ k) ?_
  obtain ⟨_, _, ⟨T8, L8, kk8, nn8⟩, -, X8, ⟨Lc8, hQ8, lq8, yq8, zz8⟩, st8⟩ := Jvm.LawKit.callS X7 hx (y := (⟨"java/lang/StringLatin1", "equals", "([B[B)Z"⟩ : MethodName)) hown (mvT hZ (hw _ (List.mem_of_getElem? (i := 82) rfl))) (mvT hZ (hw _ (List.mem_of_getElem? (i := 83) rfl))) (mvT hZ (hw _ (List.mem_of_getElem? (i := 84) rfl))) (mvT hZ (hw _ (List.mem_of_getElem? (i := 85) rfl))) (by decide) (own_back (W := 0) (el_2_2 l Z a0 hw [] t1 k1 t2 k2 x0 x1 y0 y1 h0 n0 O0 V_t1 V_t2) hZ (hw _ (List.mem_of_getElem? (i := 85) rfl)) (hw _ (List.mem_of_getElem? (i := 84) rfl)) (by decide) (by decide)) (g := (mkF m 44 #[rv a1, rv a2, rv a2] [(.ref t2), (.ref t1)])) rfl (by rw [hml]; rfl) (argsL := [(.ref t1), (.ref t2)]) (rest := []) (lenOf pd___B_B_Z rfl) rfl (by show 2 * 0 + _ ≤ _; exact Nat.le_of_eq rfl) (hb hby d12_44) (fun _ _ => ⟨rfl, e7, (by decide : 0 + 0 ≤ _), (by decide : 0 + 0 ≤ _)⟩)
  dsimp only [Pt.U, Pt.locs, Pt.cells, Pt.slots] at X8 lq8 yq8 zz8 st8 hQ8
  subst lq8 yq8 zz8
  obtain ⟨rfl, Nq8, kq8⟩ := hQ8
  have N8 := Fr.app N0 Nq8
  refine Go.st (f' := (mkF m 47 #[rv a1, rv a2, rv a2] [(.int (elI_2_2 x0 x1 y0 y1))])) (fun _ k => st8 _ k) ?_
  by_cases cd9 : (elI_2_2 x0 x1 y0 y1) = (0 : Int32)
  · refine Go.st (f' := (mkF m 54 #[rv a1, rv a2, rv a2] [])) (fun _ k => XS.ifYes X8.here hx rfl (pc0 := 47) (pc' := 54) rfl (hb hby d12_47) rfl ((if0 _ _).trans (teq cd9).1) (by decide) (by decide) k) ?_
    refine Go.st (f' := (mkF m 55 #[rv a1, rv a2, rv a2] [(.int 0)])) (fun _ k => XS.iconst X8.here hx rfl (hb hby d12_54) k) ?_
    refine Go.retB X8 hlk hx (t := .boolean) hret (by simp) (hb hby d12_55) kq8 ?_ (by decide) (by decide)
    show (some (.int (0 : Int32)) : Option Value) = some (.int (eqI_2_2 x0 x1 y0 y1)) ∧ _
    exact ⟨by rw [eqI_2_2, if_pos cd9], N8, rfl⟩
  · refine Go.st (f' := (mkF m 50 #[rv a1, rv a2, rv a2] [])) (fun _ k => XS.ifNo X8.here hx rfl (hb hby d12_47) rfl ((if0 _ _).trans (feq cd9).1) k) ?_
    refine Go.st (f' := (mkF m 51 #[rv a1, rv a2, rv a2] [(.int 1)])) (fun _ k => XS.iconst X8.here hx rfl (hb hby d12_50) k) ?_
    refine Go.st (f' := (mkF m 55 #[rv a1, rv a2, rv a2] [(.int 1)])) (fun _ k => XS.goto X8.here hx rfl (pc0 := 51) (pc' := 55) rfl (hb hby d12_51) (by decide) (by decide) k) ?_
    refine Go.retB X8 hlk hx (t := .boolean) hret (by simp) (hb hby d12_55) kq8 ?_ (by decide) (by decide)
    show (some (.int (1 : Int32)) : Option Value) = some (.int (eqI_2_2 x0 x1 y0 y1)) ∧ _
    exact ⟨by rw [eqI_2_2, if_neg cd9], N8, rfl⟩
set_option maxRecDepth 65536 in
set_option maxHeartbeats 40000000 in
theorem eq_0_N (l : Launch) (Z : State) (a0 : Array Value) (hw : ∀ d ∈ tables_1, d.before a0 Z = true) (ws : List Jvm.Cond) (a1 : Addr) (w_NUMBER : Addr) (w_SYMBOL : Addr) (w_NAME : Addr) (w_END : Addr) (w_STRING : Addr) (i_COMPACT_STRINGS : Int32) (v_SIOOBE_FORMATTER : Value) (h0 : Heap) (n0 : Nat) (O0 : Old Z n0 h0) (WW : World1 Z w_NUMBER w_SYMBOL w_NAME w_END w_STRING i_COMPACT_STRINGS v_SIOOBE_FORMATTER) :
    Con l Z (⟨"java/lang/String", "equals", "(Ljava/lang/Object;)Z"⟩ : MethodName) jdk_42_method_66_code 3 (some .boolean) ws ({ frames := 0, cells := 0, slots := 0, locals := 0 } : Room) #[(.ref a1), .null] h0 (fun v h L => v = some (.int 0) ∧ Fr n0 L ∧ h = h0) := by
  refine own_body (plainFor_of_name pn_java_lang_String) ?_
  intro p e s m below meth c s₁ hx hby hml hZ hown hnm hlk hret X0 e0
  have N0 := Fr.nil n0
  refine Go.st (T' := s₁) (f' := (mkF m 0 #[rv a1, .val .null, .unset] [])) (fun _ k => castTop (by first | (simp [entryFrame, mkF, argsToLocals, Value.category]; done) | rfl) k) ?_
  have ⟨S_i_COMPACT_STRINGS, nz_i_COMPACT_STRINGS, S_v_SIOOBE_FORMATTER, r_v_SIOOBE_FORMATTER, S_w_NUMBER, E_w_NUMBER, S_w_SYMBOL, E_w_SYMBOL, S_w_NAME, E_w_NAME, S_w_END, E_w_END, S_w_STRING, E_w_STRING, F_w_NUMBER_ordinal, F_w_SYMBOL_ordinal, F_w_NAME_ordinal, F_w_END_ordinal, F_w_STRING_ordinal⟩ := WW
  have lt_w_NUMBER := E_w_NUMBER.lt
  have lt_w_SYMBOL := E_w_SYMBOL.lt
  have lt_w_NAME := E_w_NAME.lt
  have lt_w_END := E_w_END.lt
  have lt_w_STRING := E_w_STRING.lt
  refine Go.st (f' := (mkF m 1 #[rv a1, .val .null, .unset] [(.ref a1)])) (fun _ k => XS.aloadN X0.here hx rfl (hb hby d12_0) rfl rfl k) ?_
  refine Go.st (f' := (mkF m 2 #[rv a1, .val .null, .unset] [.null, (.ref a1)])) (fun _ k => XS.aloadN X0.here hx rfl (hb hby d12_1) rfl rfl k) ?_
  refine Go.st (f' := (mkF m 7 #[rv a1, .val .null, .unset] [])) (fun _ k => Jvm.RoadKit.acmp (g := (mkF m 2 #[rv a1, .val .null, .unset] [.null, (.ref a1)])) X0 hx rfl rfl rfl (pc0 := 2) (pc' := 7) (same := false) rfl (hb hby d12_2) rfl (decide_eq_false nofun) (by decide) (by decide) k) ?_
  refine Go.st (f' := (mkF m 8 #[rv a1, .val .null, .unset] [.null])) (fun _ k => XS.aloadN X0.here hx rfl (hb hby d12_7) rfl rfl k) ?_
  refine Go.st (f' := (mkF m 11 #[rv a1, .val .null, .unset] [(.int 0)])) (fun _ k => X0.instanceofNull hx (g := (mkF m 8 #[rv a1, .val .null, .unset] [.null])) rfl rfl (hb hby d12_8) _ k) ?_
  refine Go.st (f' := (mkF m 54 #[rv a1, .val .null, .unset] [])) (fun _ k => XS.ifYes X0.here hx rfl (pc0 := 11) (pc' := 54) rfl (hb hby d12_11) rfl (by decide) (by decide) (by decide) k) ?_
  refine Go.st (f' := (mkF m 55 #[rv a1, .val .null, .unset] [(.int 0)])) (fun _ k => XS.iconst X0.here hx rfl (hb hby d12_54) k) ?_
  refine Go.retB X0 hlk hx (t := .boolean) hret (by simp) (hb hby d12_55) e0 ?_ (by decide) (by decide)
  exact ⟨rfl, N0, rfl⟩
set_option maxRecDepth 65536 in
set_option maxHeartbeats 40000000 in
theorem eq_1_N (l : Launch) (Z : State) (a0 : Array Value) (hw : ∀ d ∈ tables_1, d.before a0 Z = true) (ws : List Jvm.Cond) (a1 : Addr) (w_NUMBER : Addr) (w_SYMBOL : Addr) (w_NAME : Addr) (w_END : Addr) (w_STRING : Addr) (i_COMPACT_STRINGS : Int32) (v_SIOOBE_FORMATTER : Value) (h0 : Heap) (n0 : Nat) (O0 : Old Z n0 h0) (WW : World1 Z w_NUMBER w_SYMBOL w_NAME w_END w_STRING i_COMPACT_STRINGS v_SIOOBE_FORMATTER) :
    Con l Z (⟨"java/lang/String", "equals", "(Ljava/lang/Object;)Z"⟩ : MethodName) jdk_42_method_66_code 3 (some .boolean) ws ({ frames := 0, cells := 0, slots := 0, locals := 0 } : Room) #[(.ref a1), .null] h0 (fun v h L => v = some (.int 0) ∧ Fr n0 L ∧ h = h0) := by
  refine own_body (plainFor_of_name pn_java_lang_String) ?_
  intro p e s m below meth c s₁ hx hby hml hZ hown hnm hlk hret X0 e0
  have N0 := Fr.nil n0
  refine Go.st (T' := s₁) (f' := (mkF m 0 #[rv a1, .val .null, .unset] [])) (fun _ k => castTop (by first | (simp [entryFrame, mkF, argsToLocals, Value.category]; done) | rfl) k) ?_
  have ⟨S_i_COMPACT_STRINGS, nz_i_COMPACT_STRINGS, S_v_SIOOBE_FORMATTER, r_v_SIOOBE_FORMATTER, S_w_NUMBER, E_w_NUMBER, S_w_SYMBOL, E_w_SYMBOL, S_w_NAME, E_w_NAME, S_w_END, E_w_END, S_w_STRING, E_w_STRING, F_w_NUMBER_ordinal, F_w_SYMBOL_ordinal, F_w_NAME_ordinal, F_w_END_ordinal, F_w_STRING_ordinal⟩ := WW
  have lt_w_NUMBER := E_w_NUMBER.lt
  have lt_w_SYMBOL := E_w_SYMBOL.lt
  have lt_w_NAME := E_w_NAME.lt
  have lt_w_END := E_w_END.lt
  have lt_w_STRING := E_w_STRING.lt
  refine Go.st (f' := (mkF m 1 #[rv a1, .val .null, .unset] [(.ref a1)])) (fun _ k => XS.aloadN X0.here hx rfl (hb hby d12_0) rfl rfl k) ?_
  refine Go.st (f' := (mkF m 2 #[rv a1, .val .null, .unset] [.null, (.ref a1)])) (fun _ k => XS.aloadN X0.here hx rfl (hb hby d12_1) rfl rfl k) ?_
  refine Go.st (f' := (mkF m 7 #[rv a1, .val .null, .unset] [])) (fun _ k => Jvm.RoadKit.acmp (g := (mkF m 2 #[rv a1, .val .null, .unset] [.null, (.ref a1)])) X0 hx rfl rfl rfl (pc0 := 2) (pc' := 7) (same := false) rfl (hb hby d12_2) rfl (decide_eq_false nofun) (by decide) (by decide) k) ?_
  refine Go.st (f' := (mkF m 8 #[rv a1, .val .null, .unset] [.null])) (fun _ k => XS.aloadN X0.here hx rfl (hb hby d12_7) rfl rfl k) ?_
  refine Go.st (f' := (mkF m 11 #[rv a1, .val .null, .unset] [(.int 0)])) (fun _ k => X0.instanceofNull hx (g := (mkF m 8 #[rv a1, .val .null, .unset] [.null])) rfl rfl (hb hby d12_8) _ k) ?_
  refine Go.st (f' := (mkF m 54 #[rv a1, .val .null, .unset] [])) (fun _ k => XS.ifYes X0.here hx rfl (pc0 := 11) (pc' := 54) rfl (hb hby d12_11) rfl (by decide) (by decide) (by decide) k) ?_
  refine Go.st (f' := (mkF m 55 #[rv a1, .val .null, .unset] [(.int 0)])) (fun _ k => XS.iconst X0.here hx rfl (hb hby d12_54) k) ?_
  refine Go.retB X0 hlk hx (t := .boolean) hret (by simp) (hb hby d12_55) e0 ?_ (by decide) (by decide)
  exact ⟨rfl, N0, rfl⟩
set_option maxRecDepth 65536 in
set_option maxHeartbeats 40000000 in
theorem eq_2_N (l : Launch) (Z : State) (a0 : Array Value) (hw : ∀ d ∈ tables_1, d.before a0 Z = true) (ws : List Jvm.Cond) (a1 : Addr) (w_NUMBER : Addr) (w_SYMBOL : Addr) (w_NAME : Addr) (w_END : Addr) (w_STRING : Addr) (i_COMPACT_STRINGS : Int32) (v_SIOOBE_FORMATTER : Value) (h0 : Heap) (n0 : Nat) (O0 : Old Z n0 h0) (WW : World1 Z w_NUMBER w_SYMBOL w_NAME w_END w_STRING i_COMPACT_STRINGS v_SIOOBE_FORMATTER) :
    Con l Z (⟨"java/lang/String", "equals", "(Ljava/lang/Object;)Z"⟩ : MethodName) jdk_42_method_66_code 3 (some .boolean) ws ({ frames := 0, cells := 0, slots := 0, locals := 0 } : Room) #[(.ref a1), .null] h0 (fun v h L => v = some (.int 0) ∧ Fr n0 L ∧ h = h0) := by
  refine own_body (plainFor_of_name pn_java_lang_String) ?_
  intro p e s m below meth c s₁ hx hby hml hZ hown hnm hlk hret X0 e0
  have N0 := Fr.nil n0
  refine Go.st (T' := s₁) (f' := (mkF m 0 #[rv a1, .val .null, .unset] [])) (fun _ k => castTop (by first | (simp [entryFrame, mkF, argsToLocals, Value.category]; done) | rfl) k) ?_
  have ⟨S_i_COMPACT_STRINGS, nz_i_COMPACT_STRINGS, S_v_SIOOBE_FORMATTER, r_v_SIOOBE_FORMATTER, S_w_NUMBER, E_w_NUMBER, S_w_SYMBOL, E_w_SYMBOL, S_w_NAME, E_w_NAME, S_w_END, E_w_END, S_w_STRING, E_w_STRING, F_w_NUMBER_ordinal, F_w_SYMBOL_ordinal, F_w_NAME_ordinal, F_w_END_ordinal, F_w_STRING_ordinal⟩ := WW
  have lt_w_NUMBER := E_w_NUMBER.lt
  have lt_w_SYMBOL := E_w_SYMBOL.lt
  have lt_w_NAME := E_w_NAME.lt
  have lt_w_END := E_w_END.lt
  have lt_w_STRING := E_w_STRING.lt
  refine Go.st (f' := (mkF m 1 #[rv a1, .val .null, .unset] [(.ref a1)])) (fun _ k => XS.aloadN X0.here hx rfl (hb hby d12_0) rfl rfl k) ?_
  refine Go.st (f' := (mkF m 2 #[rv a1, .val .null, .unset] [.null, (.ref a1)])) (fun _ k => XS.aloadN X0.here hx rfl (hb hby d12_1) rfl rfl k) ?_
  refine Go.st (f' := (mkF m 7 #[rv a1, .val .null, .unset] [])) (fun _ k => Jvm.RoadKit.acmp (g := (mkF m 2 #[rv a1, .val .null, .unset] [.null, (.ref a1)])) X0 hx rfl rfl rfl (pc0 := 2) (pc' := 7) (same := false) rfl (hb hby d12_2) rfl (decide_eq_false nofun) (by decide) (by decide) k) ?_
  refine Go.st (f' := (mkF m 8 #[rv a1, .val .null, .unset] [.null])) (fun _ k => XS.aloadN X0.here hx rfl (hb hby d12_7) rfl rfl k) ?_
  refine Go.st (f' := (mkF m 11 #[rv a1, .val .null, .unset] [(.int 0)])) (fun _ k => X0.instanceofNull hx (g := (mkF m 8 #[rv a1, .val .null, .unset] [.null])) rfl rfl (hb hby d12_8) _ k) ?_
  refine Go.st (f' := (mkF m 54 #[rv a1, .val .null, .unset] [])) (fun _ k => XS.ifYes X0.here hx rfl (pc0 := 11) (pc' := 54) rfl (hb hby d12_11) rfl (by decide) (by decide) (by decide) k) ?_
  refine Go.st (f' := (mkF m 55 #[rv a1, .val .null, .unset] [(.int 0)])) (fun _ k => XS.iconst X0.here hx rfl (hb hby d12_54) k) ?_
  refine Go.retB X0 hlk hx (t := .boolean) hret (by simp) (hb hby d12_55) e0 ?_ (by decide) (by decide)
  exact ⟨rfl, N0, rfl⟩
theorem pn_com_example_naysay_naysay_rules_TokenIsSymbolPinLaw : plainName "com/example/naysay/naysay/rules/TokenIsSymbolPinLaw" = true := by first | (simp [plainName, overriddenIn]; done) | decide +kernel
theorem d1_0 : decode method_3_code 0 = .ok (.iload_n 0, 1) := by decide +kernel
theorem d1_1 : decode method_3_code 1 = .ok (.ldc 12, 2) := by decide +kernel
theorem d1_3 : decode method_3_code 3 = .ok (.iand, 1) := by decide +kernel
theorem d1_4 : decode method_3_code 4 = .ok (.iconst 5, 1) := by decide +kernel
theorem d1_5 : decode method_3_code 5 = .ok (.irem, 1) := by decide +kernel
theorem d1_6 : decode method_3_code 6 = .ok (.istore_n 1, 1) := by decide +kernel
theorem d1_7 : decode method_3_code 7 = .ok (.iload_n 1, 1) := by decide +kernel
theorem d1_8 : decode method_3_code 8 = .ok (.ifCond .ne 7, 3) := by decide +kernel
theorem d1_11 : decode method_3_code 11 = .ok (.getstatic 13, 3) := by decide +kernel
theorem d1_14 : decode method_3_code 14 = .ok (.areturn, 1) := by decide +kernel
theorem d1_15 : decode method_3_code 15 = .ok (.iload_n 1, 1) := by decide +kernel
theorem d1_16 : decode method_3_code 16 = .ok (.iconst 1, 1) := by decide +kernel
theorem d1_17 : decode method_3_code 17 = .ok (.if_icmp .ne 7, 3) := by decide +kernel
theorem d1_20 : decode method_3_code 20 = .ok (.getstatic 19, 3) := by decide +kernel
theorem d1_23 : decode method_3_code 23 = .ok (.areturn, 1) := by decide +kernel
theorem d1_24 : decode method_3_code 24 = .ok (.iload_n 1, 1) := by decide +kernel
theorem d1_25 : decode method_3_code 25 = .ok (.iconst 2, 1) := by decide +kernel
theorem d1_26 : decode method_3_code 26 = .ok (.if_icmp .ne 7, 3) := by decide +kernel
theorem d1_29 : decode method_3_code 29 = .ok (.getstatic 22, 3) := by decide +kernel
theorem d1_32 : decode method_3_code 32 = .ok (.areturn, 1) := by decide +kernel
theorem d1_33 : decode method_3_code 33 = .ok (.iload_n 1, 1) := by decide +kernel
theorem d1_34 : decode method_3_code 34 = .ok (.iconst 3, 1) := by decide +kernel
theorem d1_35 : decode method_3_code 35 = .ok (.if_icmp .ne 7, 3) := by decide +kernel
theorem d1_38 : decode method_3_code 38 = .ok (.getstatic 25, 3) := by decide +kernel
theorem d1_41 : decode method_3_code 41 = .ok (.areturn, 1) := by decide +kernel
theorem d1_42 : decode method_3_code 42 = .ok (.getstatic 28, 3) := by decide +kernel
theorem d1_45 : decode method_3_code 45 = .ok (.areturn, 1) := by decide +kernel
def kdV (p1 : Int32) (w_NUMBER : Addr) (w_SYMBOL : Addr) (w_NAME : Addr) (w_END : Addr) (w_STRING : Addr) (i_COMPACT_STRINGS : Int32) (v_SIOOBE_FORMATTER : Value) : Value := (if ((p1 &&& (2147483647 : Int32)) % (5 : Int32)) = (0 : Int32) then (.ref w_NUMBER) else (if ((p1 &&& (2147483647 : Int32)) % (5 : Int32)) = (1 : Int32) then (.ref w_STRING) else (if ((p1 &&& (2147483647 : Int32)) % (5 : Int32)) = (2 : Int32) then (.ref w_NAME) else (if ((p1 &&& (2147483647 : Int32)) % (5 : Int32)) = (3 : Int32) then (.ref w_SYMBOL) else (.ref w_END)))))
set_option maxRecDepth 65536 in
set_option maxHeartbeats 40000000 in
theorem rmK (l : Launch) (Z : State) (a0 : Array Value) (hw : ∀ d ∈ tables_1, d.before a0 Z = true) (ws : List Jvm.Cond) (p1 : Int32) (w_NUMBER : Addr) (w_SYMBOL : Addr) (w_NAME : Addr) (w_END : Addr) (w_STRING : Addr) (i_COMPACT_STRINGS : Int32) (v_SIOOBE_FORMATTER : Value) (h0 : Heap) (n0 : Nat) (O0 : Old Z n0 h0) (WW : World1 Z w_NUMBER w_SYMBOL w_NAME w_END w_STRING i_COMPACT_STRINGS v_SIOOBE_FORMATTER) :
    Con l Z (⟨"com/example/naysay/naysay/rules/TokenIsSymbolPinLaw", "kindOf", "(I)Lcom/example/naysay/naysay/rules/Token$Kind;"⟩ : MethodName) method_3_code 2 (some (.object "com/example/naysay/naysay/rules/Token$Kind")) ws ({ frames := 0, cells := 0, slots := 0, locals := 0 } : Room) #[(.int p1)] h0 (fun v h L => v = some (kdV p1 w_NUMBER w_SYMBOL w_NAME w_END w_STRING i_COMPACT_STRINGS v_SIOOBE_FORMATTER) ∧ Fr n0 L ∧ h = h0) := by
  refine own_body (plainFor_of_name pn_com_example_naysay_naysay_rules_TokenIsSymbolPinLaw) ?_
  intro p e s m below meth c s₁ hx hby hml hZ hown hnm hlk hret X0 e0
  have N0 := Fr.nil n0
  refine Go.st (T' := s₁) (f' := (mkF m 0 #[iv p1, .unset] [])) (fun _ k => castTop (by first | (simp [entryFrame, mkF, argsToLocals, Value.category]; done) | rfl) k) ?_
  have ⟨S_i_COMPACT_STRINGS, nz_i_COMPACT_STRINGS, S_v_SIOOBE_FORMATTER, r_v_SIOOBE_FORMATTER, S_w_NUMBER, E_w_NUMBER, S_w_SYMBOL, E_w_SYMBOL, S_w_NAME, E_w_NAME, S_w_END, E_w_END, S_w_STRING, E_w_STRING, F_w_NUMBER_ordinal, F_w_SYMBOL_ordinal, F_w_NAME_ordinal, F_w_END_ordinal, F_w_STRING_ordinal⟩ := WW
  have lt_w_NUMBER := E_w_NUMBER.lt
  have lt_w_SYMBOL := E_w_SYMBOL.lt
  have lt_w_NAME := E_w_NAME.lt
  have lt_w_END := E_w_END.lt
  have lt_w_STRING := E_w_STRING.lt
  refine Go.st (f' := (mkF m 1 #[iv p1, .unset] [(.int p1)])) (fun _ k => XS.iloadN X0.here hx rfl (hb hby d1_0) rfl k) ?_
  refine Go.st (f' := (mkF m 3 #[iv p1, .unset] [(.int 2147483647), (.int p1)])) (fun _ k => X0.ldcInt hx hown (mvT hZ (hw _ (List.mem_of_getElem? (i := 4) rfl))) (g := (mkF m 1 #[iv p1, .unset] [(.int p1)])) rfl (hb hby d1_1) _ k) ?_
  refine Go.st (f' := (mkF m 4 #[iv p1, .unset] [(.int (p1 &&& (2147483647 : Int32)))])) (fun _ k => XS.iand X0.here hx rfl (hb hby d1_3) rfl k) ?_
  refine Go.st (f' := (mkF m 5 #[iv p1, .unset] [(.int 5), (.int (p1 &&& (2147483647 : Int32)))])) (fun _ k => XS.iconst X0.here hx rfl (hb hby d1_4) k) ?_
  refine Go.st (f' := (mkF m 6 #[iv p1, .unset] [(.int ((p1 &&& (2147483647 : Int32)) % (5 : Int32)))])) (fun _ k => iremM (g := (mkF m 5 #[.val (.int p1), .unset] [(.int (5 : Int32)), (.int (p1 &&& (2147483647 : Int32)))])) X0 hx rfl (hb hby d1_5) rfl (by decide) k) ?_
  refine Go.st (f' := (mkF m 7 #[iv p1, .val (.int ((p1 &&& (2147483647 : Int32)) % (5 : Int32)))] [])) (fun _ k => XS.istoreN X0.here hx rfl (hb hby d1_6) rfl (l' := #[iv p1, .val (.int ((p1 &&& (2147483647 : Int32)) % (5 : Int32)))]) rfl k) ?_
  refine Go.st (f' := (mkF m 8 #[iv p1, .val (.int ((p1 &&& (2147483647 : Int32)) % (5 : Int32)))] [(.int ((p1 &&& (2147483647 : Int32)) % (5 : Int32)))])) (fun _ k => XS.iloadN X0.here hx rfl (hb hby d1_7) rfl k) ?_
  by_cases cd1 : ((p1 &&& (2147483647 : Int32)) % (5 : Int32)) = (0 : Int32)
  · refine Go.st (f' := (mkF m 11 #[iv p1, .val (.int ((p1 &&& (2147483647 : Int32)) % (5 : Int32)))] [])) (fun _ k => XS.ifNo X0.here hx rfl (hb hby d1_8) rfl ((if0 _ _).trans (teq cd1).2) k) ?_
    obtain ⟨T2, X2, e2, st2⟩ := getS2 X0 hx hZ hown (host := "") (Or.inl (hw _ (List.mem_of_getElem? (i := 5) rfl))) Via.refl e0 (S_w_NUMBER.ext O0.2) (g := (mkF m 11 #[iv p1, .val (.int ((p1 &&& (2147483647 : Int32)) % (5 : Int32)))] [])) rfl (hb hby d1_11)
    refine Go.st (f' := (mkF m 14 #[iv p1, .val (.int ((p1 &&& (2147483647 : Int32)) % (5 : Int32)))] [(.ref w_NUMBER)])) (fun _ k => st2 _ k) ?_
    refine Go.retV X2 hlk hx (t := (.object "com/example/naysay/naysay/rules/Token$Kind")) hret rfl (Or.inr (Or.inr (Or.inr (Or.inr ⟨rfl, rfl, rfl⟩)))) (hb hby d1_14) e2 ?_ (by decide) (by decide)
    show (some (.ref w_NUMBER) : Option Value) = some (kdV p1 w_NUMBER w_SYMBOL w_NAME w_END w_STRING i_COMPACT_STRINGS v_SIOOBE_FORMATTER) ∧ _
    exact ⟨by rw [kdV, if_pos cd1], N0, rfl⟩
  · refine Go.st (f' := (mkF m 15 #[iv p1, .val (.int ((p1 &&& (2147483647 : Int32)) % (5 : Int32)))] [])) (fun _ k => XS.ifYes X0.here hx rfl (pc0 := 8) (pc' := 15) rfl (hb hby d1_8) rfl ((if0 _ _).trans (feq cd1).2) (by decide) (by decide) k) ?_
    refine Go.st (f' := (mkF m 16 #[iv p1, .val (.int ((p1 &&& (2147483647 : Int32)) % (5 : Int32)))] [(.int ((p1 &&& (2147483647 : Int32)) % (5 : Int32)))])) (fun _ k => XS.iloadN X0.here hx rfl (hb hby d1_15) rfl k) ?_
    refine Go.st (f' := (mkF m 17 #[iv p1, .val (.int ((p1 &&& (2147483647 : Int32)) % (5 : Int32)))] [(.int 1), (.int ((p1 &&& (2147483647 : Int32)) % (5 : Int32)))])) (fun _ k => XS.iconst X0.here hx rfl (hb hby d1_16) k) ?_
    by_cases cd3 : ((p1 &&& (2147483647 : Int32)) % (5 : Int32)) = (1 : Int32)
    · refine Go.st (f' := (mkF m 20 #[iv p1, .val (.int ((p1 &&& (2147483647 : Int32)) % (5 : Int32)))] [])) (fun _ k => XS.icmpNo X0.here hx rfl (hb hby d1_17) rfl (teq cd3).2 k) ?_
      obtain ⟨T4, X4, e4, st4⟩ := getS2 X0 hx hZ hown (host := "") (Or.inl (hw _ (List.mem_of_getElem? (i := 74) rfl))) Via.refl e0 (S_w_STRING.ext O0.2) (g := (mkF m 20 #[iv p1, .val (.int ((p1 &&& (2147483647 : Int32)) % (5 : Int32)))] [])) rfl (hb hby d1_20)
      refine Go.st (f' := (mkF m 23 #[iv p1, .val (.int ((p1 &&& (2147483647 : Int32)) % (5 : Int32)))] [(.ref w_STRING)])) (fun _ k => st4 _ k) ?_
      refine Go.retV X4 hlk hx (t := (.object "com/example/naysay/naysay/rules/Token$Kind")) hret rfl (Or.inr (Or.inr (Or.inr (Or.inr ⟨rfl, rfl, rfl⟩)))) (hb hby d1_23) e4 ?_ (by decide) (by decide)
      show (some (.ref w_STRING) : Option Value) = some (kdV p1 w_NUMBER w_SYMBOL w_NAME w_END w_STRING i_COMPACT_STRINGS v_SIOOBE_FORMATTER) ∧ _
      exact ⟨by rw [kdV, if_neg cd1, if_pos cd3], N0, rfl⟩
    · refine Go.st (f' := (mkF m 24 #[iv p1, .val (.int ((p1 &&& (2147483647 : Int32)) % (5 : Int32)))] [])) (fun _ k => XS.icmpYes X0.here hx rfl (pc0 := 17) (pc' := 24) rfl (hb hby d1_17) rfl (feq cd3).2 (by decide) (by decide) k) ?_
      refine Go.st (f' := (mkF m 25 #[iv p1, .val (.int ((p1 &&& (2147483647 : Int32)) % (5 : Int32)))] [(.int ((p1 &&& (2147483647 : Int32)) % (5 : Int32)))])) (fun _ k => XS.iloadN X0.here hx rfl (hb hby d1_24) rfl k) ?_
      refine Go.st (f' := (mkF m 26 #[iv p1, .val (.int ((p1 &&& (2147483647 : Int32)) % (5 : Int32)))] [(.int 2), (.int ((p1 &&& (2147483647 : Int32)) % (5 : Int32)))])) (fun _ k => XS.iconst X0.here hx rfl (hb hby d1_25) k) ?_
      by_cases cd5 : ((p1 &&& (2147483647 : Int32)) % (5 : Int32)) = (2 : Int32)
      · refine Go.st (f' := (mkF m 29 #[iv p1, .val (.int ((p1 &&& (2147483647 : Int32)) % (5 : Int32)))] [])) (fun _ k => XS.icmpNo X0.here hx rfl (hb hby d1_26) rfl (teq cd5).2 k) ?_
        obtain ⟨T6, X6, e6, st6⟩ := getS2 X0 hx hZ hown (host := "") (Or.inl (hw _ (List.mem_of_getElem? (i := 70) rfl))) Via.refl e0 (S_w_NAME.ext O0.2) (g := (mkF m 29 #[iv p1, .val (.int ((p1 &&& (2147483647 : Int32)) % (5 : Int32)))] [])) rfl (hb hby d1_29)
        refine Go.st (f' := (mkF m 32 #[iv p1, .val (.int ((p1 &&& (2147483647 : Int32)) % (5 : Int32)))] [(.ref w_NAME)])) (fun _ k => st6 _ k) ?_
        refine Go.retV X6 hlk hx (t := (.object "com/example/naysay/naysay/rules/Token$Kind")) hret rfl (Or.inr (Or.inr (Or.inr (Or.inr ⟨rfl, rfl, rfl⟩)))) (hb hby d1_32) e6 ?_ (by decide) (by decide)
        show (some (.ref w_NAME) : Option Value) = some (kdV p1 w_NUMBER w_SYMBOL w_NAME w_END w_STRING i_COMPACT_STRINGS v_SIOOBE_FORMATTER) ∧ _
        exact ⟨by rw [kdV, if_neg cd1, if_neg cd3, if_pos cd5], N0, rfl⟩
      · refine Go.st (f' := (mkF m 33 #[iv p1, .val (.int ((p1 &&& (2147483647 : Int32)) % (5 : Int32)))] [])) (fun _ k => XS.icmpYes X0.here hx rfl (pc0 := 26) (pc' := 33) rfl (hb hby d1_26) rfl (feq cd5).2 (by decide) (by decide) k) ?_
        refine Go.st (f' := (mkF m 34 #[iv p1, .val (.int ((p1 &&& (2147483647 : Int32)) % (5 : Int32)))] [(.int ((p1 &&& (2147483647 : Int32)) % (5 : Int32)))])) (fun _ k => XS.iloadN X0.here hx rfl (hb hby d1_33) rfl k) ?_
        refine Go.st (f' := (mkF m 35 #[iv p1, .val (.int ((p1 &&& (2147483647 : Int32)) % (5 : Int32)))] [(.int 3), (.int ((p1 &&& (2147483647 : Int32)) % (5 : Int32)))])) (fun _ k => XS.iconst X0.here hx rfl (hb hby d1_34) k) ?_
        by_cases cd7 : ((p1 &&& (2147483647 : Int32)) % (5 : Int32)) = (3 : Int32)
        · refine Go.st (f' := (mkF m 38 #[iv p1, .val (.int ((p1 &&& (2147483647 : Int32)) % (5 : Int32)))] [])) (fun _ k => XS.icmpNo X0.here hx rfl (hb hby d1_35) rfl (teq cd7).2 k) ?_
          obtain ⟨T8, X8, e8, st8⟩ := getS2 X0 hx hZ hown (host := "") (Or.inl (hw _ (List.mem_of_getElem? (i := 44) rfl))) Via.refl e0 (S_w_SYMBOL.ext O0.2) (g := (mkF m 38 #[iv p1, .val (.int ((p1 &&& (2147483647 : Int32)) % (5 : Int32)))] [])) rfl (hb hby d1_38)
          refine Go.st (f' := (mkF m 41 #[iv p1, .val (.int ((p1 &&& (2147483647 : Int32)) % (5 : Int32)))] [(.ref w_SYMBOL)])) (fun _ k => st8 _ k) ?_
          refine Go.retV X8 hlk hx (t := (.object "com/example/naysay/naysay/rules/Token$Kind")) hret rfl (Or.inr (Or.inr (Or.inr (Or.inr ⟨rfl, rfl, rfl⟩)))) (hb hby d1_41) e8 ?_ (by decide) (by decide)
          show (some (.ref w_SYMBOL) : Option Value) = some (kdV p1 w_NUMBER w_SYMBOL w_NAME w_END w_STRING i_COMPACT_STRINGS v_SIOOBE_FORMATTER) ∧ _
          exact ⟨by rw [kdV, if_neg cd1, if_neg cd3, if_neg cd5, if_pos cd7], N0, rfl⟩
        · refine Go.st (f' := (mkF m 42 #[iv p1, .val (.int ((p1 &&& (2147483647 : Int32)) % (5 : Int32)))] [])) (fun _ k => XS.icmpYes X0.here hx rfl (pc0 := 35) (pc' := 42) rfl (hb hby d1_35) rfl (feq cd7).2 (by decide) (by decide) k) ?_
          obtain ⟨T9, X9, e9, st9⟩ := getS2 X0 hx hZ hown (host := "") (Or.inl (hw _ (List.mem_of_getElem? (i := 72) rfl))) Via.refl e0 (S_w_END.ext O0.2) (g := (mkF m 42 #[iv p1, .val (.int ((p1 &&& (2147483647 : Int32)) % (5 : Int32)))] [])) rfl (hb hby d1_42)
          refine Go.st (f' := (mkF m 45 #[iv p1, .val (.int ((p1 &&& (2147483647 : Int32)) % (5 : Int32)))] [(.ref w_END)])) (fun _ k => st9 _ k) ?_
          refine Go.retV X9 hlk hx (t := (.object "com/example/naysay/naysay/rules/Token$Kind")) hret rfl (Or.inr (Or.inr (Or.inr (Or.inr ⟨rfl, rfl, rfl⟩)))) (hb hby d1_45) e9 ?_ (by decide) (by decide)
          show (some (.ref w_END) : Option Value) = some (kdV p1 w_NUMBER w_SYMBOL w_NAME w_END w_STRING i_COMPACT_STRINGS v_SIOOBE_FORMATTER) ∧ _
          exact ⟨by rw [kdV, if_neg cd1, if_neg cd3, if_neg cd5, if_neg cd7], N0, rfl⟩
theorem kdV_ref (p1 : Int32) (w_NUMBER : Addr) (w_SYMBOL : Addr) (w_NAME : Addr) (w_END : Addr) (w_STRING : Addr) (i_COMPACT_STRINGS : Int32) (v_SIOOBE_FORMATTER : Value) : ∃ a : Addr, kdV p1 w_NUMBER w_SYMBOL w_NAME w_END w_STRING i_COMPACT_STRINGS v_SIOOBE_FORMATTER = .ref a := by
  unfold kdV
  repeat' split
  all_goals exact ⟨_, rfl⟩
theorem own_nc {c : Int32} (h : ¬ (255 : Int32) < c) (h0 : 0 ≤ c.toInt) : ¬ (255 : Int32) < nar .char c := by
  have q := c_i2c c
  show ¬ (255 : Int32) < c.toUInt32.toUInt16.toUInt32.toInt32
  have e : (255 : Int32).toInt = 255 := by decide
  rw [Int32.lt_iff_toInt_lt] at h ⊢
  omega
theorem d2_0 : decode method_2_code 0 = .ok (.iload_n 0, 1) := by decide +kernel
theorem d2_1 : decode method_2_code 1 = .ok (.ifCond .ne 14, 3) := by decide +kernel
theorem d2_4 : decode method_2_code 4 = .ok (.new 7, 3) := by decide +kernel
theorem d2_7 : decode method_2_code 7 = .ok (.dup, 1) := by decide +kernel
theorem d2_8 : decode method_2_code 8 = .ok (.iconst 0, 1) := by decide +kernel
theorem d2_9 : decode method_2_code 9 = .ok (.newarray .char, 2) := by decide +kernel
theorem d2_11 : decode method_2_code 11 = .ok (.invokespecial 9, 3) := by decide +kernel
theorem pd___C_V : parseMethodDescriptor "([C)V" = some ⟨[(.array .char)], none⟩ := by decide +kernel
theorem d2_14 : decode method_2_code 14 = .ok (.areturn, 1) := by decide +kernel
set_option maxRecDepth 65536 in
set_option maxHeartbeats 40000000 in
theorem rmM_0 (l : Launch) (Z : State) (a0 : Array Value) (hw : ∀ d ∈ tables_1, d.before a0 Z = true) (ws : List Jvm.Cond) (c0 : Int32) (c1 : Int32) (w_NUMBER : Addr) (w_SYMBOL : Addr) (w_NAME : Addr) (w_END : Addr) (w_STRING : Addr) (i_COMPACT_STRINGS : Int32) (v_SIOOBE_FORMATTER : Value) (h0 : Heap) (n0 : Nat) (O0 : Old Z n0 h0) (hc_c0 : ¬ (255 : Int32) < c0) (hc_c1 : ¬ (255 : Int32) < c1) (hk_c0 : 0 ≤ c0.toInt) (hk_c1 : 0 ≤ c1.toInt) (WW : World1 Z w_NUMBER w_SYMBOL w_NAME w_END w_STRING i_COMPACT_STRINGS v_SIOOBE_FORMATTER) :
    ConW l Z EL (⟨"com/example/naysay/naysay/rules/TokenIsSymbolPinLaw", "mk", "(ICC)Ljava/lang/String;"⟩ : MethodName) method_2_code 4 (some (.object "java/lang/String")) ws ({ frames := 3, cells := 6, slots := 12, locals := 43 } : Room) #[(.int 0), (.int c0), (.int c1)] h0 (fun v h L => ∃ b : Addr, v = some (.ref b) ∧ Fr n0 L ∧ h0.size ≤ b ∧ Keep h0 h [] ∧ Exa Z h b "java/lang/String" ∧ Fld Z h b "java/lang/String" "coder" "B" (.int 0) ∧ ∃ (t : Addr) (kt : ClassId), Fld Z h b "java/lang/String" "value" "[B" (.ref t) ∧ Arv Z h t kt .byte (0 : Int32) [] (.int 0)) := by
  refine own_bodyW (plainFor_of_name pn_com_example_naysay_naysay_rules_TokenIsSymbolPinLaw) ?_
  intro p e s m below meth c s₁ hx hby hml hZ hown hnm hlk hret X0 e0 hh hS CR0
  have hEL := own_EL hw
  have wS := own_wS hw
  have N0 := Fr.nil n0
  have K0 : Keep h0 h0 [] := Keep.refl _ _
  refine Go.st (T' := s₁) (f' := (mkF m 0 #[iv 0, iv c0, iv c1, .unset] [])) (fun _ k => castTop (by first | (simp [entryFrame, mkF, argsToLocals, Value.category]; done) | rfl) k) ?_
  have ⟨S_i_COMPACT_STRINGS, nz_i_COMPACT_STRINGS, S_v_SIOOBE_FORMATTER, r_v_SIOOBE_FORMATTER, S_w_NUMBER, E_w_NUMBER, S_w_SYMBOL, E_w_SYMBOL, S_w_NAME, E_w_NAME, S_w_END, E_w_END, S_w_STRING, E_w_STRING, F_w_NUMBER_ordinal, F_w_SYMBOL_ordinal, F_w_NAME_ordinal, F_w_END_ordinal, F_w_STRING_ordinal⟩ := WW
  have lt_w_NUMBER := E_w_NUMBER.lt
  have lt_w_SYMBOL := E_w_SYMBOL.lt
  have lt_w_NAME := E_w_NAME.lt
  have lt_w_END := E_w_END.lt
  have lt_w_STRING := E_w_STRING.lt
  refine Go.st (f' := (mkF m 1 #[iv 0, iv c0, iv c1, .unset] [(.int 0)])) (fun _ k => XS.iloadN X0.here hx rfl (hb hby d2_0) rfl k) ?_
  refine Go.st (f' := (mkF m 4 #[iv 0, iv c0, iv c1, .unset] [])) (fun _ k => XS.ifNo X0.here hx rfl (hb hby d2_1) rfl (by decide) k) ?_
  obtain ⟨T1, h1, X1, e1, E1, A1, D1, -, st1⟩ := newO X0 hx hZ hown (hw _ (List.mem_of_getElem? (i := 11) rfl)) (hw _ (List.mem_of_getElem? (i := 12) rfl)) (hw _ (List.mem_of_getElem? (i := 13) rfl)) e0 (g := (mkF m 4 #[iv 0, iv c0, iv c1, .unset] [])) rfl (hb hby d2_4) (by decide) (by decide)
  obtain ⟨b1, g1⟩ : ∃ z, z = h0.size := ⟨_, rfl⟩
  rw [← g1] at A1 D1 st1
  have ne_w_NUMBER_b1 : w_NUMBER ≠ b1 := Nat.ne_of_lt (Nat.lt_of_lt_of_le lt_w_NUMBER (Nat.le_trans O0.2.1 (Nat.le_of_eq g1.symm)))
  have ne_w_SYMBOL_b1 : w_SYMBOL ≠ b1 := Nat.ne_of_lt (Nat.lt_of_lt_of_le lt_w_SYMBOL (Nat.le_trans O0.2.1 (Nat.le_of_eq g1.symm)))
  have ne_w_NAME_b1 : w_NAME ≠ b1 := Nat.ne_of_lt (Nat.lt_of_lt_of_le lt_w_NAME (Nat.le_trans O0.2.1 (Nat.le_of_eq g1.symm)))
  have ne_w_END_b1 : w_END ≠ b1 := Nat.ne_of_lt (Nat.lt_of_lt_of_le lt_w_END (Nat.le_trans O0.2.1 (Nat.le_of_eq g1.symm)))
  have ne_w_STRING_b1 : w_STRING ≠ b1 := Nat.ne_of_lt (Nat.lt_of_lt_of_le lt_w_STRING (Nat.le_trans O0.2.1 (Nat.le_of_eq g1.symm)))
  have g_b1 : n0 ≤ b1 := Nat.le_trans (O0.1 ▸ O0.2.1) (Nat.le_of_eq g1.symm)
  have O1 : Old Z n0 h1 := O0.ext E1
  have sz_b1 : h0.size ≤ b1 := Nat.le_trans K0.1 (Nat.le_of_eq g1.symm)
  have K1 : Keep h0 h1 [] := K0.ext E1
  have CR1 : CHr Z EL s.vm h0 s.vm h1 := CR0.trans (CHr.ext E1 CR0.1)
  have sf_b1 : Safe Z EL s.vm h1 b1 := (Safe.new (Nat.le_of_eq g1.symm)).ext E1 CR0.1
  have lt_b1 := A1.lt
  have F_value_b1 : Fld Z h1 b1 "java/lang/String" "value" "[B" .null := D1 (Or.inr (hw _ (List.mem_of_getElem? (i := 27) rfl))) (ty := (.array .byte)) (by decide)
  have F_coder_b1 : Fld Z h1 b1 "java/lang/String" "coder" "B" (.int (0 : Int32)) := D1 (Or.inr (hw _ (List.mem_of_getElem? (i := 28) rfl))) (ty := .byte) (by decide)
  refine Go.st (f' := (mkF m 7 #[iv 0, iv c0, iv c1, .unset] [(.ref b1)])) (fun _ k => st1 _ k) ?_
  refine Go.st (f' := (mkF m 8 #[iv 0, iv c0, iv c1, .unset] [(.ref b1), (.ref b1)])) (fun _ k => XS.dup X1.here hx rfl (hb hby d2_7) rfl rfl k) ?_
  refine Go.st (f' := (mkF m 9 #[iv 0, iv c0, iv c1, .unset] [(.int 0), (.ref b1), (.ref b1)])) (fun _ k => XS.iconst X1.here hx rfl (hb hby d2_8) k) ?_
  obtain ⟨T2, h2, kc2, X2, e2, E2, A2, st2⟩ := newP X1 hx hZ (hw _ (List.mem_of_getElem? (i := 14) rfl)) e1 (g := (mkF m 9 #[iv 0, iv c0, iv c1, .unset] [(.int 0), (.ref b1), (.ref b1)])) rfl (hb hby d2_9) rfl (by decide) (cap := 0) (by decide) (by decide) (by decide) (by decide)
  obtain ⟨b2, g2⟩ : ∃ z, z = h1.size := ⟨_, rfl⟩
  rw [← g2] at A2 st2
  have ne_b1_b2 : b1 ≠ b2 := Nat.ne_of_lt (Nat.lt_of_lt_of_eq lt_b1 g2.symm)
  have ne_w_NUMBER_b2 : w_NUMBER ≠ b2 := Nat.ne_of_lt (Nat.lt_of_lt_of_le lt_w_NUMBER (Nat.le_trans O1.2.1 (Nat.le_of_eq g2.symm)))
  have ne_w_SYMBOL_b2 : w_SYMBOL ≠ b2 := Nat.ne_of_lt (Nat.lt_of_lt_of_le lt_w_SYMBOL (Nat.le_trans O1.2.1 (Nat.le_of_eq g2.symm)))
  have ne_w_NAME_b2 : w_NAME ≠ b2 := Nat.ne_of_lt (Nat.lt_of_lt_of_le lt_w_NAME (Nat.le_trans O1.2.1 (Nat.le_of_eq g2.symm)))
  have ne_w_END_b2 : w_END ≠ b2 := Nat.ne_of_lt (Nat.lt_of_lt_of_le lt_w_END (Nat.le_trans O1.2.1 (Nat.le_of_eq g2.symm)))
  have ne_w_STRING_b2 : w_STRING ≠ b2 := Nat.ne_of_lt (Nat.lt_of_lt_of_le lt_w_STRING (Nat.le_trans O1.2.1 (Nat.le_of_eq g2.symm)))
  have g_b2 : n0 ≤ b2 := Nat.le_trans (O1.1 ▸ O1.2.1) (Nat.le_of_eq g2.symm)
  have O2 : Old Z n0 h2 := O1.ext E2
  have sz_b2 : h0.size ≤ b2 := Nat.le_trans K1.1 (Nat.le_of_eq g2.symm)
  have K2 : Keep h0 h2 [] := K1.ext E2
  have CR2 : CHr Z EL s.vm h0 s.vm h2 := CR1.trans (CHr.ext E2 CR1.1)
  have sf_b2 : Safe Z EL s.vm h2 b2 := (Safe.new (Nat.le_of_eq g2.symm)).ext E2 CR1.1
  have V_b2 : Arv Z h2 b2 kc2 .char (0 : Int32) [] (.int (0 : Int32)) := Arv.new A2 (by decide)
  have lt_b2 := V_b2.lt
  refine Go.st (f' := (mkF m 11 #[iv 0, iv c0, iv c1, .unset] [(.ref b2), (.ref b1), (.ref b1)])) (fun _ k => st2 _ k) ?_
  have ft4 := (A1.ext E2)
  have ft5 := (F_coder_b1.ext E2)
  have ft6 := (F_value_b1.ext E2)
  obtain ⟨_, _, ⟨T3, L3, kk3, nn3⟩, -, Xw3, hSw3, hgw3, ⟨Lc3, hQ3, lq3, yq3, zz3, crw3⟩, st3⟩ := X2.specialBackS hx (y := (⟨"java/lang/String", "<init>", "([C)V"⟩ : MethodName)) rfl hown (mvT hZ (hw _ (List.mem_of_getElem? (i := 15) rfl))) (mvT hZ (hw _ (List.mem_of_getElem? (i := 16) rfl))) (mvT hZ (hw _ (List.mem_of_getElem? (i := 17) rfl))) (by decide) (own_backW (W := 1) (s1_0 l Z a0 hw [] b1 b2 kc2 w_NUMBER w_SYMBOL w_NAME w_END w_STRING i_COMPACT_STRINGS v_SIOOBE_FORMATTER h2 n0 O2 g_b1 ft4 ft5 ft6 V_b2 WW) hZ (hw _ (List.mem_of_getElem? (i := 17) rfl)) (hw _ (List.mem_of_getElem? (i := 13) rfl)) (by decide) (by decide) hEL CR2.1) (g := (mkF m 11 #[iv 0, iv c0, iv c1, .unset] [(.ref b2), (.ref b1), (.ref b1)])) rfl (by rw [hml]; rfl) (Steps.refl _) (a := b1) (argsL := [(.ref b2)]) (rest := [(.ref b1)]) (lenOf pd___C_V rfl) rfl (by show 2 * 0 + _ ≤ _; exact Nat.le_of_eq rfl) (hb hby d2_11) (fun _ _ => ⟨rfl, e2, (by decide : 2 + 4 ≤ _), (by decide : 4 + 8 ≤ _)⟩)
  dsimp only [Pt.U, Pt.locs, Pt.cells, Pt.slots] at Xw3 lq3 yq3 zz3 st3 hQ3 hSw3 hgw3 crw3
  subst lq3 yq3 zz3
  obtain ⟨X3, hS3, hZ3, hown3⟩ := rebS hS (by rw [e2]; exact (Nat.zero_le _)) Xw3 hSw3 hgw3 hZ hown
  obtain ⟨rfl, Nq3, kq3, eq3, cq3, tt3, kt3, fq3, vq3⟩ := hQ3
  have N3 := Fr.app N0 Nq3
  have ft7 := (Safe.ext E2 CR1.1 sf_b1)
  have ft8 := (Nat.lt_of_lt_of_le lt_b1 E2.1)
  have O3 : Old Z n0 T3.heap := O2.keep kq3 (allS g_b1 all0)
  have K3 : Keep h0 T3.heap [] := K2.trans kq3 (allS (Or.inr sz_b1) all0)
  have lt_tt3 := vq3.lt
  have nt_b1_tt3 : b1 ≠ tt3 := Exa.neArv eq3 vq3 (hw _ (List.mem_of_getElem? (i := 12) rfl))
  have ft9 := (V_b2.keep kq3 (ninS (Ne.symm ne_b1_b2) nin0))
  have nt_b2_tt3 : b2 ≠ tt3 := own_neArv ft9 vq3 (by decide)
  have hk3 : T3.heap.size ≤ T3.heap.size := Nat.le_refl _
  have sf10 := crw3.safe ft8 ft7
  have sf11 := crw3.safe lt_b2 sf_b2
  have CR3 := CR2.trans crw3
  refine Go.tr (f' := (mkF m 14 #[iv 0, iv c0, iv c1, .unset] [(.ref b1)])) st3 ?_
  refine GoW.retV X3 hlk hx (t := (.object "java/lang/String")) hret rfl (Or.inr (Or.inr (Or.inr (Or.inr ⟨rfl, rfl, rfl⟩)))) (hb hby d2_14) rfl hS3 hk3 hZ3 hEL CR3 hh ?_ (by decide) (by decide)
  exact ⟨b1, rfl, N3, sz_b1, K3, eq3, cq3, tt3, kt3, fq3, vq3⟩
theorem d2_15 : decode method_2_code 15 = .ok (.iload_n 0, 1) := by decide +kernel
theorem d2_16 : decode method_2_code 16 = .ok (.iconst 1, 1) := by decide +kernel
theorem d2_17 : decode method_2_code 17 = .ok (.if_icmp .ne 20, 3) := by decide +kernel
theorem d2_20 : decode method_2_code 20 = .ok (.iconst 1, 1) := by decide +kernel
theorem d2_21 : decode method_2_code 21 = .ok (.newarray .char, 2) := by decide +kernel
theorem d2_23 : decode method_2_code 23 = .ok (.astore_n 3, 1) := by decide +kernel
theorem d2_24 : decode method_2_code 24 = .ok (.aload_n 3, 1) := by decide +kernel
theorem d2_25 : decode method_2_code 25 = .ok (.iconst 0, 1) := by decide +kernel
theorem d2_26 : decode method_2_code 26 = .ok (.iload_n 1, 1) := by decide +kernel
theorem d2_27 : decode method_2_code 27 = .ok (.castore, 1) := by decide +kernel
theorem d2_28 : decode method_2_code 28 = .ok (.new 7, 3) := by decide +kernel
theorem d2_31 : decode method_2_code 31 = .ok (.dup, 1) := by decide +kernel
theorem d2_32 : decode method_2_code 32 = .ok (.aload_n 3, 1) := by decide +kernel
theorem d2_33 : decode method_2_code 33 = .ok (.invokespecial 9, 3) := by decide +kernel
theorem d2_36 : decode method_2_code 36 = .ok (.areturn, 1) := by decide +kernel
set_option maxRecDepth 65536 in
set_option maxHeartbeats 40000000 in
theorem rmM_1 (l : Launch) (Z : State) (a0 : Array Value) (hw : ∀ d ∈ tables_1, d.before a0 Z = true) (ws : List Jvm.Cond) (c0 : Int32) (c1 : Int32) (w_NUMBER : Addr) (w_SYMBOL : Addr) (w_NAME : Addr) (w_END : Addr) (w_STRING : Addr) (i_COMPACT_STRINGS : Int32) (v_SIOOBE_FORMATTER : Value) (h0 : Heap) (n0 : Nat) (O0 : Old Z n0 h0) (hc_c0 : ¬ (255 : Int32) < c0) (hc_c1 : ¬ (255 : Int32) < c1) (hk_c0 : 0 ≤ c0.toInt) (hk_c1 : 0 ≤ c1.toInt) (WW : World1 Z w_NUMBER w_SYMBOL w_NAME w_END w_STRING i_COMPACT_STRINGS v_SIOOBE_FORMATTER) :
    Con l Z (⟨"com/example/naysay/naysay/rules/TokenIsSymbolPinLaw", "mk", "(ICC)Ljava/lang/String;"⟩ : MethodName) method_2_code 4 (some (.object "java/lang/String")) ws ({ frames := 4, cells := 3, slots := 6, locals := 66 } : Room) #[(.int 1), (.int c0), (.int c1)] h0 (fun v h L => ∃ b : Addr, v = some (.ref b) ∧ Fr n0 L ∧ h0.size ≤ b ∧ Keep h0 h [] ∧ Exa Z h b "java/lang/String" ∧ Fld Z h b "java/lang/String" "coder" "B" (.int 0) ∧ ∃ (t : Addr) (kt : ClassId), h0.size ≤ t ∧ Fld Z h b "java/lang/String" "value" "[B" (.ref t) ∧ Arv Z h t kt .byte (1 : Int32) [(.int (nar .byte ((nar .char c0).toInt8.toInt32)))] (.int 0)) := by
  refine own_body (plainFor_of_name pn_com_example_naysay_naysay_rules_TokenIsSymbolPinLaw) ?_
  intro p e s m below meth c s₁ hx hby hml hZ hown hnm hlk hret X0 e0
  have N0 := Fr.nil n0
  have K0 : Keep h0 h0 [] := Keep.refl _ _
  refine Go.st (T' := s₁) (f' := (mkF m 0 #[iv 1, iv c0, iv c1, .unset] [])) (fun _ k => castTop (by first | (simp [entryFrame, mkF, argsToLocals, Value.category]; done) | rfl) k) ?_
  have ⟨S_i_COMPACT_STRINGS, nz_i_COMPACT_STRINGS, S_v_SIOOBE_FORMATTER, r_v_SIOOBE_FORMATTER, S_w_NUMBER, E_w_NUMBER, S_w_SYMBOL, E_w_SYMBOL, S_w_NAME, E_w_NAME, S_w_END, E_w_END, S_w_STRING, E_w_STRING, F_w_NUMBER_ordinal, F_w_SYMBOL_ordinal, F_w_NAME_ordinal, F_w_END_ordinal, F_w_STRING_ordinal⟩ := WW
  have lt_w_NUMBER := E_w_NUMBER.lt
  have lt_w_SYMBOL := E_w_SYMBOL.lt
  have lt_w_NAME := E_w_NAME.lt
  have lt_w_END := E_w_END.lt
  have lt_w_STRING := E_w_STRING.lt
  refine Go.st (f' := (mkF m 1 #[iv 1, iv c0, iv c1, .unset] [(.int 1)])) (fun _ k => XS.iloadN X0.here hx rfl (hb hby d2_0) rfl k) ?_
  refine Go.st (f' := (mkF m 15 #[iv 1, iv c0, iv c1, .unset] [])) (fun _ k => XS.ifYes X0.here hx rfl (pc0 := 1) (pc' := 15) rfl (hb hby d2_1) rfl (by decide) (by decide) (by decide) k) ?_
  refine Go.st (f' := (mkF m 16 #[iv 1, iv c0, iv c1, .unset] [(.int 1)])) (fun _ k => XS.iloadN X0.here hx rfl (hb hby d2_15) rfl k) ?_
  refine Go.st (f' := (mkF m 17 #[iv 1, iv c0, iv c1, .unset] [(.int 1), (.int 1)])) (fun _ k => XS.iconst X0.here hx rfl (hb hby d2_16) k) ?_
  refine Go.st (f' := (mkF m 20 #[iv 1, iv c0, iv c1, .unset] [])) (fun _ k => XS.icmpNo X0.here hx rfl (hb hby d2_17) rfl (by decide) k) ?_
  refine Go.st (f' := (mkF m 21 #[iv 1, iv c0, iv c1, .unset] [(.int 1)])) (fun _ k => XS.iconst X0.here hx rfl (hb hby d2_20) k) ?_
  obtain ⟨T1, h1, kc1, X1, e1, E1, A1, st1⟩ := newP X0 hx hZ (hw _ (List.mem_of_getElem? (i := 14) rfl)) e0 (g := (mkF m 21 #[iv 1, iv c0, iv c1, .unset] [(.int 1)])) rfl (hb hby d2_21) rfl (by decide) (cap := 1) (by decide) (by decide) (by decide) (by decide)
  obtain ⟨b1, g1⟩ : ∃ z, z = h0.size := ⟨_, rfl⟩
  rw [← g1] at A1 st1
  have ne_w_NUMBER_b1 : w_NUMBER ≠ b1 := Nat.ne_of_lt (Nat.lt_of_lt_of_le lt_w_NUMBER (Nat.le_trans O0.2.1 (Nat.le_of_eq g1.symm)))
  have ne_w_SYMBOL_b1 : w_SYMBOL ≠ b1 := Nat.ne_of_lt (Nat.lt_of_lt_of_le lt_w_SYMBOL (Nat.le_trans O0.2.1 (Nat.le_of_eq g1.symm)))
  have ne_w_NAME_b1 : w_NAME ≠ b1 := Nat.ne_of_lt (Nat.lt_of_lt_of_le lt_w_NAME (Nat.le_trans O0.2.1 (Nat.le_of_eq g1.symm)))
  have ne_w_END_b1 : w_END ≠ b1 := Nat.ne_of_lt (Nat.lt_of_lt_of_le lt_w_END (Nat.le_trans O0.2.1 (Nat.le_of_eq g1.symm)))
  have ne_w_STRING_b1 : w_STRING ≠ b1 := Nat.ne_of_lt (Nat.lt_of_lt_of_le lt_w_STRING (Nat.le_trans O0.2.1 (Nat.le_of_eq g1.symm)))
  have g_b1 : n0 ≤ b1 := Nat.le_trans (O0.1 ▸ O0.2.1) (Nat.le_of_eq g1.symm)
  have O1 : Old Z n0 h1 := O0.ext E1
  have sz_b1 : h0.size ≤ b1 := Nat.le_trans K0.1 (Nat.le_of_eq g1.symm)
  have K1 : Keep h0 h1 [] := K0.ext E1
  have V_b1 : Arv Z h1 b1 kc1 .char (1 : Int32) [(.int (0 : Int32))] (.int (0 : Int32)) := (Arv.new A1 (by decide)).pad (pad_rep [] (.int (0 : Int32)) 1)
  have lt_b1 := V_b1.lt
  refine Go.st (f' := (mkF m 23 #[iv 1, iv c0, iv c1, .unset] [(.ref b1)])) (fun _ k => st1 _ k) ?_
  refine Go.st (f' := (mkF m 24 #[iv 1, iv c0, iv c1, rv b1] [])) (fun _ k => XS.astoreN X1.here hx rfl (hb hby d2_23) rfl rfl (l' := #[iv 1, iv c0, iv c1, rv b1]) rfl k) ?_
  refine Go.st (f' := (mkF m 25 #[iv 1, iv c0, iv c1, rv b1] [(.ref b1)])) (fun _ k => XS.aloadN X1.here hx rfl (hb hby d2_24) rfl rfl k) ?_
  refine Go.st (f' := (mkF m 26 #[iv 1, iv c0, iv c1, rv b1] [(.int 0), (.ref b1)])) (fun _ k => XS.iconst X1.here hx rfl (hb hby d2_25) k) ?_
  refine Go.st (f' := (mkF m 27 #[iv 1, iv c0, iv c1, rv b1] [(.int c0), (.int 0), (.ref b1)])) (fun _ k => XS.iloadN X1.here hx rfl (hb hby d2_26) rfl k) ?_
  obtain ⟨cl2, Ar2, q2, S2, Nx2, H2, G2⟩ := id V_b1
  have hin2 : ¬ ((0 : Int32) < 0 ∨ cl2.slots.size ≤ ((0 : Int32)).toNatClampNeg) := inb_of S2 ⟨by decide, by decide⟩
  obtain ⟨T3, h3, X3, e3, W3, st3⟩ := stC X1 hx hZ e1 Ar2 (j := (0 : Int32)) hin2 (g := (mkF m 27 #[iv 1, iv c0, iv c1, rv b1] [(.int c0), (.int 0), (.ref b1)])) rfl rfl (hb hby d2_27)
  have V_b1_3 : Arv Z h3 b1 kc1 .char (1 : Int32) [(.int (nar .char c0))] (.int (0 : Int32)) := Arv.set Ar2 q2 S2 Nx2 H2 G2 (fits_nar_char _) W3 0 rfl (Nat.le_of_ble_eq_true rfl)
  have N3 := Fr.snoc X3 N0 g_b1
  have O3 : Old Z n0 h3 := O1.wr W3 g_b1
  have K3 : Keep h0 h3 [] := K1.wr W3 (Or.inr sz_b1)
  refine Go.st (f' := (mkF m 28 #[iv 1, iv c0, iv c1, rv b1] [])) (fun _ k => st3 _ k) ?_
  obtain ⟨T4, h4, X4, e4, E4, A4, D4, -, st4⟩ := newO X3 hx hZ hown (hw _ (List.mem_of_getElem? (i := 11) rfl)) (hw _ (List.mem_of_getElem? (i := 12) rfl)) (hw _ (List.mem_of_getElem? (i := 13) rfl)) e3 (g := (mkF m 28 #[iv 1, iv c0, iv c1, rv b1] [])) rfl (hb hby d2_28) (by decide) (by decide)
  obtain ⟨b4, g4⟩ : ∃ z, z = h3.size := ⟨_, rfl⟩
  rw [← g4] at A4 D4 st4
  have ft5 := (Nat.lt_of_lt_of_eq lt_b1 W3.size.symm)
  have ne_b1_b4 : b1 ≠ b4 := Nat.ne_of_lt (Nat.lt_of_lt_of_eq ft5 g4.symm)
  have ne_w_NUMBER_b4 : w_NUMBER ≠ b4 := Nat.ne_of_lt (Nat.lt_of_lt_of_le lt_w_NUMBER (Nat.le_trans O3.2.1 (Nat.le_of_eq g4.symm)))
  have ne_w_SYMBOL_b4 : w_SYMBOL ≠ b4 := Nat.ne_of_lt (Nat.lt_of_lt_of_le lt_w_SYMBOL (Nat.le_trans O3.2.1 (Nat.le_of_eq g4.symm)))
  have ne_w_NAME_b4 : w_NAME ≠ b4 := Nat.ne_of_lt (Nat.lt_of_lt_of_le lt_w_NAME (Nat.le_trans O3.2.1 (Nat.le_of_eq g4.symm)))
  have ne_w_END_b4 : w_END ≠ b4 := Nat.ne_of_lt (Nat.lt_of_lt_of_le lt_w_END (Nat.le_trans O3.2.1 (Nat.le_of_eq g4.symm)))
  have ne_w_STRING_b4 : w_STRING ≠ b4 := Nat.ne_of_lt (Nat.lt_of_lt_of_le lt_w_STRING (Nat.le_trans O3.2.1 (Nat.le_of_eq g4.symm)))
  have g_b4 : n0 ≤ b4 := Nat.le_trans (O3.1 ▸ O3.2.1) (Nat.le_of_eq g4.symm)
  have O4 : Old Z n0 h4 := O3.ext E4
  have sz_b4 : h0.size ≤ b4 := Nat.le_trans K3.1 (Nat.le_of_eq g4.symm)
  have K4 : Keep h0 h4 [] := K3.ext E4
  have lt_b4 := A4.lt
  have F_value_b4 : Fld Z h4 b4 "java/lang/String" "value" "[B" .null := D4 (Or.inr (hw _ (List.mem_of_getElem? (i := 27) rfl))) (ty := (.array .byte)) (by decide)
  have F_coder_b4 : Fld Z h4 b4 "java/lang/String" "coder" "B" (.int (0 : Int32)) := D4 (Or.inr (hw _ (List.mem_of_getElem? (i := 28) rfl))) (ty := .byte) (by decide)
  refine Go.st (f' := (mkF m 31 #[iv 1, iv c0, iv c1, rv b1] [(.ref b4)])) (fun _ k => st4 _ k) ?_
  refine Go.st (f' := (mkF m 32 #[iv 1, iv c0, iv c1, rv b1] [(.ref b4), (.ref b4)])) (fun _ k => XS.dup X4.here hx rfl (hb hby d2_31) rfl rfl k) ?_
  refine Go.st (f' := (mkF m 33 #[iv 1, iv c0, iv c1, rv b1] [(.ref b1), (.ref b4), (.ref b4)])) (fun _ k => XS.aloadN X4.here hx rfl (hb hby d2_32) rfl rfl k) ?_
  have ft7 := (V_b1_3.ext E4)
  obtain ⟨_, _, ⟨T6, L6, kk6, nn6⟩, -, X6, ⟨Lc6, hQ6, lq6, yq6, zz6⟩, st6⟩ := X4.specialBack hx (y := (⟨"java/lang/String", "<init>", "([C)V"⟩ : MethodName)) rfl hown (mvT hZ (hw _ (List.mem_of_getElem? (i := 15) rfl))) (mvT hZ (hw _ (List.mem_of_getElem? (i := 16) rfl))) (mvT hZ (hw _ (List.mem_of_getElem? (i := 17) rfl))) (by decide) (own_back (W := 1) (st1_1 l Z a0 hw [] b4 b1 kc1 (nar .char c0) w_NUMBER w_SYMBOL w_NAME w_END w_STRING i_COMPACT_STRINGS v_SIOOBE_FORMATTER h4 n0 O4 (own_nc hc_c0 hk_c0) g_b4 (Ne.symm ne_b1_b4) A4 F_coder_b4 F_value_b4 ft7 WW) hZ (hw _ (List.mem_of_getElem? (i := 17) rfl)) (hw _ (List.mem_of_getElem? (i := 13) rfl)) (by decide) (by decide)) (g := (mkF m 33 #[iv 1, iv c0, iv c1, rv b1] [(.ref b1), (.ref b4), (.ref b4)])) rfl (by rw [hml]; rfl) (Steps.refl _) (a := b4) (argsL := [(.ref b1)]) (rest := [(.ref b4)]) (lenOf pd___C_V rfl) rfl (by show 2 * 0 + _ ≤ _; exact Nat.le_of_eq rfl) (hb hby d2_33) (fun _ _ => ⟨rfl, e4, (by decide : 2 + 1 ≤ _), (by decide : 5 + 1 ≤ _)⟩)
  dsimp only [Pt.U, Pt.locs, Pt.cells, Pt.slots] at X6 lq6 yq6 zz6 st6 hQ6
  subst lq6 yq6 zz6
  obtain ⟨rfl, Nq6, kq6, eq6, cq6, tt6, kt6, zq6, fq6, vq6⟩ := hQ6
  have N6 := Fr.app N3 Nq6
  have ft8 := (Nat.lt_of_lt_of_le ft5 E4.1)
  have ne_b1_tt6 : b1 ≠ tt6 := Nat.ne_of_lt (Nat.lt_of_lt_of_le ft8 zq6)
  have ne_b4_tt6 : b4 ≠ tt6 := Nat.ne_of_lt (Nat.lt_of_lt_of_le lt_b4 zq6)
  have ne_w_NUMBER_tt6 : w_NUMBER ≠ tt6 := Nat.ne_of_lt (Nat.lt_of_lt_of_le lt_w_NUMBER (Nat.le_trans O4.2.1 zq6))
  have ne_w_SYMBOL_tt6 : w_SYMBOL ≠ tt6 := Nat.ne_of_lt (Nat.lt_of_lt_of_le lt_w_SYMBOL (Nat.le_trans O4.2.1 zq6))
  have ne_w_NAME_tt6 : w_NAME ≠ tt6 := Nat.ne_of_lt (Nat.lt_of_lt_of_le lt_w_NAME (Nat.le_trans O4.2.1 zq6))
  have ne_w_END_tt6 : w_END ≠ tt6 := Nat.ne_of_lt (Nat.lt_of_lt_of_le lt_w_END (Nat.le_trans O4.2.1 zq6))
  have ne_w_STRING_tt6 : w_STRING ≠ tt6 := Nat.ne_of_lt (Nat.lt_of_lt_of_le lt_w_STRING (Nat.le_trans O4.2.1 zq6))
  have g_tt6 : n0 ≤ tt6 := Nat.le_trans (O4.1 ▸ O4.2.1) zq6
  have sz_tt6 : h0.size ≤ tt6 := Nat.le_trans K4.1 zq6
  have O6 : Old Z n0 T6.heap := O4.keep kq6 (allS g_b4 all0)
  have K6 : Keep h0 T6.heap [] := K4.trans kq6 (allS (Or.inr sz_b4) all0)
  have lt_tt6 := vq6.lt
  refine Go.tr (f' := (mkF m 36 #[iv 1, iv c0, iv c1, rv b1] [(.ref b4)])) st6 ?_
  refine Go.retV X6 hlk hx (t := (.object "java/lang/String")) hret rfl (Or.inr (Or.inr (Or.inr (Or.inr ⟨rfl, rfl, rfl⟩)))) (hb hby d2_36) rfl ?_ (by decide) (by decide)
  exact ⟨b4, rfl, N6, sz_b4, K6, eq6, cq6, tt6, kt6, sz_tt6, fq6, vq6⟩
theorem d2_37 : decode method_2_code 37 = .ok (.iconst 2, 1) := by decide +kernel
theorem d2_38 : decode method_2_code 38 = .ok (.newarray .char, 2) := by decide +kernel
theorem d2_40 : decode method_2_code 40 = .ok (.astore_n 3, 1) := by decide +kernel
theorem d2_41 : decode method_2_code 41 = .ok (.aload_n 3, 1) := by decide +kernel
theorem d2_42 : decode method_2_code 42 = .ok (.iconst 0, 1) := by decide +kernel
theorem d2_43 : decode method_2_code 43 = .ok (.iload_n 1, 1) := by decide +kernel
theorem d2_44 : decode method_2_code 44 = .ok (.castore, 1) := by decide +kernel
theorem d2_45 : decode method_2_code 45 = .ok (.aload_n 3, 1) := by decide +kernel
theorem d2_46 : decode method_2_code 46 = .ok (.iconst 1, 1) := by decide +kernel
theorem d2_47 : decode method_2_code 47 = .ok (.iload_n 2, 1) := by decide +kernel
theorem d2_48 : decode method_2_code 48 = .ok (.castore, 1) := by decide +kernel
theorem d2_49 : decode method_2_code 49 = .ok (.new 7, 3) := by decide +kernel
theorem d2_52 : decode method_2_code 52 = .ok (.dup, 1) := by decide +kernel
theorem d2_53 : decode method_2_code 53 = .ok (.aload_n 3, 1) := by decide +kernel
theorem d2_54 : decode method_2_code 54 = .ok (.invokespecial 9, 3) := by decide +kernel
theorem d2_57 : decode method_2_code 57 = .ok (.areturn, 1) := by decide +kernel
set_option maxRecDepth 65536 in
set_option maxHeartbeats 40000000 in
theorem rmM_2 (l : Launch) (Z : State) (a0 : Array Value) (hw : ∀ d ∈ tables_1, d.before a0 Z = true) (ws : List Jvm.Cond) (c0 : Int32) (c1 : Int32) (w_NUMBER : Addr) (w_SYMBOL : Addr) (w_NAME : Addr) (w_END : Addr) (w_STRING : Addr) (i_COMPACT_STRINGS : Int32) (v_SIOOBE_FORMATTER : Value) (h0 : Heap) (n0 : Nat) (O0 : Old Z n0 h0) (hc_c0 : ¬ (255 : Int32) < c0) (hc_c1 : ¬ (255 : Int32) < c1) (hk_c0 : 0 ≤ c0.toInt) (hk_c1 : 0 ≤ c1.toInt) (WW : World1 Z w_NUMBER w_SYMBOL w_NAME w_END w_STRING i_COMPACT_STRINGS v_SIOOBE_FORMATTER) :
    Con l Z (⟨"com/example/naysay/naysay/rules/TokenIsSymbolPinLaw", "mk", "(ICC)Ljava/lang/String;"⟩ : MethodName) method_2_code 4 (some (.object "java/lang/String")) ws ({ frames := 4, cells := 3, slots := 8, locals := 66 } : Room) #[(.int 2), (.int c0), (.int c1)] h0 (fun v h L => ∃ b : Addr, v = some (.ref b) ∧ Fr n0 L ∧ h0.size ≤ b ∧ Keep h0 h [] ∧ Exa Z h b "java/lang/String" ∧ Fld Z h b "java/lang/String" "coder" "B" (.int 0) ∧ ∃ (t : Addr) (kt : ClassId), h0.size ≤ t ∧ Fld Z h b "java/lang/String" "value" "[B" (.ref t) ∧ Arv Z h t kt .byte (2 : Int32) [(.int (nar .byte ((nar .char c0).toInt8.toInt32))), (.int (nar .byte ((nar .char c1).toInt8.toInt32)))] (.int 0)) := by
  refine own_body (plainFor_of_name pn_com_example_naysay_naysay_rules_TokenIsSymbolPinLaw) ?_
  intro p e s m below meth c s₁ hx hby hml hZ hown hnm hlk hret X0 e0
  have N0 := Fr.nil n0
  have K0 : Keep h0 h0 [] := Keep.refl _ _
  refine Go.st (T' := s₁) (f' := (mkF m 0 #[iv 2, iv c0, iv c1, .unset] [])) (fun _ k => castTop (by first | (simp [entryFrame, mkF, argsToLocals, Value.category]; done) | rfl) k) ?_
  have ⟨S_i_COMPACT_STRINGS, nz_i_COMPACT_STRINGS, S_v_SIOOBE_FORMATTER, r_v_SIOOBE_FORMATTER, S_w_NUMBER, E_w_NUMBER, S_w_SYMBOL, E_w_SYMBOL, S_w_NAME, E_w_NAME, S_w_END, E_w_END, S_w_STRING, E_w_STRING, F_w_NUMBER_ordinal, F_w_SYMBOL_ordinal, F_w_NAME_ordinal, F_w_END_ordinal, F_w_STRING_ordinal⟩ := WW
  have lt_w_NUMBER := E_w_NUMBER.lt
  have lt_w_SYMBOL := E_w_SYMBOL.lt
  have lt_w_NAME := E_w_NAME.lt
  have lt_w_END := E_w_END.lt
  have lt_w_STRING := E_w_STRING.lt
  refine Go.st (f' := (mkF m 1 #[iv 2, iv c0, iv c1, .unset] [(.int 2)])) (fun _ k => XS.iloadN X0.here hx rfl (hb hby d2_0) rfl k) ?_
  refine Go.st (f' := (mkF m 15 #[iv 2, iv c0, iv c1, .unset] [])) (fun _ k => XS.ifYes X0.here hx rfl (pc0 := 1) (pc' := 15) rfl (hb hby d2_1) rfl (by decide) (by decide) (by decide) k) ?_
  refine Go.st (f' := (mkF m 16 #[iv 2, iv c0, iv c1, .unset] [(.int 2)])) (fun _ k => XS.iloadN X0.here hx rfl (hb hby d2_15) rfl k) ?_
  refine Go.st (f' := (mkF m 17 #[iv 2, iv c0, iv c1, .unset] [(.int 1), (.int 2)])) (fun _ k => XS.iconst X0.here hx rfl (hb hby d2_16) k) ?_
  refine Go.st (f' := (mkF m 37 #[iv 2, iv c0, iv c1, .unset] [])) (fun _ k => XS.icmpYes X0.here hx rfl (pc0 := 17) (pc' := 37) rfl (hb hby d2_17) rfl (by decide) (by decide) (by decide) k) ?_
  refine Go.st (f' := (mkF m 38 #[iv 2, iv c0, iv c1, .unset] [(.int 2)])) (fun _ k => XS.iconst X0.here hx rfl (hb hby d2_37) k) ?_
  obtain ⟨T1, h1, kc1, X1, e1, E1, A1, st1⟩ := newP X0 hx hZ (hw _ (List.mem_of_getElem? (i := 14) rfl)) e0 (g := (mkF m 38 #[iv 2, iv c0, iv c1, .unset] [(.int 2)])) rfl (hb hby d2_38) rfl (by decide) (cap := 2) (by decide) (by decide) (by decide) (by decide)
  obtain ⟨b1, g1⟩ : ∃ z, z = h0.size := ⟨_, rfl⟩
  rw [← g1] at A1 st1
  have ne_w_NUMBER_b1 : w_NUMBER ≠ b1 := Nat.ne_of_lt (Nat.lt_of_lt_of_le lt_w_NUMBER (Nat.le_trans O0.2.1 (Nat.le_of_eq g1.symm)))
  have ne_w_SYMBOL_b1 : w_SYMBOL ≠ b1 := Nat.ne_of_lt (Nat.lt_of_lt_of_le lt_w_SYMBOL (Nat.le_trans O0.2.1 (Nat.le_of_eq g1.symm)))
  have ne_w_NAME_b1 : w_NAME ≠ b1 := Nat.ne_of_lt (Nat.lt_of_lt_of_le lt_w_NAME (Nat.le_trans O0.2.1 (Nat.le_of_eq g1.symm)))
  have ne_w_END_b1 : w_END ≠ b1 := Nat.ne_of_lt (Nat.lt_of_lt_of_le lt_w_END (Nat.le_trans O0.2.1 (Nat.le_of_eq g1.symm)))
  have ne_w_STRING_b1 : w_STRING ≠ b1 := Nat.ne_of_lt (Nat.lt_of_lt_of_le lt_w_STRING (Nat.le_trans O0.2.1 (Nat.le_of_eq g1.symm)))
  have g_b1 : n0 ≤ b1 := Nat.le_trans (O0.1 ▸ O0.2.1) (Nat.le_of_eq g1.symm)
  have O1 : Old Z n0 h1 := O0.ext E1
  have sz_b1 : h0.size ≤ b1 := Nat.le_trans K0.1 (Nat.le_of_eq g1.symm)
  have K1 : Keep h0 h1 [] := K0.ext E1
  have V_b1 : Arv Z h1 b1 kc1 .char (2 : Int32) [(.int (0 : Int32)), (.int (0 : Int32))] (.int (0 : Int32)) := (Arv.new A1 (by decide)).pad (pad_rep [] (.int (0 : Int32)) 2)
  have lt_b1 := V_b1.lt
  refine Go.st (f' := (mkF m 40 #[iv 2, iv c0, iv c1, .unset] [(.ref b1)])) (fun _ k => st1 _ k) ?_
  refine Go.st (f' := (mkF m 41 #[iv 2, iv c0, iv c1, rv b1] [])) (fun _ k => XS.astoreN X1.here hx rfl (hb hby d2_40) rfl rfl (l' := #[iv 2, iv c0, iv c1, rv b1]) rfl k) ?_
  refine Go.st (f' := (mkF m 42 #[iv 2, iv c0, iv c1, rv b1] [(.ref b1)])) (fun _ k => XS.aloadN X1.here hx rfl (hb hby d2_41) rfl rfl k) ?_
  refine Go.st (f' := (mkF m 43 #[iv 2, iv c0, iv c1, rv b1] [(.int 0), (.ref b1)])) (fun _ k => XS.iconst X1.here hx rfl (hb hby d2_42) k) ?_
  refine Go.st (f' := (mkF m 44 #[iv 2, iv c0, iv c1, rv b1] [(.int c0), (.int 0), (.ref b1)])) (fun _ k => XS.iloadN X1.here hx rfl (hb hby d2_43) rfl k) ?_
  obtain ⟨cl2, Ar2, q2, S2, Nx2, H2, G2⟩ := id V_b1
  have hin2 : ¬ ((0 : Int32) < 0 ∨ cl2.slots.size ≤ ((0 : Int32)).toNatClampNeg) := inb_of S2 ⟨by decide, by decide⟩
  obtain ⟨T3, h3, X3, e3, W3, st3⟩ := stC X1 hx hZ e1 Ar2 (j := (0 : Int32)) hin2 (g := (mkF m 44 #[iv 2, iv c0, iv c1, rv b1] [(.int c0), (.int 0), (.ref b1)])) rfl rfl (hb hby d2_44)
  have V_b1_3 : Arv Z h3 b1 kc1 .char (2 : Int32) [(.int (nar .char c0)), (.int (0 : Int32))] (.int (0 : Int32)) := Arv.set Ar2 q2 S2 Nx2 H2 G2 (fits_nar_char _) W3 0 rfl (Nat.le_of_ble_eq_true rfl)
  have N3 := Fr.snoc X3 N0 g_b1
  have O3 : Old Z n0 h3 := O1.wr W3 g_b1
  have K3 : Keep h0 h3 [] := K1.wr W3 (Or.inr sz_b1)
  refine Go.st (f' := (mkF m 45 #[iv 2, iv c0, iv c1, rv b1] [])) (fun _ k => st3 _ k) ?_
  refine Go.st (f' := (mkF m 46 #[iv 2, iv c0, iv c1, rv b1] [(.ref b1)])) (fun _ k => XS.aloadN X3.here hx rfl (hb hby d2_45) rfl rfl k) ?_
  refine Go.st (f' := (mkF m 47 #[iv 2, iv c0, iv c1, rv b1] [(.int 1), (.ref b1)])) (fun _ k => XS.iconst X3.here hx rfl (hb hby d2_46) k) ?_
  refine Go.st (f' := (mkF m 48 #[iv 2, iv c0, iv c1, rv b1] [(.int c1), (.int 1), (.ref b1)])) (fun _ k => XS.iloadN X3.here hx rfl (hb hby d2_47) rfl k) ?_
  obtain ⟨cl4, Ar4, q4, S4, Nx4, H4, G4⟩ := id V_b1_3
  have hin4 : ¬ ((1 : Int32) < 0 ∨ cl4.slots.size ≤ ((1 : Int32)).toNatClampNeg) := inb_of S4 ⟨by decide, by decide⟩
  obtain ⟨T5, h5, X5, e5, W5, st5⟩ := stC X3 hx hZ e3 Ar4 (j := (1 : Int32)) hin4 (g := (mkF m 48 #[iv 2, iv c0, iv c1, rv b1] [(.int c1), (.int 1), (.ref b1)])) rfl rfl (hb hby d2_48)
  have V_b1_5 : Arv Z h5 b1 kc1 .char (2 : Int32) [(.int (nar .char c0)), (.int (nar .char c1))] (.int (0 : Int32)) := Arv.set Ar4 q4 S4 Nx4 H4 G4 (fits_nar_char _) W5 1 rfl (Nat.le_of_ble_eq_true rfl)
  have N5 := Fr.snoc X5 N3 g_b1
  have O5 : Old Z n0 h5 := O3.wr W5 g_b1
  have K5 : Keep h0 h5 [] := K3.wr W5 (Or.inr sz_b1)
  refine Go.st (f' := (mkF m 49 #[iv 2, iv c0, iv c1, rv b1] [])) (fun _ k => st5 _ k) ?_
  obtain ⟨T6, h6, X6, e6, E6, A6, D6, -, st6⟩ := newO X5 hx hZ hown (hw _ (List.mem_of_getElem? (i := 11) rfl)) (hw _ (List.mem_of_getElem? (i := 12) rfl)) (hw _ (List.mem_of_getElem? (i := 13) rfl)) e5 (g := (mkF m 49 #[iv 2, iv c0, iv c1, rv b1] [])) rfl (hb hby d2_49) (by decide) (by decide)
  obtain ⟨b6, g6⟩ : ∃ z, z = h5.size := ⟨_, rfl⟩
  rw [← g6] at A6 D6 st6
  have ft7 := (Nat.lt_of_lt_of_eq (Nat.lt_of_lt_of_eq lt_b1 W3.size.symm) W5.size.symm)
  have ne_b1_b6 : b1 ≠ b6 := Nat.ne_of_lt (Nat.lt_of_lt_of_eq ft7 g6.symm)
  have ne_w_NUMBER_b6 : w_NUMBER ≠ b6 := Nat.ne_of_lt (Nat.lt_of_lt_of_le lt_w_NUMBER (Nat.le_trans O5.2.1 (Nat.le_of_eq g6.symm)))
  have ne_w_SYMBOL_b6 : w_SYMBOL ≠ b6 := Nat.ne_of_lt (Nat.lt_of_lt_of_le lt_w_SYMBOL (Nat.le_trans O5.2.1 (Nat.le_of_eq g6.symm)))
  have ne_w_NAME_b6 : w_NAME ≠ b6 := Nat.ne_of_lt (Nat.lt_of_lt_of_le lt_w_NAME (Nat.le_trans O5.2.1 (Nat.le_of_eq g6.symm)))
  have ne_w_END_b6 : w_END ≠ b6 := Nat.ne_of_lt (Nat.lt_of_lt_of_le lt_w_END (Nat.le_trans O5.2.1 (Nat.le_of_eq g6.symm)))
  have ne_w_STRING_b6 : w_STRING ≠ b6 := Nat.ne_of_lt (Nat.lt_of_lt_of_le lt_w_STRING (Nat.le_trans O5.2.1 (Nat.le_of_eq g6.symm)))
  have g_b6 : n0 ≤ b6 := Nat.le_trans (O5.1 ▸ O5.2.1) (Nat.le_of_eq g6.symm)
  have O6 : Old Z n0 h6 := O5.ext E6
  have sz_b6 : h0.size ≤ b6 := Nat.le_trans K5.1 (Nat.le_of_eq g6.symm)
  have K6 : Keep h0 h6 [] := K5.ext E6
  have lt_b6 := A6.lt
  have F_value_b6 : Fld Z h6 b6 "java/lang/String" "value" "[B" .null := D6 (Or.inr (hw _ (List.mem_of_getElem? (i := 27) rfl))) (ty := (.array .byte)) (by decide)
  have F_coder_b6 : Fld Z h6 b6 "java/lang/String" "coder" "B" (.int (0 : Int32)) := D6 (Or.inr (hw _ (List.mem_of_getElem? (i := 28) rfl))) (ty := .byte) (by decide)
  refine Go.st (f' := (mkF m 52 #[iv 2, iv c0, iv c1, rv b1] [(.ref b6)])) (fun _ k => st6 _ k) ?_
  refine Go.st (f' := (mkF m 53 #[iv 2, iv c0, iv c1, rv b1] [(.ref b6), (.ref b6)])) (fun _ k => XS.dup X6.here hx rfl (hb hby d2_52) rfl rfl k) ?_
  refine Go.st (f' := (mkF m 54 #[iv 2, iv c0, iv c1, rv b1] [(.ref b1), (.ref b6), (.ref b6)])) (fun _ k => XS.aloadN X6.here hx rfl (hb hby d2_53) rfl rfl k) ?_
  have ft9 := (V_b1_5.ext E6)
  obtain ⟨_, _, ⟨T8, L8, kk8, nn8⟩, -, X8, ⟨Lc8, hQ8, lq8, yq8, zz8⟩, st8⟩ := X6.specialBack hx (y := (⟨"java/lang/String", "<init>", "([C)V"⟩ : MethodName)) rfl hown (mvT hZ (hw _ (List.mem_of_getElem? (i := 15) rfl))) (mvT hZ (hw _ (List.mem_of_getElem? (i := 16) rfl))) (mvT hZ (hw _ (List.mem_of_getElem? (i := 17) rfl))) (by decide) (own_back (W := 1) (st1_2 l Z a0 hw [] b6 b1 kc1 (nar .char c0) (nar .char c1) w_NUMBER w_SYMBOL w_NAME w_END w_STRING i_COMPACT_STRINGS v_SIOOBE_FORMATTER h6 n0 O6 (own_nc hc_c0 hk_c0) (own_nc hc_c1 hk_c1) g_b6 (Ne.symm ne_b1_b6) A6 F_coder_b6 F_value_b6 ft9 WW) hZ (hw _ (List.mem_of_getElem? (i := 17) rfl)) (hw _ (List.mem_of_getElem? (i := 13) rfl)) (by decide) (by decide)) (g := (mkF m 54 #[iv 2, iv c0, iv c1, rv b1] [(.ref b1), (.ref b6), (.ref b6)])) rfl (by rw [hml]; rfl) (Steps.refl _) (a := b6) (argsL := [(.ref b1)]) (rest := [(.ref b6)]) (lenOf pd___C_V rfl) rfl (by show 2 * 0 + _ ≤ _; exact Nat.le_of_eq rfl) (hb hby d2_54) (fun _ _ => ⟨rfl, e6, (by decide : 2 + 1 ≤ _), (by decide : 6 + 2 ≤ _)⟩)
  dsimp only [Pt.U, Pt.locs, Pt.cells, Pt.slots] at X8 lq8 yq8 zz8 st8 hQ8
  subst lq8 yq8 zz8
  obtain ⟨rfl, Nq8, kq8, eq8, cq8, tt8, kt8, zq8, fq8, vq8⟩ := hQ8
  have N8 := Fr.app N5 Nq8
  have ft10 := (Nat.lt_of_lt_of_le ft7 E6.1)
  have ne_b1_tt8 : b1 ≠ tt8 := Nat.ne_of_lt (Nat.lt_of_lt_of_le ft10 zq8)
  have ne_b6_tt8 : b6 ≠ tt8 := Nat.ne_of_lt (Nat.lt_of_lt_of_le lt_b6 zq8)
  have ne_w_NUMBER_tt8 : w_NUMBER ≠ tt8 := Nat.ne_of_lt (Nat.lt_of_lt_of_le lt_w_NUMBER (Nat.le_trans O6.2.1 zq8))
  have ne_w_SYMBOL_tt8 : w_SYMBOL ≠ tt8 := Nat.ne_of_lt (Nat.lt_of_lt_of_le lt_w_SYMBOL (Nat.le_trans O6.2.1 zq8))
  have ne_w_NAME_tt8 : w_NAME ≠ tt8 := Nat.ne_of_lt (Nat.lt_of_lt_of_le lt_w_NAME (Nat.le_trans O6.2.1 zq8))
  have ne_w_END_tt8 : w_END ≠ tt8 := Nat.ne_of_lt (Nat.lt_of_lt_of_le lt_w_END (Nat.le_trans O6.2.1 zq8))
  have ne_w_STRING_tt8 : w_STRING ≠ tt8 := Nat.ne_of_lt (Nat.lt_of_lt_of_le lt_w_STRING (Nat.le_trans O6.2.1 zq8))
  have g_tt8 : n0 ≤ tt8 := Nat.le_trans (O6.1 ▸ O6.2.1) zq8
  have sz_tt8 : h0.size ≤ tt8 := Nat.le_trans K6.1 zq8
  have O8 : Old Z n0 T8.heap := O6.keep kq8 (allS g_b6 all0)
  have K8 : Keep h0 T8.heap [] := K6.trans kq8 (allS (Or.inr sz_b6) all0)
  have lt_tt8 := vq8.lt
  refine Go.tr (f' := (mkF m 57 #[iv 2, iv c0, iv c1, rv b1] [(.ref b6)])) st8 ?_
  refine Go.retV X8 hlk hx (t := (.object "java/lang/String")) hret rfl (Or.inr (Or.inr (Or.inr (Or.inr ⟨rfl, rfl, rfl⟩)))) (hb hby d2_57) rfl ?_ (by decide) (by decide)
  exact ⟨b6, rfl, N8, sz_b6, K8, eq8, cq8, tt8, kt8, sz_tt8, fq8, vq8⟩
theorem pn_java_lang_Record : plainName "java/lang/Record" = true := by first | (simp [plainName, overriddenIn]; done) | decide +kernel
theorem d10_0 : decode jdk_30_method_1_code 0 = .ok (.aload_n 0, 1) := by decide +kernel
theorem d10_1 : decode jdk_30_method_1_code 1 = .ok (.invokespecial 1, 3) := by decide +kernel
theorem d10_4 : decode jdk_30_method_1_code 4 = .ok (.return_, 1) := by decide +kernel
set_option maxRecDepth 65536 in
set_option maxHeartbeats 40000000 in
theorem rmRec (l : Launch) (Z : State) (a0 : Array Value) (hw : ∀ d ∈ tables_1, d.before a0 Z = true) (ws : List Jvm.Cond) (a1 : Addr) (h0 : Heap) (n0 : Nat) (O0 : Old Z n0 h0)  :
    Con l Z (⟨"java/lang/Record", "<init>", "()V"⟩ : MethodName) jdk_30_method_1_code 1 none ws ({ frames := 1, cells := 0, slots := 0, locals := 12 } : Room) #[(.ref a1)] h0 (fun v h L => v = none ∧ Fr n0 L ∧ h = h0) := by
  refine own_body (plainFor_of_name pn_java_lang_Record) ?_
  intro p e s m below meth c s₁ hx hby hml hZ hown hnm hlk hret X0 e0
  have N0 := Fr.nil n0
  refine Go.st (T' := s₁) (f' := (mkF m 0 #[rv a1] [])) (fun _ k => castTop (by first | (simp [entryFrame, mkF, argsToLocals, Value.category]; done) | rfl) k) ?_
  refine Go.st (f' := (mkF m 1 #[rv a1] [(.ref a1)])) (fun _ k => XS.aloadN X0.here hx rfl (hb hby d10_0) rfl rfl k) ?_
  obtain ⟨T1, X1, e1, st1⟩ := initO X0 hx hZ hown (hw _ (List.mem_of_getElem? (i := 57) rfl)) (hw _ (List.mem_of_getElem? (i := 23) rfl)) (hw _ (List.mem_of_getElem? (i := 24) rfl)) e0 (g := (mkF m 1 #[rv a1] [(.ref a1)])) rfl (by rw [hml]; rfl) rfl (hb hby d10_1) (by decide) (W := 0) (by show 2 * 0 + _ ≤ _; exact Nat.le_of_eq rfl) (by decide)
  refine Go.st (f' := (mkF m 4 #[rv a1] [])) (fun _ k => st1 _ k) ?_
  refine Go.ret0 X1 hlk hx hret (hb hby d10_4) e1 ?_ (by decide) (by decide)
  exact ⟨rfl, N0, rfl⟩
theorem pn_com_example_naysay_naysay_rules_Token : plainName "com/example/naysay/naysay/rules/Token" = true := by first | (simp [plainName, overriddenIn]; done) | decide +kernel
theorem d9_0 : decode prog_33_method_1_code 0 = .ok (.aload_n 0, 1) := by decide +kernel
theorem d9_1 : decode prog_33_method_1_code 1 = .ok (.invokespecial 1, 3) := by decide +kernel
theorem pd___V : parseMethodDescriptor "()V" = some ⟨[], none⟩ := by decide +kernel
theorem d9_4 : decode prog_33_method_1_code 4 = .ok (.aload_n 0, 1) := by decide +kernel
theorem d9_5 : decode prog_33_method_1_code 5 = .ok (.aload_n 1, 1) := by decide +kernel
theorem d9_6 : decode prog_33_method_1_code 6 = .ok (.putfield 7, 3) := by decide +kernel
theorem d9_9 : decode prog_33_method_1_code 9 = .ok (.aload_n 0, 1) := by decide +kernel
theorem d9_10 : decode prog_33_method_1_code 10 = .ok (.aload_n 2, 1) := by decide +kernel
theorem d9_11 : decode prog_33_method_1_code 11 = .ok (.putfield 13, 3) := by decide +kernel
theorem d9_14 : decode prog_33_method_1_code 14 = .ok (.aload_n 0, 1) := by decide +kernel
theorem d9_15 : decode prog_33_method_1_code 15 = .ok (.iload_n 3, 1) := by decide +kernel
theorem d9_16 : decode prog_33_method_1_code 16 = .ok (.putfield 17, 3) := by decide +kernel
theorem d9_19 : decode prog_33_method_1_code 19 = .ok (.return_, 1) := by decide +kernel
set_option maxRecDepth 65536 in
set_option maxHeartbeats 40000000 in
theorem rmT (l : Launch) (Z : State) (a0 : Array Value) (hw : ∀ d ∈ tables_1, d.before a0 Z = true) (ws : List Jvm.Cond) (a1 : Addr) (f1 : Addr) (f2 : Addr) (q3 : Int32) (h0 : Heap) (n0 : Nat) (O0 : Old Z n0 h0) (g_a1 : n0 ≤ a1) (E_a1 : Exa Z h0 a1 "com/example/naysay/naysay/rules/Token") (F_a1_kind : Fld Z h0 a1 "com/example/naysay/naysay/rules/Token" "kind" "Lcom/example/naysay/naysay/rules/Token$Kind;" .null) (F_a1_text : Fld Z h0 a1 "com/example/naysay/naysay/rules/Token" "text" "Ljava/lang/String;" .null) (F_a1_column : Fld Z h0 a1 "com/example/naysay/naysay/rules/Token" "column" "I" (.int 0)) :
    Con l Z (⟨"com/example/naysay/naysay/rules/Token", "<init>", "(Lcom/example/naysay/naysay/rules/Token$Kind;Ljava/lang/String;I)V"⟩ : MethodName) prog_33_method_1_code 4 none ws ({ frames := 2, cells := 0, slots := 0, locals := 24 } : Room) #[(.ref a1), (.ref f1), (.ref f2), (.int q3)] h0 (fun v h L => v = none ∧ Fr n0 L ∧ Keep h0 h [a1] ∧ Exa Z h a1 "com/example/naysay/naysay/rules/Token" ∧ Fld Z h a1 "com/example/naysay/naysay/rules/Token" "kind" "Lcom/example/naysay/naysay/rules/Token$Kind;" (.ref f1) ∧ Fld Z h a1 "com/example/naysay/naysay/rules/Token" "text" "Ljava/lang/String;" (.ref f2) ∧ Fld Z h a1 "com/example/naysay/naysay/rules/Token" "column" "I" (.int q3)) := by
  refine own_body (plainFor_of_name pn_com_example_naysay_naysay_rules_Token) ?_
  intro p e s m below meth c s₁ hx hby hml hZ hown hnm hlk hret X0 e0
  have N0 := Fr.nil n0
  have K0 : Keep h0 h0 [a1] := Keep.refl _ _
  refine Go.st (T' := s₁) (f' := (mkF m 0 #[rv a1, rv f1, rv f2, iv q3] [])) (fun _ k => castTop (by first | (simp [entryFrame, mkF, argsToLocals, Value.category]; done) | rfl) k) ?_
  have lt_a1 := E_a1.lt
  refine Go.st (f' := (mkF m 1 #[rv a1, rv f1, rv f2, iv q3] [(.ref a1)])) (fun _ k => XS.aloadN X0.here hx rfl (hb hby d9_0) rfl rfl k) ?_
  obtain ⟨_, _, ⟨T1, L1, kk1, nn1⟩, -, X1, ⟨Lc1, hQ1, lq1, yq1, zz1⟩, st1⟩ := X0.specialBack hx (y := (⟨"java/lang/Record", "<init>", "()V"⟩ : MethodName)) rfl hown (mvT hZ (hw _ (List.mem_of_getElem? (i := 52) rfl))) (mvT hZ (hw _ (List.mem_of_getElem? (i := 53) rfl))) (mvT hZ (hw _ (List.mem_of_getElem? (i := 56) rfl))) (by decide) (own_back (W := 0) (rmRec l Z a0 hw [] a1 h0 n0 O0) hZ (hw _ (List.mem_of_getElem? (i := 56) rfl)) (hw _ (List.mem_of_getElem? (i := 55) rfl)) (by decide) (by decide)) (g := (mkF m 1 #[rv a1, rv f1, rv f2, iv q3] [(.ref a1)])) rfl (by rw [hml]; rfl) (Steps.refl _) (a := a1) (argsL := []) (rest := []) (lenOf pd___V rfl) rfl (by show 2 * 0 + _ ≤ _; exact Nat.le_of_eq rfl) (hb hby d9_1) (fun _ _ => ⟨rfl, e0, (by decide : 0 + 0 ≤ _), (by decide : 0 + 0 ≤ _)⟩)
  dsimp only [Pt.U, Pt.locs, Pt.cells, Pt.slots] at X1 lq1 yq1 zz1 st1 hQ1
  subst lq1 yq1 zz1
  obtain ⟨rfl, Nq1, kq1⟩ := hQ1
  have N1 := Fr.app N0 Nq1
  refine Go.tr (f' := (mkF m 4 #[rv a1, rv f1, rv f2, iv q3] [])) st1 ?_
  refine Go.st (f' := (mkF m 5 #[rv a1, rv f1, rv f2, iv q3] [(.ref a1)])) (fun _ k => XS.aloadN X1.here hx rfl (hb hby d9_4) rfl rfl k) ?_
  refine Go.st (f' := (mkF m 6 #[rv a1, rv f1, rv f2, iv q3] [(.ref f1), (.ref a1)])) (fun _ k => XS.aloadN X1.here hx rfl (hb hby d9_5) rfl rfl k) ?_
  obtain ⟨T2, h2, X2, e2, W2, st2⟩ := putF X1 hx hZ hown (host := "") (Or.inl (hw _ (List.mem_of_getElem? (i := 58) rfl))) Via.refl kq1 F_a1_kind E_a1 (Or.inr ⟨(hw _ (List.mem_of_getElem? (i := 59) rfl)), rfl, hnm⟩) (hw _ (List.mem_of_getElem? (i := 47) rfl)) (ty := (.object "com/example/naysay/naysay/rules/Token$Kind")) (by decide) rfl rfl (g := (mkF m 6 #[rv a1, rv f1, rv f2, iv q3] [(.ref f1), (.ref a1)])) rfl rfl (hb hby d9_6)
  have N2 := Fr.snoc X2 N1 g_a1
  have O2 : Old Z n0 h2 := O0.wr W2 g_a1
  have K2 : Keep h0 h2 [a1] := K0.wr W2 (Or.inl (List.mem_of_getElem? (i := 0) rfl))
  have Fw2 := F_a1_kind.same W2
  refine Go.st (f' := (mkF m 9 #[rv a1, rv f1, rv f2, iv q3] [])) (fun _ k => st2 _ k) ?_
  refine Go.st (f' := (mkF m 10 #[rv a1, rv f1, rv f2, iv q3] [(.ref a1)])) (fun _ k => XS.aloadN X2.here hx rfl (hb hby d9_9) rfl rfl k) ?_
  refine Go.st (f' := (mkF m 11 #[rv a1, rv f1, rv f2, iv q3] [(.ref f2), (.ref a1)])) (fun _ k => XS.aloadN X2.here hx rfl (hb hby d9_10) rfl rfl k) ?_
  have ft3 := (E_a1.wr W2)
  have ft4 := (F_a1_text.other W2 (Or.inr (slot_ne (Or.inr (hw _ (List.mem_of_getElem? (i := 61) rfl))) (Or.inr (hw _ (List.mem_of_getElem? (i := 59) rfl))) (by decide) (t := (.object "java/lang/String")) (t' := (.object "com/example/naysay/naysay/rules/Token$Kind")) (by decide) (by decide))))
  obtain ⟨T5, h5, X5, e5, W5, st5⟩ := putF X2 hx hZ hown (host := "") (Or.inl (hw _ (List.mem_of_getElem? (i := 60) rfl))) Via.refl e2 ft4 ft3 (Or.inr ⟨(hw _ (List.mem_of_getElem? (i := 61) rfl)), rfl, hnm⟩) (hw _ (List.mem_of_getElem? (i := 47) rfl)) (ty := (.object "java/lang/String")) (by decide) rfl rfl (g := (mkF m 11 #[rv a1, rv f1, rv f2, iv q3] [(.ref f2), (.ref a1)])) rfl rfl (hb hby d9_11)
  have N5 := Fr.snoc X5 N2 g_a1
  have O5 : Old Z n0 h5 := O2.wr W5 g_a1
  have K5 : Keep h0 h5 [a1] := K2.wr W5 (Or.inl (List.mem_of_getElem? (i := 0) rfl))
  have Fw5 := ft4.same W5
  refine Go.st (f' := (mkF m 14 #[rv a1, rv f1, rv f2, iv q3] [])) (fun _ k => st5 _ k) ?_
  refine Go.st (f' := (mkF m 15 #[rv a1, rv f1, rv f2, iv q3] [(.ref a1)])) (fun _ k => XS.aloadN X5.here hx rfl (hb hby d9_14) rfl rfl k) ?_
  refine Go.st (f' := (mkF m 16 #[rv a1, rv f1, rv f2, iv q3] [(.int q3), (.ref a1)])) (fun _ k => XS.iloadN X5.here hx rfl (hb hby d9_15) rfl k) ?_
  have ft6 := (ft3.wr W5)
  have ft7 := ((F_a1_column.other W2 (Or.inr (slot_ne (Or.inr (hw _ (List.mem_of_getElem? (i := 63) rfl))) (Or.inr (hw _ (List.mem_of_getElem? (i := 59) rfl))) (by decide) (t := .int) (t' := (.object "com/example/naysay/naysay/rules/Token$Kind")) (by decide) (by decide)))).other W5 (Or.inr (slot_ne (Or.inr (hw _ (List.mem_of_getElem? (i := 63) rfl))) (Or.inr (hw _ (List.mem_of_getElem? (i := 61) rfl))) (by decide) (t := .int) (t' := (.object "java/lang/String")) (by decide) (by decide))))
  obtain ⟨T8, h8, X8, e8, W8, st8⟩ := putF X5 hx hZ hown (host := "") (Or.inl (hw _ (List.mem_of_getElem? (i := 62) rfl))) Via.refl e5 ft7 ft6 (Or.inr ⟨(hw _ (List.mem_of_getElem? (i := 63) rfl)), rfl, hnm⟩) (hw _ (List.mem_of_getElem? (i := 47) rfl)) (ty := .int) (by decide) rfl rfl (g := (mkF m 16 #[rv a1, rv f1, rv f2, iv q3] [(.int q3), (.ref a1)])) rfl rfl (hb hby d9_16)
  have N8 := Fr.snoc X8 N5 g_a1
  have O8 : Old Z n0 h8 := O5.wr W8 g_a1
  have K8 : Keep h0 h8 [a1] := K5.wr W8 (Or.inl (List.mem_of_getElem? (i := 0) rfl))
  have Fw8 := ft7.same W8
  refine Go.st (f' := (mkF m 19 #[rv a1, rv f1, rv f2, iv q3] [])) (fun _ k => st8 _ k) ?_
  refine Go.ret0 X8 hlk hx hret (hb hby d9_19) e8 ?_ (by decide) (by decide)
  have ft9 := (ft6.wr W8)
  have ft10 := ((Fw2.other W5 (Or.inr (slot_ne (Or.inr (hw _ (List.mem_of_getElem? (i := 59) rfl))) (Or.inr (hw _ (List.mem_of_getElem? (i := 61) rfl))) (by decide) (t := (.object "com/example/naysay/naysay/rules/Token$Kind")) (t' := (.object "java/lang/String")) (by decide) (by decide)))).other W8 (Or.inr (slot_ne (Or.inr (hw _ (List.mem_of_getElem? (i := 59) rfl))) (Or.inr (hw _ (List.mem_of_getElem? (i := 63) rfl))) (by decide) (t := (.object "com/example/naysay/naysay/rules/Token$Kind")) (t' := .int) (by decide) (by decide))))
  have ft11 := (Fw5.other W8 (Or.inr (slot_ne (Or.inr (hw _ (List.mem_of_getElem? (i := 61) rfl))) (Or.inr (hw _ (List.mem_of_getElem? (i := 63) rfl))) (by decide) (t := (.object "java/lang/String")) (t' := .int) (by decide) (by decide))))
  exact ⟨rfl, N8, K8, ft9, ft10, ft11, Fw8⟩
theorem d11_0 : decode prog_33_method_2_code 0 = .ok (.aload_n 0, 1) := by decide +kernel
theorem d11_1 : decode prog_33_method_2_code 1 = .ok (.getfield 7, 3) := by decide +kernel
theorem d11_4 : decode prog_33_method_2_code 4 = .ok (.getstatic 21, 3) := by decide +kernel
theorem d11_7 : decode prog_33_method_2_code 7 = .ok (.if_acmp .ne 18, 3) := by decide +kernel
theorem d11_10 : decode prog_33_method_2_code 10 = .ok (.aload_n 0, 1) := by decide +kernel
theorem d11_11 : decode prog_33_method_2_code 11 = .ok (.getfield 13, 3) := by decide +kernel
theorem d11_14 : decode prog_33_method_2_code 14 = .ok (.aload_n 1, 1) := by decide +kernel
theorem d11_15 : decode prog_33_method_2_code 15 = .ok (.invokevirtual 26, 3) := by decide +kernel
theorem pd__Ljava_lang_Object__Z : parseMethodDescriptor "(Ljava/lang/Object;)Z" = some ⟨[(.object "java/lang/Object")], some .boolean⟩ := by decide +kernel
theorem d11_18 : decode prog_33_method_2_code 18 = .ok (.ifCond .eq 7, 3) := by decide +kernel
theorem d11_25 : decode prog_33_method_2_code 25 = .ok (.iconst 0, 1) := by decide +kernel
theorem d11_26 : decode prog_33_method_2_code 26 = .ok (.ireturn, 1) := by decide +kernel
theorem d11_21 : decode prog_33_method_2_code 21 = .ok (.iconst 1, 1) := by decide +kernel
theorem d11_22 : decode prog_33_method_2_code 22 = .ok (.goto 4, 3) := by decide +kernel
def syI_0_0 (f1 : Addr) (w_SYMBOL : Addr) : Int32 := (if f1 = w_SYMBOL then (if (eqI_0_0) = (0 : Int32) then (0 : Int32) else (1 : Int32)) else (0 : Int32))
set_option maxRecDepth 65536 in
set_option maxHeartbeats 40000000 in
theorem rmS_0_0 (l : Launch) (Z : State) (a0 : Array Value) (hw : ∀ d ∈ tables_1, d.before a0 Z = true) (ws : List Jvm.Cond) (a1 : Addr) (f1 : Addr) (s1 : Addr) (t1 : Addr) (k1 : ClassId) (s2 : Addr) (t2 : Addr) (k2 : ClassId) (w_NUMBER : Addr) (w_SYMBOL : Addr) (w_NAME : Addr) (w_END : Addr) (w_STRING : Addr) (i_COMPACT_STRINGS : Int32) (v_SIOOBE_FORMATTER : Value) (h0 : Heap) (n0 : Nat) (O0 : Old Z n0 h0) (E_a1 : Exa Z h0 a1 "com/example/naysay/naysay/rules/Token") (F_a1_kind : Fld Z h0 a1 "com/example/naysay/naysay/rules/Token" "kind" "Lcom/example/naysay/naysay/rules/Token$Kind;" (.ref f1)) (F_a1_text : Fld Z h0 a1 "com/example/naysay/naysay/rules/Token" "text" "Ljava/lang/String;" (.ref s1)) (E_s1 : Exa Z h0 s1 "java/lang/String") (F_s1_coder : Fld Z h0 s1 "java/lang/String" "coder" "B" (.int 0)) (F_s1_value : Fld Z h0 s1 "java/lang/String" "value" "[B" (.ref t1)) (V_t1 : Arv Z h0 t1 k1 .byte (0 : Int32) [] (.int 0)) (ne12 : s1 ≠ s2) (E_s2 : Exa Z h0 s2 "java/lang/String") (F_s2_coder : Fld Z h0 s2 "java/lang/String" "coder" "B" (.int 0)) (F_s2_value : Fld Z h0 s2 "java/lang/String" "value" "[B" (.ref t2)) (V_t2 : Arv Z h0 t2 k2 .byte (0 : Int32) [] (.int 0)) (WW : World1 Z w_NUMBER w_SYMBOL w_NAME w_END w_STRING i_COMPACT_STRINGS v_SIOOBE_FORMATTER) :
    Con l Z (⟨"com/example/naysay/naysay/rules/Token", "isSymbol", "(Ljava/lang/String;)Z"⟩ : MethodName) prog_33_method_2_code 2 (some .boolean) ws ({ frames := 2, cells := 0, slots := 0, locals := 28 } : Room) #[(.ref a1), (.ref s2)] h0 (fun v h L => v = some (.int (syI_0_0 f1 w_SYMBOL)) ∧ Fr n0 L ∧ h = h0) := by
  refine own_body (plainFor_of_name pn_com_example_naysay_naysay_rules_Token) ?_
  intro p e s m below meth c s₁ hx hby hml hZ hown hnm hlk hret X0 e0
  have N0 := Fr.nil n0
  refine Go.st (T' := s₁) (f' := (mkF m 0 #[rv a1, rv s2] [])) (fun _ k => castTop (by first | (simp [entryFrame, mkF, argsToLocals, Value.category]; done) | rfl) k) ?_
  have ⟨S_i_COMPACT_STRINGS, nz_i_COMPACT_STRINGS, S_v_SIOOBE_FORMATTER, r_v_SIOOBE_FORMATTER, S_w_NUMBER, E_w_NUMBER, S_w_SYMBOL, E_w_SYMBOL, S_w_NAME, E_w_NAME, S_w_END, E_w_END, S_w_STRING, E_w_STRING, F_w_NUMBER_ordinal, F_w_SYMBOL_ordinal, F_w_NAME_ordinal, F_w_END_ordinal, F_w_STRING_ordinal⟩ := WW
  have lt_w_NUMBER := E_w_NUMBER.lt
  have lt_w_SYMBOL := E_w_SYMBOL.lt
  have lt_w_NAME := E_w_NAME.lt
  have lt_w_END := E_w_END.lt
  have lt_w_STRING := E_w_STRING.lt
  have lt_a1 := E_a1.lt
  have lt_s1 := E_s1.lt
  have lt_t1 := V_t1.lt
  have lt_s2 := E_s2.lt
  have lt_t2 := V_t2.lt
  refine Go.st (f' := (mkF m 1 #[rv a1, rv s2] [(.ref a1)])) (fun _ k => XS.aloadN X0.here hx rfl (hb hby d11_0) rfl rfl k) ?_
  obtain ⟨T1, X1, e1, st1⟩ := getF X0 hx hZ hown (host := "") (Or.inl (hw _ (List.mem_of_getElem? (i := 58) rfl))) Via.refl e0 F_a1_kind (g := (mkF m 1 #[rv a1, rv s2] [(.ref a1)])) rfl rfl (hb hby d11_1)
  refine Go.st (f' := (mkF m 4 #[rv a1, rv s2] [(.ref f1)])) (fun _ k => st1 _ k) ?_
  obtain ⟨T2, X2, e2, st2⟩ := getS2 X1 hx hZ hown (host := "") (Or.inl (hw _ (List.mem_of_getElem? (i := 69) rfl))) Via.refl e1 (S_w_SYMBOL.ext O0.2) (g := (mkF m 4 #[rv a1, rv s2] [(.ref f1)])) rfl (hb hby d11_4)
  refine Go.st (f' := (mkF m 7 #[rv a1, rv s2] [(.ref w_SYMBOL), (.ref f1)])) (fun _ k => st2 _ k) ?_
  by_cases cd3 : f1 = w_SYMBOL
  · refine Go.st (f' := (mkF m 10 #[rv a1, rv s2] [])) (fun _ k => Jvm.RoadKit.acmp (g := (mkF m 7 #[rv a1, rv s2] [(.ref w_SYMBOL), (.ref f1)])) X2 hx rfl rfl rfl (pc0 := 7) (pc' := 10) (same := true) rfl (hb hby d11_7) rfl (decide_eq_true (congrArg Value.ref cd3)) (by decide) (by decide) k) ?_
    refine Go.st (f' := (mkF m 11 #[rv a1, rv s2] [(.ref a1)])) (fun _ k => XS.aloadN X2.here hx rfl (hb hby d11_10) rfl rfl k) ?_
    obtain ⟨T4, X4, e4, st4⟩ := getF X2 hx hZ hown (host := "") (Or.inl (hw _ (List.mem_of_getElem? (i := 60) rfl))) Via.refl e2 F_a1_text (g := (mkF m 11 #[rv a1, rv s2] [(.ref a1)])) rfl rfl (hb hby d11_11)
    refine Go.st (f' := (mkF m 14 #[rv a1, rv s2] [(.ref s1)])) (fun _ k => st4 _ k) ?_
    refine Go.st (f' := (mkF m 15 #[rv a1, rv s2] [(.ref s2), (.ref s1)])) (fun _ k => XS.aloadN X4.here hx rfl (hb hby d11_14) rfl rfl k) ?_
    obtain ⟨cq5, kq5, q5a, q5b, q5c⟩ := isOf hZ e4 E_s1
    obtain ⟨_, _, ⟨T5, L5, kk5, nn5⟩, -, X5, ⟨Lc5, hQ5, lq5, yq5, zz5⟩, st5⟩ := X4.virtualBack hx (y := (⟨"java/lang/String", "equals", "(Ljava/lang/Object;)Z"⟩ : MethodName)) (z := (⟨"java/lang/String", "equals", "(Ljava/lang/Object;)Z"⟩ : MethodName)) hown (mvT hZ (hw _ (List.mem_of_getElem? (i := 76) rfl))) (mvT hZ (hw _ (List.mem_of_getElem? (i := 77) rfl))) (notFace_of_selects (args := #[]) (mvT hZ (hw _ (List.mem_of_getElem? (i := 79) rfl)))) (mvT hZ (hw _ (List.mem_of_getElem? (i := 79) rfl))) (mvT hZ (hw _ (List.mem_of_getElem? (i := 78) rfl))) (by decide) (own_back (W := 0) (eq_0_0 l Z a0 hw [] s1 s2 t1 k1 t2 k2  w_NUMBER w_SYMBOL w_NAME w_END w_STRING i_COMPACT_STRINGS v_SIOOBE_FORMATTER h0 n0 O0 ne12 E_s1 F_s1_coder F_s1_value E_s2 F_s2_coder F_s2_value V_t1 V_t2 WW) hZ (hw _ (List.mem_of_getElem? (i := 80) rfl)) (hw _ (List.mem_of_getElem? (i := 13) rfl)) (by decide) (by decide)) q5a q5c (g := (mkF m 15 #[rv a1, rv s2] [(.ref s2), (.ref s1)])) rfl (by rw [hml]; rfl) (Steps.refl _) (argsL := [(.ref s2)]) (rest := []) (lenOf pd__Ljava_lang_Object__Z rfl) rfl (by show 2 * 0 + _ ≤ _; exact Nat.le_of_eq rfl) (hb hby d11_15) (fun _ _ => ⟨rfl, e4, (by decide : 0 + 0 ≤ _), (by decide : 0 + 0 ≤ _)⟩)
    dsimp only [Pt.U, Pt.locs, Pt.cells, Pt.slots] at X5 lq5 yq5 zz5 st5 hQ5
    subst lq5 yq5 zz5
    obtain ⟨rfl, Nq5, kq5⟩ := hQ5
    have N5 := Fr.app N0 Nq5
    refine Go.tr (f' := (mkF m 18 #[rv a1, rv s2] [(.int (eqI_0_0))])) st5 ?_
    by_cases cd6 : (eqI_0_0) = (0 : Int32)
    · refine Go.st (f' := (mkF m 25 #[rv a1, rv s2] [])) (fun _ k => XS.ifYes X5.here hx rfl (pc0 := 18) (pc' := 25) rfl (hb hby d11_18) rfl ((if0 _ _).trans (teq cd6).1) (by decide) (by decide) k) ?_
      refine Go.st (f' := (mkF m 26 #[rv a1, rv s2] [(.int 0)])) (fun _ k => XS.iconst X5.here hx rfl (hb hby d11_25) k) ?_
      refine Go.retB X5 hlk hx (t := .boolean) hret (by simp) (hb hby d11_26) kq5 ?_ (by decide) (by decide)
      show (some (.int (0 : Int32)) : Option Value) = some (.int (syI_0_0 f1 w_SYMBOL)) ∧ _
      exact ⟨by rw [syI_0_0, if_pos cd3, if_pos cd6], N5, rfl⟩
    · refine Go.st (f' := (mkF m 21 #[rv a1, rv s2] [])) (fun _ k => XS.ifNo X5.here hx rfl (hb hby d11_18) rfl ((if0 _ _).trans (feq cd6).1) k) ?_
      refine Go.st (f' := (mkF m 22 #[rv a1, rv s2] [(.int 1)])) (fun _ k => XS.iconst X5.here hx rfl (hb hby d11_21) k) ?_
      refine Go.st (f' := (mkF m 26 #[rv a1, rv s2] [(.int 1)])) (fun _ k => XS.goto X5.here hx rfl (pc0 := 22) (pc' := 26) rfl (hb hby d11_22) (by decide) (by decide) k) ?_
      refine Go.retB X5 hlk hx (t := .boolean) hret (by simp) (hb hby d11_26) kq5 ?_ (by decide) (by decide)
      show (some (.int (1 : Int32)) : Option Value) = some (.int (syI_0_0 f1 w_SYMBOL)) ∧ _
      exact ⟨by rw [syI_0_0, if_pos cd3, if_neg cd6], N5, rfl⟩
  · refine Go.st (f' := (mkF m 25 #[rv a1, rv s2] [])) (fun _ k => Jvm.RoadKit.acmp (g := (mkF m 7 #[rv a1, rv s2] [(.ref w_SYMBOL), (.ref f1)])) X2 hx rfl rfl rfl (pc0 := 7) (pc' := 25) (same := false) rfl (hb hby d11_7) rfl (decide_eq_false fun q => cd3 (Value.ref.inj q)) (by decide) (by decide) k) ?_
    refine Go.st (f' := (mkF m 26 #[rv a1, rv s2] [(.int 0)])) (fun _ k => XS.iconst X2.here hx rfl (hb hby d11_25) k) ?_
    refine Go.retB X2 hlk hx (t := .boolean) hret (by simp) (hb hby d11_26) e2 ?_ (by decide) (by decide)
    show (some (.int (0 : Int32)) : Option Value) = some (.int (syI_0_0 f1 w_SYMBOL)) ∧ _
    exact ⟨by rw [syI_0_0, if_neg cd3], N0, rfl⟩
def syI_0_1 (f1 : Addr) (w_SYMBOL : Addr) (y0 : Int32) : Int32 := (if f1 = w_SYMBOL then (if (eqI_0_1 y0) = (0 : Int32) then (0 : Int32) else (1 : Int32)) else (0 : Int32))
set_option maxRecDepth 65536 in
set_option maxHeartbeats 40000000 in
theorem rmS_0_1 (l : Launch) (Z : State) (a0 : Array Value) (hw : ∀ d ∈ tables_1, d.before a0 Z = true) (ws : List Jvm.Cond) (a1 : Addr) (f1 : Addr) (s1 : Addr) (t1 : Addr) (k1 : ClassId) (s2 : Addr) (t2 : Addr) (k2 : ClassId) (y0 : Int32) (w_NUMBER : Addr) (w_SYMBOL : Addr) (w_NAME : Addr) (w_END : Addr) (w_STRING : Addr) (i_COMPACT_STRINGS : Int32) (v_SIOOBE_FORMATTER : Value) (h0 : Heap) (n0 : Nat) (O0 : Old Z n0 h0) (E_a1 : Exa Z h0 a1 "com/example/naysay/naysay/rules/Token") (F_a1_kind : Fld Z h0 a1 "com/example/naysay/naysay/rules/Token" "kind" "Lcom/example/naysay/naysay/rules/Token$Kind;" (.ref f1)) (F_a1_text : Fld Z h0 a1 "com/example/naysay/naysay/rules/Token" "text" "Ljava/lang/String;" (.ref s1)) (E_s1 : Exa Z h0 s1 "java/lang/String") (F_s1_coder : Fld Z h0 s1 "java/lang/String" "coder" "B" (.int 0)) (F_s1_value : Fld Z h0 s1 "java/lang/String" "value" "[B" (.ref t1)) (V_t1 : Arv Z h0 t1 k1 .byte (0 : Int32) [] (.int 0)) (ne12 : s1 ≠ s2) (E_s2 : Exa Z h0 s2 "java/lang/String") (F_s2_coder : Fld Z h0 s2 "java/lang/String" "coder" "B" (.int 0)) (F_s2_value : Fld Z h0 s2 "java/lang/String" "value" "[B" (.ref t2)) (V_t2 : Arv Z h0 t2 k2 .byte (1 : Int32) [(.int y0)] (.int 0)) (WW : World1 Z w_NUMBER w_SYMBOL w_NAME w_END w_STRING i_COMPACT_STRINGS v_SIOOBE_FORMATTER) :
    Con l Z (⟨"com/example/naysay/naysay/rules/Token", "isSymbol", "(Ljava/lang/String;)Z"⟩ : MethodName) prog_33_method_2_code 2 (some .boolean) ws ({ frames := 2, cells := 0, slots := 0, locals := 28 } : Room) #[(.ref a1), (.ref s2)] h0 (fun v h L => v = some (.int (syI_0_1 f1 w_SYMBOL y0)) ∧ Fr n0 L ∧ h = h0) := by
  refine own_body (plainFor_of_name pn_com_example_naysay_naysay_rules_Token) ?_
  intro p e s m below meth c s₁ hx hby hml hZ hown hnm hlk hret X0 e0
  have N0 := Fr.nil n0
  refine Go.st (T' := s₁) (f' := (mkF m 0 #[rv a1, rv s2] [])) (fun _ k => castTop (by first | (simp [entryFrame, mkF, argsToLocals, Value.category]; done) | rfl) k) ?_
  have ⟨S_i_COMPACT_STRINGS, nz_i_COMPACT_STRINGS, S_v_SIOOBE_FORMATTER, r_v_SIOOBE_FORMATTER, S_w_NUMBER, E_w_NUMBER, S_w_SYMBOL, E_w_SYMBOL, S_w_NAME, E_w_NAME, S_w_END, E_w_END, S_w_STRING, E_w_STRING, F_w_NUMBER_ordinal, F_w_SYMBOL_ordinal, F_w_NAME_ordinal, F_w_END_ordinal, F_w_STRING_ordinal⟩ := WW
  have lt_w_NUMBER := E_w_NUMBER.lt
  have lt_w_SYMBOL := E_w_SYMBOL.lt
  have lt_w_NAME := E_w_NAME.lt
  have lt_w_END := E_w_END.lt
  have lt_w_STRING := E_w_STRING.lt
  have lt_a1 := E_a1.lt
  have lt_s1 := E_s1.lt
  have lt_t1 := V_t1.lt
  have lt_s2 := E_s2.lt
  have lt_t2 := V_t2.lt
  refine Go.st (f' := (mkF m 1 #[rv a1, rv s2] [(.ref a1)])) (fun _ k => XS.aloadN X0.here hx rfl (hb hby d11_0) rfl rfl k) ?_
  obtain ⟨T1, X1, e1, st1⟩ := getF X0 hx hZ hown (host := "") (Or.inl (hw _ (List.mem_of_getElem? (i := 58) rfl))) Via.refl e0 F_a1_kind (g := (mkF m 1 #[rv a1, rv s2] [(.ref a1)])) rfl rfl (hb hby d11_1)
  refine Go.st (f' := (mkF m 4 #[rv a1, rv s2] [(.ref f1)])) (fun _ k => st1 _ k) ?_
  obtain ⟨T2, X2, e2, st2⟩ := getS2 X1 hx hZ hown (host := "") (Or.inl (hw _ (List.mem_of_getElem? (i := 69) rfl))) Via.refl e1 (S_w_SYMBOL.ext O0.2) (g := (mkF m 4 #[rv a1, rv s2] [(.ref f1)])) rfl (hb hby d11_4)
  refine Go.st (f' := (mkF m 7 #[rv a1, rv s2] [(.ref w_SYMBOL), (.ref f1)])) (fun _ k => st2 _ k) ?_
  by_cases cd3 : f1 = w_SYMBOL
  · refine Go.st (f' := (mkF m 10 #[rv a1, rv s2] [])) (fun _ k => Jvm.RoadKit.acmp (g := (mkF m 7 #[rv a1, rv s2] [(.ref w_SYMBOL), (.ref f1)])) X2 hx rfl rfl rfl (pc0 := 7) (pc' := 10) (same := true) rfl (hb hby d11_7) rfl (decide_eq_true (congrArg Value.ref cd3)) (by decide) (by decide) k) ?_
    refine Go.st (f' := (mkF m 11 #[rv a1, rv s2] [(.ref a1)])) (fun _ k => XS.aloadN X2.here hx rfl (hb hby d11_10) rfl rfl k) ?_
    obtain ⟨T4, X4, e4, st4⟩ := getF X2 hx hZ hown (host := "") (Or.inl (hw _ (List.mem_of_getElem? (i := 60) rfl))) Via.refl e2 F_a1_text (g := (mkF m 11 #[rv a1, rv s2] [(.ref a1)])) rfl rfl (hb hby d11_11)
    refine Go.st (f' := (mkF m 14 #[rv a1, rv s2] [(.ref s1)])) (fun _ k => st4 _ k) ?_
    refine Go.st (f' := (mkF m 15 #[rv a1, rv s2] [(.ref s2), (.ref s1)])) (fun _ k => XS.aloadN X4.here hx rfl (hb hby d11_14) rfl rfl k) ?_
    obtain ⟨cq5, kq5, q5a, q5b, q5c⟩ := isOf hZ e4 E_s1
    obtain ⟨_, _, ⟨T5, L5, kk5, nn5⟩, -, X5, ⟨Lc5, hQ5, lq5, yq5, zz5⟩, st5⟩ := X4.virtualBack hx (y := (⟨"java/lang/String", "equals", "(Ljava/lang/Object;)Z"⟩ : MethodName)) (z := (⟨"java/lang/String", "equals", "(Ljava/lang/Object;)Z"⟩ : MethodName)) hown (mvT hZ (hw _ (List.mem_of_getElem? (i := 76) rfl))) (mvT hZ (hw _ (List.mem_of_getElem? (i := 77) rfl))) (notFace_of_selects (args := #[]) (mvT hZ (hw _ (List.mem_of_getElem? (i := 79) rfl)))) (mvT hZ (hw _ (List.mem_of_getElem? (i := 79) rfl))) (mvT hZ (hw _ (List.mem_of_getElem? (i := 78) rfl))) (by decide) (own_back (W := 0) (eq_0_1 l Z a0 hw [] s1 s2 t1 k1 t2 k2 y0 w_NUMBER w_SYMBOL w_NAME w_END w_STRING i_COMPACT_STRINGS v_SIOOBE_FORMATTER h0 n0 O0 ne12 E_s1 F_s1_coder F_s1_value E_s2 F_s2_coder F_s2_value V_t1 V_t2 WW) hZ (hw _ (List.mem_of_getElem? (i := 80) rfl)) (hw _ (List.mem_of_getElem? (i := 13) rfl)) (by decide) (by decide)) q5a q5c (g := (mkF m 15 #[rv a1, rv s2] [(.ref s2), (.ref s1)])) rfl (by rw [hml]; rfl) (Steps.refl _) (argsL := [(.ref s2)]) (rest := []) (lenOf pd__Ljava_lang_Object__Z rfl) rfl (by show 2 * 0 + _ ≤ _; exact Nat.le_of_eq rfl) (hb hby d11_15) (fun _ _ => ⟨rfl, e4, (by decide : 0 + 0 ≤ _), (by decide : 0 + 0 ≤ _)⟩)
    dsimp only [Pt.U, Pt.locs, Pt.cells, Pt.slots] at X5 lq5 yq5 zz5 st5 hQ5
    subst lq5 yq5 zz5
    obtain ⟨rfl, Nq5, kq5⟩ := hQ5
    have N5 := Fr.app N0 Nq5
    refine Go.tr (f' := (mkF m 18 #[rv a1, rv s2] [(.int (eqI_0_1 y0))])) st5 ?_
    by_cases cd6 : (eqI_0_1 y0) = (0 : Int32)
    · refine Go.st (f' := (mkF m 25 #[rv a1, rv s2] [])) (fun _ k => XS.ifYes X5.here hx rfl (pc0 := 18) (pc' := 25) rfl (hb hby d11_18) rfl ((if0 _ _).trans (teq cd6).1) (by decide) (by decide) k) ?_
      refine Go.st (f' := (mkF m 26 #[rv a1, rv s2] [(.int 0)])) (fun _ k => XS.iconst X5.here hx rfl (hb hby d11_25) k) ?_
      refine Go.retB X5 hlk hx (t := .boolean) hret (by simp) (hb hby d11_26) kq5 ?_ (by decide) (by decide)
      show (some (.int (0 : Int32)) : Option Value) = some (.int (syI_0_1 f1 w_SYMBOL y0)) ∧ _
      exact ⟨by rw [syI_0_1, if_pos cd3, if_pos cd6], N5, rfl⟩
    · refine Go.st (f' := (mkF m 21 #[rv a1, rv s2] [])) (fun _ k => XS.ifNo X5.here hx rfl (hb hby d11_18) rfl ((if0 _ _).trans (feq cd6).1) k) ?_
      refine Go.st (f' := (mkF m 22 #[rv a1, rv s2] [(.int 1)])) (fun _ k => XS.iconst X5.here hx rfl (hb hby d11_21) k) ?_
      refine Go.st (f' := (mkF m 26 #[rv a1, rv s2] [(.int 1)])) (fun _ k => XS.goto X5.here hx rfl (pc0 := 22) (pc' := 26) rfl (hb hby d11_22) (by decide) (by decide) k) ?_
      refine Go.retB X5 hlk hx (t := .boolean) hret (by simp) (hb hby d11_26) kq5 ?_ (by decide) (by decide)
      show (some (.int (1 : Int32)) : Option Value) = some (.int (syI_0_1 f1 w_SYMBOL y0)) ∧ _
      exact ⟨by rw [syI_0_1, if_pos cd3, if_neg cd6], N5, rfl⟩
  · refine Go.st (f' := (mkF m 25 #[rv a1, rv s2] [])) (fun _ k => Jvm.RoadKit.acmp (g := (mkF m 7 #[rv a1, rv s2] [(.ref w_SYMBOL), (.ref f1)])) X2 hx rfl rfl rfl (pc0 := 7) (pc' := 25) (same := false) rfl (hb hby d11_7) rfl (decide_eq_false fun q => cd3 (Value.ref.inj q)) (by decide) (by decide) k) ?_
    refine Go.st (f' := (mkF m 26 #[rv a1, rv s2] [(.int 0)])) (fun _ k => XS.iconst X2.here hx rfl (hb hby d11_25) k) ?_
    refine Go.retB X2 hlk hx (t := .boolean) hret (by simp) (hb hby d11_26) e2 ?_ (by decide) (by decide)
    show (some (.int (0 : Int32)) : Option Value) = some (.int (syI_0_1 f1 w_SYMBOL y0)) ∧ _
    exact ⟨by rw [syI_0_1, if_neg cd3], N0, rfl⟩
def syI_0_2 (f1 : Addr) (w_SYMBOL : Addr) (y0 : Int32) (y1 : Int32) : Int32 := (if f1 = w_SYMBOL then (if (eqI_0_2 y0 y1) = (0 : Int32) then (0 : Int32) else (1 : Int32)) else (0 : Int32))
set_option maxRecDepth 65536 in
set_option maxHeartbeats 40000000 in
theorem rmS_0_2 (l : Launch) (Z : State) (a0 : Array Value) (hw : ∀ d ∈ tables_1, d.before a0 Z = true) (ws : List Jvm.Cond) (a1 : Addr) (f1 : Addr) (s1 : Addr) (t1 : Addr) (k1 : ClassId) (s2 : Addr) (t2 : Addr) (k2 : ClassId) (y0 : Int32) (y1 : Int32) (w_NUMBER : Addr) (w_SYMBOL : Addr) (w_NAME : Addr) (w_END : Addr) (w_STRING : Addr) (i_COMPACT_STRINGS : Int32) (v_SIOOBE_FORMATTER : Value) (h0 : Heap) (n0 : Nat) (O0 : Old Z n0 h0) (E_a1 : Exa Z h0 a1 "com/example/naysay/naysay/rules/Token") (F_a1_kind : Fld Z h0 a1 "com/example/naysay/naysay/rules/Token" "kind" "Lcom/example/naysay/naysay/rules/Token$Kind;" (.ref f1)) (F_a1_text : Fld Z h0 a1 "com/example/naysay/naysay/rules/Token" "text" "Ljava/lang/String;" (.ref s1)) (E_s1 : Exa Z h0 s1 "java/lang/String") (F_s1_coder : Fld Z h0 s1 "java/lang/String" "coder" "B" (.int 0)) (F_s1_value : Fld Z h0 s1 "java/lang/String" "value" "[B" (.ref t1)) (V_t1 : Arv Z h0 t1 k1 .byte (0 : Int32) [] (.int 0)) (ne12 : s1 ≠ s2) (E_s2 : Exa Z h0 s2 "java/lang/String") (F_s2_coder : Fld Z h0 s2 "java/lang/String" "coder" "B" (.int 0)) (F_s2_value : Fld Z h0 s2 "java/lang/String" "value" "[B" (.ref t2)) (V_t2 : Arv Z h0 t2 k2 .byte (2 : Int32) [(.int y0), (.int y1)] (.int 0)) (WW : World1 Z w_NUMBER w_SYMBOL w_NAME w_END w_STRING i_COMPACT_STRINGS v_SIOOBE_FORMATTER) :
    Con l Z (⟨"com/example/naysay/naysay/rules/Token", "isSymbol", "(Ljava/lang/String;)Z"⟩ : MethodName) prog_33_method_2_code 2 (some .boolean) ws ({ frames := 2, cells := 0, slots := 0, locals := 28 } : Room) #[(.ref a1), (.ref s2)] h0 (fun v h L => v = some (.int (syI_0_2 f1 w_SYMBOL y0 y1)) ∧ Fr n0 L ∧ h = h0) := by
  refine own_body (plainFor_of_name pn_com_example_naysay_naysay_rules_Token) ?_
  intro p e s m below meth c s₁ hx hby hml hZ hown hnm hlk hret X0 e0
  have N0 := Fr.nil n0
  refine Go.st (T' := s₁) (f' := (mkF m 0 #[rv a1, rv s2] [])) (fun _ k => castTop (by first | (simp [entryFrame, mkF, argsToLocals, Value.category]; done) | rfl) k) ?_
  have ⟨S_i_COMPACT_STRINGS, nz_i_COMPACT_STRINGS, S_v_SIOOBE_FORMATTER, r_v_SIOOBE_FORMATTER, S_w_NUMBER, E_w_NUMBER, S_w_SYMBOL, E_w_SYMBOL, S_w_NAME, E_w_NAME, S_w_END, E_w_END, S_w_STRING, E_w_STRING, F_w_NUMBER_ordinal, F_w_SYMBOL_ordinal, F_w_NAME_ordinal, F_w_END_ordinal, F_w_STRING_ordinal⟩ := WW
  have lt_w_NUMBER := E_w_NUMBER.lt
  have lt_w_SYMBOL := E_w_SYMBOL.lt
  have lt_w_NAME := E_w_NAME.lt
  have lt_w_END := E_w_END.lt
  have lt_w_STRING := E_w_STRING.lt
  have lt_a1 := E_a1.lt
  have lt_s1 := E_s1.lt
  have lt_t1 := V_t1.lt
  have lt_s2 := E_s2.lt
  have lt_t2 := V_t2.lt
  refine Go.st (f' := (mkF m 1 #[rv a1, rv s2] [(.ref a1)])) (fun _ k => XS.aloadN X0.here hx rfl (hb hby d11_0) rfl rfl k) ?_
  obtain ⟨T1, X1, e1, st1⟩ := getF X0 hx hZ hown (host := "") (Or.inl (hw _ (List.mem_of_getElem? (i := 58) rfl))) Via.refl e0 F_a1_kind (g := (mkF m 1 #[rv a1, rv s2] [(.ref a1)])) rfl rfl (hb hby d11_1)
  refine Go.st (f' := (mkF m 4 #[rv a1, rv s2] [(.ref f1)])) (fun _ k => st1 _ k) ?_
  obtain ⟨T2, X2, e2, st2⟩ := getS2 X1 hx hZ hown (host := "") (Or.inl (hw _ (List.mem_of_getElem? (i := 69) rfl))) Via.refl e1 (S_w_SYMBOL.ext O0.2) (g := (mkF m 4 #[rv a1, rv s2] [(.ref f1)])) rfl (hb hby d11_4)
  refine Go.st (f' := (mkF m 7 #[rv a1, rv s2] [(.ref w_SYMBOL), (.ref f1)])) (fun _ k => st2 _ k) ?_
  by_cases cd3 : f1 = w_SYMBOL
  · refine Go.st (f' := (mkF m 10 #[rv a1, rv s2] [])) (fun _ k => Jvm.RoadKit.acmp (g := (mkF m 7 #[rv a1, rv s2] [(.ref w_SYMBOL), (.ref f1)])) X2 hx rfl rfl rfl (pc0 := 7) (pc' := 10) (same := true) rfl (hb hby d11_7) rfl (decide_eq_true (congrArg Value.ref cd3)) (by decide) (by decide) k) ?_
    refine Go.st (f' := (mkF m 11 #[rv a1, rv s2] [(.ref a1)])) (fun _ k => XS.aloadN X2.here hx rfl (hb hby d11_10) rfl rfl k) ?_
    obtain ⟨T4, X4, e4, st4⟩ := getF X2 hx hZ hown (host := "") (Or.inl (hw _ (List.mem_of_getElem? (i := 60) rfl))) Via.refl e2 F_a1_text (g := (mkF m 11 #[rv a1, rv s2] [(.ref a1)])) rfl rfl (hb hby d11_11)
    refine Go.st (f' := (mkF m 14 #[rv a1, rv s2] [(.ref s1)])) (fun _ k => st4 _ k) ?_
    refine Go.st (f' := (mkF m 15 #[rv a1, rv s2] [(.ref s2), (.ref s1)])) (fun _ k => XS.aloadN X4.here hx rfl (hb hby d11_14) rfl rfl k) ?_
    obtain ⟨cq5, kq5, q5a, q5b, q5c⟩ := isOf hZ e4 E_s1
    obtain ⟨_, _, ⟨T5, L5, kk5, nn5⟩, -, X5, ⟨Lc5, hQ5, lq5, yq5, zz5⟩, st5⟩ := X4.virtualBack hx (y := (⟨"java/lang/String", "equals", "(Ljava/lang/Object;)Z"⟩ : MethodName)) (z := (⟨"java/lang/String", "equals", "(Ljava/lang/Object;)Z"⟩ : MethodName)) hown (mvT hZ (hw _ (List.mem_of_getElem? (i := 76) rfl))) (mvT hZ (hw _ (List.mem_of_getElem? (i := 77) rfl))) (notFace_of_selects (args := #[]) (mvT hZ (hw _ (List.mem_of_getElem? (i := 79) rfl)))) (mvT hZ (hw _ (List.mem_of_getElem? (i := 79) rfl))) (mvT hZ (hw _ (List.mem_of_getElem? (i := 78) rfl))) (by decide) (own_back (W := 0) (eq_0_2 l Z a0 hw [] s1 s2 t1 k1 t2 k2 y0 y1 w_NUMBER w_SYMBOL w_NAME w_END w_STRING i_COMPACT_STRINGS v_SIOOBE_FORMATTER h0 n0 O0 ne12 E_s1 F_s1_coder F_s1_value E_s2 F_s2_coder F_s2_value V_t1 V_t2 WW) hZ (hw _ (List.mem_of_getElem? (i := 80) rfl)) (hw _ (List.mem_of_getElem? (i := 13) rfl)) (by decide) (by decide)) q5a q5c (g := (mkF m 15 #[rv a1, rv s2] [(.ref s2), (.ref s1)])) rfl (by rw [hml]; rfl) (Steps.refl _) (argsL := [(.ref s2)]) (rest := []) (lenOf pd__Ljava_lang_Object__Z rfl) rfl (by show 2 * 0 + _ ≤ _; exact Nat.le_of_eq rfl) (hb hby d11_15) (fun _ _ => ⟨rfl, e4, (by decide : 0 + 0 ≤ _), (by decide : 0 + 0 ≤ _)⟩)
    dsimp only [Pt.U, Pt.locs, Pt.cells, Pt.slots] at X5 lq5 yq5 zz5 st5 hQ5
    subst lq5 yq5 zz5
    obtain ⟨rfl, Nq5, kq5⟩ := hQ5
    have N5 := Fr.app N0 Nq5
    refine Go.tr (f' := (mkF m 18 #[rv a1, rv s2] [(.int (eqI_0_2 y0 y1))])) st5 ?_
    by_cases cd6 : (eqI_0_2 y0 y1) = (0 : Int32)
    · refine Go.st (f' := (mkF m 25 #[rv a1, rv s2] [])) (fun _ k => XS.ifYes X5.here hx rfl (pc0 := 18) (pc' := 25) rfl (hb hby d11_18) rfl ((if0 _ _).trans (teq cd6).1) (by decide) (by decide) k) ?_
      refine Go.st (f' := (mkF m 26 #[rv a1, rv s2] [(.int 0)])) (fun _ k => XS.iconst X5.here hx rfl (hb hby d11_25) k) ?_
      refine Go.retB X5 hlk hx (t := .boolean) hret (by simp) (hb hby d11_26) kq5 ?_ (by decide) (by decide)
      show (some (.int (0 : Int32)) : Option Value) = some (.int (syI_0_2 f1 w_SYMBOL y0 y1)) ∧ _
      exact ⟨by rw [syI_0_2, if_pos cd3, if_pos cd6], N5, rfl⟩
    · refine Go.st (f' := (mkF m 21 #[rv a1, rv s2] [])) (fun _ k => XS.ifNo X5.here hx rfl (hb hby d11_18) rfl ((if0 _ _).trans (feq cd6).1) k) ?_
      refine Go.st (f' := (mkF m 22 #[rv a1, rv s2] [(.int 1)])) (fun _ k => XS.iconst X5.here hx rfl (hb hby d11_21) k) ?_
      refine Go.st (f' := (mkF m 26 #[rv a1, rv s2] [(.int 1)])) (fun _ k => XS.goto X5.here hx rfl (pc0 := 22) (pc' := 26) rfl (hb hby d11_22) (by decide) (by decide) k) ?_
      refine Go.retB X5 hlk hx (t := .boolean) hret (by simp) (hb hby d11_26) kq5 ?_ (by decide) (by decide)
      show (some (.int (1 : Int32)) : Option Value) = some (.int (syI_0_2 f1 w_SYMBOL y0 y1)) ∧ _
      exact ⟨by rw [syI_0_2, if_pos cd3, if_neg cd6], N5, rfl⟩
  · refine Go.st (f' := (mkF m 25 #[rv a1, rv s2] [])) (fun _ k => Jvm.RoadKit.acmp (g := (mkF m 7 #[rv a1, rv s2] [(.ref w_SYMBOL), (.ref f1)])) X2 hx rfl rfl rfl (pc0 := 7) (pc' := 25) (same := false) rfl (hb hby d11_7) rfl (decide_eq_false fun q => cd3 (Value.ref.inj q)) (by decide) (by decide) k) ?_
    refine Go.st (f' := (mkF m 26 #[rv a1, rv s2] [(.int 0)])) (fun _ k => XS.iconst X2.here hx rfl (hb hby d11_25) k) ?_
    refine Go.retB X2 hlk hx (t := .boolean) hret (by simp) (hb hby d11_26) e2 ?_ (by decide) (by decide)
    show (some (.int (0 : Int32)) : Option Value) = some (.int (syI_0_2 f1 w_SYMBOL y0 y1)) ∧ _
    exact ⟨by rw [syI_0_2, if_neg cd3], N0, rfl⟩
def syI_0_N (f1 : Addr) (w_SYMBOL : Addr) : Int32 := (if f1 = w_SYMBOL then (0 : Int32) else (0 : Int32))
set_option maxRecDepth 65536 in
set_option maxHeartbeats 40000000 in
theorem rmS_0_N (l : Launch) (Z : State) (a0 : Array Value) (hw : ∀ d ∈ tables_1, d.before a0 Z = true) (ws : List Jvm.Cond) (a1 : Addr) (f1 : Addr) (s1 : Addr) (t1 : Addr) (k1 : ClassId) (w_NUMBER : Addr) (w_SYMBOL : Addr) (w_NAME : Addr) (w_END : Addr) (w_STRING : Addr) (i_COMPACT_STRINGS : Int32) (v_SIOOBE_FORMATTER : Value) (h0 : Heap) (n0 : Nat) (O0 : Old Z n0 h0) (E_a1 : Exa Z h0 a1 "com/example/naysay/naysay/rules/Token") (F_a1_kind : Fld Z h0 a1 "com/example/naysay/naysay/rules/Token" "kind" "Lcom/example/naysay/naysay/rules/Token$Kind;" (.ref f1)) (F_a1_text : Fld Z h0 a1 "com/example/naysay/naysay/rules/Token" "text" "Ljava/lang/String;" (.ref s1)) (E_s1 : Exa Z h0 s1 "java/lang/String") (F_s1_coder : Fld Z h0 s1 "java/lang/String" "coder" "B" (.int 0)) (F_s1_value : Fld Z h0 s1 "java/lang/String" "value" "[B" (.ref t1)) (V_t1 : Arv Z h0 t1 k1 .byte (0 : Int32) [] (.int 0)) (WW : World1 Z w_NUMBER w_SYMBOL w_NAME w_END w_STRING i_COMPACT_STRINGS v_SIOOBE_FORMATTER) :
    Con l Z (⟨"com/example/naysay/naysay/rules/Token", "isSymbol", "(Ljava/lang/String;)Z"⟩ : MethodName) prog_33_method_2_code 2 (some .boolean) ws ({ frames := 1, cells := 0, slots := 0, locals := 14 } : Room) #[(.ref a1), .null] h0 (fun v h L => v = some (.int (syI_0_N f1 w_SYMBOL)) ∧ Fr n0 L ∧ h = h0) := by
  refine own_body (plainFor_of_name pn_com_example_naysay_naysay_rules_Token) ?_
  intro p e s m below meth c s₁ hx hby hml hZ hown hnm hlk hret X0 e0
  have N0 := Fr.nil n0
  refine Go.st (T' := s₁) (f' := (mkF m 0 #[rv a1, .val .null] [])) (fun _ k => castTop (by first | (simp [entryFrame, mkF, argsToLocals, Value.category]; done) | rfl) k) ?_
  have ⟨S_i_COMPACT_STRINGS, nz_i_COMPACT_STRINGS, S_v_SIOOBE_FORMATTER, r_v_SIOOBE_FORMATTER, S_w_NUMBER, E_w_NUMBER, S_w_SYMBOL, E_w_SYMBOL, S_w_NAME, E_w_NAME, S_w_END, E_w_END, S_w_STRING, E_w_STRING, F_w_NUMBER_ordinal, F_w_SYMBOL_ordinal, F_w_NAME_ordinal, F_w_END_ordinal, F_w_STRING_ordinal⟩ := WW
  have lt_w_NUMBER := E_w_NUMBER.lt
  have lt_w_SYMBOL := E_w_SYMBOL.lt
  have lt_w_NAME := E_w_NAME.lt
  have lt_w_END := E_w_END.lt
  have lt_w_STRING := E_w_STRING.lt
  have lt_a1 := E_a1.lt
  have lt_s1 := E_s1.lt
  have lt_t1 := V_t1.lt
  refine Go.st (f' := (mkF m 1 #[rv a1, .val .null] [(.ref a1)])) (fun _ k => XS.aloadN X0.here hx rfl (hb hby d11_0) rfl rfl k) ?_
  obtain ⟨T1, X1, e1, st1⟩ := getF X0 hx hZ hown (host := "") (Or.inl (hw _ (List.mem_of_getElem? (i := 58) rfl))) Via.refl e0 F_a1_kind (g := (mkF m 1 #[rv a1, .val .null] [(.ref a1)])) rfl rfl (hb hby d11_1)
  refine Go.st (f' := (mkF m 4 #[rv a1, .val .null] [(.ref f1)])) (fun _ k => st1 _ k) ?_
  obtain ⟨T2, X2, e2, st2⟩ := getS2 X1 hx hZ hown (host := "") (Or.inl (hw _ (List.mem_of_getElem? (i := 69) rfl))) Via.refl e1 (S_w_SYMBOL.ext O0.2) (g := (mkF m 4 #[rv a1, .val .null] [(.ref f1)])) rfl (hb hby d11_4)
  refine Go.st (f' := (mkF m 7 #[rv a1, .val .null] [(.ref w_SYMBOL), (.ref f1)])) (fun _ k => st2 _ k) ?_
  by_cases cd3 : f1 = w_SYMBOL
  · refine Go.st (f' := (mkF m 10 #[rv a1, .val .null] [])) (fun _ k => Jvm.RoadKit.acmp (g := (mkF m 7 #[rv a1, .val .null] [(.ref w_SYMBOL), (.ref f1)])) X2 hx rfl rfl rfl (pc0 := 7) (pc' := 10) (same := true) rfl (hb hby d11_7) rfl (decide_eq_true (congrArg Value.ref cd3)) (by decide) (by decide) k) ?_
    refine Go.st (f' := (mkF m 11 #[rv a1, .val .null] [(.ref a1)])) (fun _ k => XS.aloadN X2.here hx rfl (hb hby d11_10) rfl rfl k) ?_
    obtain ⟨T4, X4, e4, st4⟩ := getF X2 hx hZ hown (host := "") (Or.inl (hw _ (List.mem_of_getElem? (i := 60) rfl))) Via.refl e2 F_a1_text (g := (mkF m 11 #[rv a1, .val .null] [(.ref a1)])) rfl rfl (hb hby d11_11)
    refine Go.st (f' := (mkF m 14 #[rv a1, .val .null] [(.ref s1)])) (fun _ k => st4 _ k) ?_
    refine Go.st (f' := (mkF m 15 #[rv a1, .val .null] [.null, (.ref s1)])) (fun _ k => XS.aloadN X4.here hx rfl (hb hby d11_14) rfl rfl k) ?_
    obtain ⟨cq5, kq5, q5a, q5b, q5c⟩ := isOf hZ e4 E_s1
    obtain ⟨_, _, ⟨T5, L5, kk5, nn5⟩, -, X5, ⟨Lc5, hQ5, lq5, yq5, zz5⟩, st5⟩ := X4.virtualBack hx (y := (⟨"java/lang/String", "equals", "(Ljava/lang/Object;)Z"⟩ : MethodName)) (z := (⟨"java/lang/String", "equals", "(Ljava/lang/Object;)Z"⟩ : MethodName)) hown (mvT hZ (hw _ (List.mem_of_getElem? (i := 76) rfl))) (mvT hZ (hw _ (List.mem_of_getElem? (i := 77) rfl))) (notFace_of_selects (args := #[]) (mvT hZ (hw _ (List.mem_of_getElem? (i := 79) rfl)))) (mvT hZ (hw _ (List.mem_of_getElem? (i := 79) rfl))) (mvT hZ (hw _ (List.mem_of_getElem? (i := 78) rfl))) (by decide) (own_back (W := 0) (eq_0_N l Z a0 hw [] s1 w_NUMBER w_SYMBOL w_NAME w_END w_STRING i_COMPACT_STRINGS v_SIOOBE_FORMATTER h0 n0 O0 WW) hZ (hw _ (List.mem_of_getElem? (i := 80) rfl)) (hw _ (List.mem_of_getElem? (i := 13) rfl)) (by decide) (by decide)) q5a q5c (g := (mkF m 15 #[rv a1, .val .null] [.null, (.ref s1)])) rfl (by rw [hml]; rfl) (Steps.refl _) (argsL := [.null]) (rest := []) (lenOf pd__Ljava_lang_Object__Z rfl) rfl (by show 2 * 0 + _ ≤ _; exact Nat.le_of_eq rfl) (hb hby d11_15) (fun _ _ => ⟨rfl, e4, (by decide : 0 + 0 ≤ _), (by decide : 0 + 0 ≤ _)⟩)
    dsimp only [Pt.U, Pt.locs, Pt.cells, Pt.slots] at X5 lq5 yq5 zz5 st5 hQ5
    subst lq5 yq5 zz5
    obtain ⟨rfl, Nq5, kq5⟩ := hQ5
    have N5 := Fr.app N0 Nq5
    refine Go.tr (f' := (mkF m 18 #[rv a1, .val .null] [(.int 0)])) st5 ?_
    refine Go.st (f' := (mkF m 25 #[rv a1, .val .null] [])) (fun _ k => XS.ifYes X5.here hx rfl (pc0 := 18) (pc' := 25) rfl (hb hby d11_18) rfl (by decide) (by decide) (by decide) k) ?_
    refine Go.st (f' := (mkF m 26 #[rv a1, .val .null] [(.int 0)])) (fun _ k => XS.iconst X5.here hx rfl (hb hby d11_25) k) ?_
    refine Go.retB X5 hlk hx (t := .boolean) hret (by simp) (hb hby d11_26) kq5 ?_ (by decide) (by decide)
    show (some (.int (0 : Int32)) : Option Value) = some (.int (syI_0_N f1 w_SYMBOL)) ∧ _
    exact ⟨by rw [syI_0_N, if_pos cd3], N5, rfl⟩
  · refine Go.st (f' := (mkF m 25 #[rv a1, .val .null] [])) (fun _ k => Jvm.RoadKit.acmp (g := (mkF m 7 #[rv a1, .val .null] [(.ref w_SYMBOL), (.ref f1)])) X2 hx rfl rfl rfl (pc0 := 7) (pc' := 25) (same := false) rfl (hb hby d11_7) rfl (decide_eq_false fun q => cd3 (Value.ref.inj q)) (by decide) (by decide) k) ?_
    refine Go.st (f' := (mkF m 26 #[rv a1, .val .null] [(.int 0)])) (fun _ k => XS.iconst X2.here hx rfl (hb hby d11_25) k) ?_
    refine Go.retB X2 hlk hx (t := .boolean) hret (by simp) (hb hby d11_26) e2 ?_ (by decide) (by decide)
    show (some (.int (0 : Int32)) : Option Value) = some (.int (syI_0_N f1 w_SYMBOL)) ∧ _
    exact ⟨by rw [syI_0_N, if_neg cd3], N0, rfl⟩
def syI_1_0 (f1 : Addr) (w_SYMBOL : Addr) (x0 : Int32) : Int32 := (if f1 = w_SYMBOL then (if (eqI_1_0 x0) = (0 : Int32) then (0 : Int32) else (1 : Int32)) else (0 : Int32))
set_option maxRecDepth 65536 in
set_option maxHeartbeats 40000000 in
theorem rmS_1_0 (l : Launch) (Z : State) (a0 : Array Value) (hw : ∀ d ∈ tables_1, d.before a0 Z = true) (ws : List Jvm.Cond) (a1 : Addr) (f1 : Addr) (s1 : Addr) (t1 : Addr) (k1 : ClassId) (s2 : Addr) (t2 : Addr) (k2 : ClassId) (x0 : Int32) (w_NUMBER : Addr) (w_SYMBOL : Addr) (w_NAME : Addr) (w_END : Addr) (w_STRING : Addr) (i_COMPACT_STRINGS : Int32) (v_SIOOBE_FORMATTER : Value) (h0 : Heap) (n0 : Nat) (O0 : Old Z n0 h0) (E_a1 : Exa Z h0 a1 "com/example/naysay/naysay/rules/Token") (F_a1_kind : Fld Z h0 a1 "com/example/naysay/naysay/rules/Token" "kind" "Lcom/example/naysay/naysay/rules/Token$Kind;" (.ref f1)) (F_a1_text : Fld Z h0 a1 "com/example/naysay/naysay/rules/Token" "text" "Ljava/lang/String;" (.ref s1)) (E_s1 : Exa Z h0 s1 "java/lang/String") (F_s1_coder : Fld Z h0 s1 "java/lang/String" "coder" "B" (.int 0)) (F_s1_value : Fld Z h0 s1 "java/lang/String" "value" "[B" (.ref t1)) (V_t1 : Arv Z h0 t1 k1 .byte (1 : Int32) [(.int x0)] (.int 0)) (ne12 : s1 ≠ s2) (E_s2 : Exa Z h0 s2 "java/lang/String") (F_s2_coder : Fld Z h0 s2 "java/lang/String" "coder" "B" (.int 0)) (F_s2_value : Fld Z h0 s2 "java/lang/String" "value" "[B" (.ref t2)) (V_t2 : Arv Z h0 t2 k2 .byte (0 : Int32) [] (.int 0)) (WW : World1 Z w_NUMBER w_SYMBOL w_NAME w_END w_STRING i_COMPACT_STRINGS v_SIOOBE_FORMATTER) :
    Con l Z (⟨"com/example/naysay/naysay/rules/Token", "isSymbol", "(Ljava/lang/String;)Z"⟩ : MethodName) prog_33_method_2_code 2 (some .boolean) ws ({ frames := 2, cells := 0, slots := 0, locals := 28 } : Room) #[(.ref a1), (.ref s2)] h0 (fun v h L => v = some (.int (syI_1_0 f1 w_SYMBOL x0)) ∧ Fr n0 L ∧ h = h0) := by
  refine own_body (plainFor_of_name pn_com_example_naysay_naysay_rules_Token) ?_
  intro p e s m below meth c s₁ hx hby hml hZ hown hnm hlk hret X0 e0
  have N0 := Fr.nil n0
  refine Go.st (T' := s₁) (f' := (mkF m 0 #[rv a1, rv s2] [])) (fun _ k => castTop (by first | (simp [entryFrame, mkF, argsToLocals, Value.category]; done) | rfl) k) ?_
  have ⟨S_i_COMPACT_STRINGS, nz_i_COMPACT_STRINGS, S_v_SIOOBE_FORMATTER, r_v_SIOOBE_FORMATTER, S_w_NUMBER, E_w_NUMBER, S_w_SYMBOL, E_w_SYMBOL, S_w_NAME, E_w_NAME, S_w_END, E_w_END, S_w_STRING, E_w_STRING, F_w_NUMBER_ordinal, F_w_SYMBOL_ordinal, F_w_NAME_ordinal, F_w_END_ordinal, F_w_STRING_ordinal⟩ := WW
  have lt_w_NUMBER := E_w_NUMBER.lt
  have lt_w_SYMBOL := E_w_SYMBOL.lt
  have lt_w_NAME := E_w_NAME.lt
  have lt_w_END := E_w_END.lt
  have lt_w_STRING := E_w_STRING.lt
  have lt_a1 := E_a1.lt
  have lt_s1 := E_s1.lt
  have lt_t1 := V_t1.lt
  have lt_s2 := E_s2.lt
  have lt_t2 := V_t2.lt
  refine Go.st (f' := (mkF m 1 #[rv a1, rv s2] [(.ref a1)])) (fun _ k => XS.aloadN X0.here hx rfl (hb hby d11_0) rfl rfl k) ?_
  obtain ⟨T1, X1, e1, st1⟩ := getF X0 hx hZ hown (host := "") (Or.inl (hw _ (List.mem_of_getElem? (i := 58) rfl))) Via.refl e0 F_a1_kind (g := (mkF m 1 #[rv a1, rv s2] [(.ref a1)])) rfl rfl (hb hby d11_1)
  refine Go.st (f' := (mkF m 4 #[rv a1, rv s2] [(.ref f1)])) (fun _ k => st1 _ k) ?_
  obtain ⟨T2, X2, e2, st2⟩ := getS2 X1 hx hZ hown (host := "") (Or.inl (hw _ (List.mem_of_getElem? (i := 69) rfl))) Via.refl e1 (S_w_SYMBOL.ext O0.2) (g := (mkF m 4 #[rv a1, rv s2] [(.ref f1)])) rfl (hb hby d11_4)
  refine Go.st (f' := (mkF m 7 #[rv a1, rv s2] [(.ref w_SYMBOL), (.ref f1)])) (fun _ k => st2 _ k) ?_
  by_cases cd3 : f1 = w_SYMBOL
  · refine Go.st (f' := (mkF m 10 #[rv a1, rv s2] [])) (fun _ k => Jvm.RoadKit.acmp (g := (mkF m 7 #[rv a1, rv s2] [(.ref w_SYMBOL), (.ref f1)])) X2 hx rfl rfl rfl (pc0 := 7) (pc' := 10) (same := true) rfl (hb hby d11_7) rfl (decide_eq_true (congrArg Value.ref cd3)) (by decide) (by decide) k) ?_
    refine Go.st (f' := (mkF m 11 #[rv a1, rv s2] [(.ref a1)])) (fun _ k => XS.aloadN X2.here hx rfl (hb hby d11_10) rfl rfl k) ?_
    obtain ⟨T4, X4, e4, st4⟩ := getF X2 hx hZ hown (host := "") (Or.inl (hw _ (List.mem_of_getElem? (i := 60) rfl))) Via.refl e2 F_a1_text (g := (mkF m 11 #[rv a1, rv s2] [(.ref a1)])) rfl rfl (hb hby d11_11)
    refine Go.st (f' := (mkF m 14 #[rv a1, rv s2] [(.ref s1)])) (fun _ k => st4 _ k) ?_
    refine Go.st (f' := (mkF m 15 #[rv a1, rv s2] [(.ref s2), (.ref s1)])) (fun _ k => XS.aloadN X4.here hx rfl (hb hby d11_14) rfl rfl k) ?_
    obtain ⟨cq5, kq5, q5a, q5b, q5c⟩ := isOf hZ e4 E_s1
    obtain ⟨_, _, ⟨T5, L5, kk5, nn5⟩, -, X5, ⟨Lc5, hQ5, lq5, yq5, zz5⟩, st5⟩ := X4.virtualBack hx (y := (⟨"java/lang/String", "equals", "(Ljava/lang/Object;)Z"⟩ : MethodName)) (z := (⟨"java/lang/String", "equals", "(Ljava/lang/Object;)Z"⟩ : MethodName)) hown (mvT hZ (hw _ (List.mem_of_getElem? (i := 76) rfl))) (mvT hZ (hw _ (List.mem_of_getElem? (i := 77) rfl))) (notFace_of_selects (args := #[]) (mvT hZ (hw _ (List.mem_of_getElem? (i := 79) rfl)))) (mvT hZ (hw _ (List.mem_of_getElem? (i := 79) rfl))) (mvT hZ (hw _ (List.mem_of_getElem? (i := 78) rfl))) (by decide) (own_back (W := 0) (eq_1_0 l Z a0 hw [] s1 s2 t1 k1 t2 k2 x0 w_NUMBER w_SYMBOL w_NAME w_END w_STRING i_COMPACT_STRINGS v_SIOOBE_FORMATTER h0 n0 O0 ne12 E_s1 F_s1_coder F_s1_value E_s2 F_s2_coder F_s2_value V_t1 V_t2 WW) hZ (hw _ (List.mem_of_getElem? (i := 80) rfl)) (hw _ (List.mem_of_getElem? (i := 13) rfl)) (by decide) (by decide)) q5a q5c (g := (mkF m 15 #[rv a1, rv s2] [(.ref s2), (.ref s1)])) rfl (by rw [hml]; rfl) (Steps.refl _) (argsL := [(.ref s2)]) (rest := []) (lenOf pd__Ljava_lang_Object__Z rfl) rfl (by show 2 * 0 + _ ≤ _; exact Nat.le_of_eq rfl) (hb hby d11_15) (fun _ _ => ⟨rfl, e4, (by decide : 0 + 0 ≤ _), (by decide : 0 + 0 ≤ _)⟩)
    dsimp only [Pt.U, Pt.locs, Pt.cells, Pt.slots] at X5 lq5 yq5 zz5 st5 hQ5
    subst lq5 yq5 zz5
    obtain ⟨rfl, Nq5, kq5⟩ := hQ5
    have N5 := Fr.app N0 Nq5
    refine Go.tr (f' := (mkF m 18 #[rv a1, rv s2] [(.int (eqI_1_0 x0))])) st5 ?_
    by_cases cd6 : (eqI_1_0 x0) = (0 : Int32)
    · refine Go.st (f' := (mkF m 25 #[rv a1, rv s2] [])) (fun _ k => XS.ifYes X5.here hx rfl (pc0 := 18) (pc' := 25) rfl (hb hby d11_18) rfl ((if0 _ _).trans (teq cd6).1) (by decide) (by decide) k) ?_
      refine Go.st (f' := (mkF m 26 #[rv a1, rv s2] [(.int 0)])) (fun _ k => XS.iconst X5.here hx rfl (hb hby d11_25) k) ?_
      refine Go.retB X5 hlk hx (t := .boolean) hret (by simp) (hb hby d11_26) kq5 ?_ (by decide) (by decide)
      show (some (.int (0 : Int32)) : Option Value) = some (.int (syI_1_0 f1 w_SYMBOL x0)) ∧ _
      exact ⟨by rw [syI_1_0, if_pos cd3, if_pos cd6], N5, rfl⟩
    · refine Go.st (f' := (mkF m 21 #[rv a1, rv s2] [])) (fun _ k => XS.ifNo X5.here hx rfl (hb hby d11_18) rfl ((if0 _ _).trans (feq cd6).1) k) ?_
      refine Go.st (f' := (mkF m 22 #[rv a1, rv s2] [(.int 1)])) (fun _ k => XS.iconst X5.here hx rfl (hb hby d11_21) k) ?_
      refine Go.st (f' := (mkF m 26 #[rv a1, rv s2] [(.int 1)])) (fun _ k => XS.goto X5.here hx rfl (pc0 := 22) (pc' := 26) rfl (hb hby d11_22) (by decide) (by decide) k) ?_
      refine Go.retB X5 hlk hx (t := .boolean) hret (by simp) (hb hby d11_26) kq5 ?_ (by decide) (by decide)
      show (some (.int (1 : Int32)) : Option Value) = some (.int (syI_1_0 f1 w_SYMBOL x0)) ∧ _
      exact ⟨by rw [syI_1_0, if_pos cd3, if_neg cd6], N5, rfl⟩
  · refine Go.st (f' := (mkF m 25 #[rv a1, rv s2] [])) (fun _ k => Jvm.RoadKit.acmp (g := (mkF m 7 #[rv a1, rv s2] [(.ref w_SYMBOL), (.ref f1)])) X2 hx rfl rfl rfl (pc0 := 7) (pc' := 25) (same := false) rfl (hb hby d11_7) rfl (decide_eq_false fun q => cd3 (Value.ref.inj q)) (by decide) (by decide) k) ?_
    refine Go.st (f' := (mkF m 26 #[rv a1, rv s2] [(.int 0)])) (fun _ k => XS.iconst X2.here hx rfl (hb hby d11_25) k) ?_
    refine Go.retB X2 hlk hx (t := .boolean) hret (by simp) (hb hby d11_26) e2 ?_ (by decide) (by decide)
    show (some (.int (0 : Int32)) : Option Value) = some (.int (syI_1_0 f1 w_SYMBOL x0)) ∧ _
    exact ⟨by rw [syI_1_0, if_neg cd3], N0, rfl⟩
def syI_1_1 (f1 : Addr) (w_SYMBOL : Addr) (x0 : Int32) (y0 : Int32) : Int32 := (if f1 = w_SYMBOL then (if (eqI_1_1 x0 y0) = (0 : Int32) then (0 : Int32) else (1 : Int32)) else (0 : Int32))
set_option maxRecDepth 65536 in
set_option maxHeartbeats 40000000 in
theorem rmS_1_1 (l : Launch) (Z : State) (a0 : Array Value) (hw : ∀ d ∈ tables_1, d.before a0 Z = true) (ws : List Jvm.Cond) (a1 : Addr) (f1 : Addr) (s1 : Addr) (t1 : Addr) (k1 : ClassId) (s2 : Addr) (t2 : Addr) (k2 : ClassId) (x0 : Int32) (y0 : Int32) (w_NUMBER : Addr) (w_SYMBOL : Addr) (w_NAME : Addr) (w_END : Addr) (w_STRING : Addr) (i_COMPACT_STRINGS : Int32) (v_SIOOBE_FORMATTER : Value) (h0 : Heap) (n0 : Nat) (O0 : Old Z n0 h0) (E_a1 : Exa Z h0 a1 "com/example/naysay/naysay/rules/Token") (F_a1_kind : Fld Z h0 a1 "com/example/naysay/naysay/rules/Token" "kind" "Lcom/example/naysay/naysay/rules/Token$Kind;" (.ref f1)) (F_a1_text : Fld Z h0 a1 "com/example/naysay/naysay/rules/Token" "text" "Ljava/lang/String;" (.ref s1)) (E_s1 : Exa Z h0 s1 "java/lang/String") (F_s1_coder : Fld Z h0 s1 "java/lang/String" "coder" "B" (.int 0)) (F_s1_value : Fld Z h0 s1 "java/lang/String" "value" "[B" (.ref t1)) (V_t1 : Arv Z h0 t1 k1 .byte (1 : Int32) [(.int x0)] (.int 0)) (ne12 : s1 ≠ s2) (E_s2 : Exa Z h0 s2 "java/lang/String") (F_s2_coder : Fld Z h0 s2 "java/lang/String" "coder" "B" (.int 0)) (F_s2_value : Fld Z h0 s2 "java/lang/String" "value" "[B" (.ref t2)) (V_t2 : Arv Z h0 t2 k2 .byte (1 : Int32) [(.int y0)] (.int 0)) (WW : World1 Z w_NUMBER w_SYMBOL w_NAME w_END w_STRING i_COMPACT_STRINGS v_SIOOBE_FORMATTER) :
    Con l Z (⟨"com/example/naysay/naysay/rules/Token", "isSymbol", "(Ljava/lang/String;)Z"⟩ : MethodName) prog_33_method_2_code 2 (some .boolean) ws ({ frames := 2, cells := 0, slots := 0, locals := 28 } : Room) #[(.ref a1), (.ref s2)] h0 (fun v h L => v = some (.int (syI_1_1 f1 w_SYMBOL x0 y0)) ∧ Fr n0 L ∧ h = h0) := by
  refine own_body (plainFor_of_name pn_com_example_naysay_naysay_rules_Token) ?_
  intro p e s m below meth c s₁ hx hby hml hZ hown hnm hlk hret X0 e0
  have N0 := Fr.nil n0
  refine Go.st (T' := s₁) (f' := (mkF m 0 #[rv a1, rv s2] [])) (fun _ k => castTop (by first | (simp [entryFrame, mkF, argsToLocals, Value.category]; done) | rfl) k) ?_
  have ⟨S_i_COMPACT_STRINGS, nz_i_COMPACT_STRINGS, S_v_SIOOBE_FORMATTER, r_v_SIOOBE_FORMATTER, S_w_NUMBER, E_w_NUMBER, S_w_SYMBOL, E_w_SYMBOL, S_w_NAME, E_w_NAME, S_w_END, E_w_END, S_w_STRING, E_w_STRING, F_w_NUMBER_ordinal, F_w_SYMBOL_ordinal, F_w_NAME_ordinal, F_w_END_ordinal, F_w_STRING_ordinal⟩ := WW
  have lt_w_NUMBER := E_w_NUMBER.lt
  have lt_w_SYMBOL := E_w_SYMBOL.lt
  have lt_w_NAME := E_w_NAME.lt
  have lt_w_END := E_w_END.lt
  have lt_w_STRING := E_w_STRING.lt
  have lt_a1 := E_a1.lt
  have lt_s1 := E_s1.lt
  have lt_t1 := V_t1.lt
  have lt_s2 := E_s2.lt
  have lt_t2 := V_t2.lt
  refine Go.st (f' := (mkF m 1 #[rv a1, rv s2] [(.ref a1)])) (fun _ k => XS.aloadN X0.here hx rfl (hb hby d11_0) rfl rfl k) ?_
  obtain ⟨T1, X1, e1, st1⟩ := getF X0 hx hZ hown (host := "") (Or.inl (hw _ (List.mem_of_getElem? (i := 58) rfl))) Via.refl e0 F_a1_kind (g := (mkF m 1 #[rv a1, rv s2] [(.ref a1)])) rfl rfl (hb hby d11_1)
  refine Go.st (f' := (mkF m 4 #[rv a1, rv s2] [(.ref f1)])) (fun _ k => st1 _ k) ?_
  obtain ⟨T2, X2, e2, st2⟩ := getS2 X1 hx hZ hown (host := "") (Or.inl (hw _ (List.mem_of_getElem? (i := 69) rfl))) Via.refl e1 (S_w_SYMBOL.ext O0.2) (g := (mkF m 4 #[rv a1, rv s2] [(.ref f1)])) rfl (hb hby d11_4)
  refine Go.st (f' := (mkF m 7 #[rv a1, rv s2] [(.ref w_SYMBOL), (.ref f1)])) (fun _ k => st2 _ k) ?_
  by_cases cd3 : f1 = w_SYMBOL
  · refine Go.st (f' := (mkF m 10 #[rv a1, rv s2] [])) (fun _ k => Jvm.RoadKit.acmp (g := (mkF m 7 #[rv a1, rv s2] [(.ref w_SYMBOL), (.ref f1)])) X2 hx rfl rfl rfl (pc0 := 7) (pc' := 10) (same := true) rfl (hb hby d11_7) rfl (decide_eq_true (congrArg Value.ref cd3)) (by decide) (by decide) k) ?_
    refine Go.st (f' := (mkF m 11 #[rv a1, rv s2] [(.ref a1)])) (fun _ k => XS.aloadN X2.here hx rfl (hb hby d11_10) rfl rfl k) ?_
    obtain ⟨T4, X4, e4, st4⟩ := getF X2 hx hZ hown (host := "") (Or.inl (hw _ (List.mem_of_getElem? (i := 60) rfl))) Via.refl e2 F_a1_text (g := (mkF m 11 #[rv a1, rv s2] [(.ref a1)])) rfl rfl (hb hby d11_11)
    refine Go.st (f' := (mkF m 14 #[rv a1, rv s2] [(.ref s1)])) (fun _ k => st4 _ k) ?_
    refine Go.st (f' := (mkF m 15 #[rv a1, rv s2] [(.ref s2), (.ref s1)])) (fun _ k => XS.aloadN X4.here hx rfl (hb hby d11_14) rfl rfl k) ?_
    obtain ⟨cq5, kq5, q5a, q5b, q5c⟩ := isOf hZ e4 E_s1
    obtain ⟨_, _, ⟨T5, L5, kk5, nn5⟩, -, X5, ⟨Lc5, hQ5, lq5, yq5, zz5⟩, st5⟩ := X4.virtualBack hx (y := (⟨"java/lang/String", "equals", "(Ljava/lang/Object;)Z"⟩ : MethodName)) (z := (⟨"java/lang/String", "equals", "(Ljava/lang/Object;)Z"⟩ : MethodName)) hown (mvT hZ (hw _ (List.mem_of_getElem? (i := 76) rfl))) (mvT hZ (hw _ (List.mem_of_getElem? (i := 77) rfl))) (notFace_of_selects (args := #[]) (mvT hZ (hw _ (List.mem_of_getElem? (i := 79) rfl)))) (mvT hZ (hw _ (List.mem_of_getElem? (i := 79) rfl))) (mvT hZ (hw _ (List.mem_of_getElem? (i := 78) rfl))) (by decide) (own_back (W := 0) (eq_1_1 l Z a0 hw [] s1 s2 t1 k1 t2 k2 x0 y0 w_NUMBER w_SYMBOL w_NAME w_END w_STRING i_COMPACT_STRINGS v_SIOOBE_FORMATTER h0 n0 O0 ne12 E_s1 F_s1_coder F_s1_value E_s2 F_s2_coder F_s2_value V_t1 V_t2 WW) hZ (hw _ (List.mem_of_getElem? (i := 80) rfl)) (hw _ (List.mem_of_getElem? (i := 13) rfl)) (by decide) (by decide)) q5a q5c (g := (mkF m 15 #[rv a1, rv s2] [(.ref s2), (.ref s1)])) rfl (by rw [hml]; rfl) (Steps.refl _) (argsL := [(.ref s2)]) (rest := []) (lenOf pd__Ljava_lang_Object__Z rfl) rfl (by show 2 * 0 + _ ≤ _; exact Nat.le_of_eq rfl) (hb hby d11_15) (fun _ _ => ⟨rfl, e4, (by decide : 0 + 0 ≤ _), (by decide : 0 + 0 ≤ _)⟩)
    dsimp only [Pt.U, Pt.locs, Pt.cells, Pt.slots] at X5 lq5 yq5 zz5 st5 hQ5
    subst lq5 yq5 zz5
    obtain ⟨rfl, Nq5, kq5⟩ := hQ5
    have N5 := Fr.app N0 Nq5
    refine Go.tr (f' := (mkF m 18 #[rv a1, rv s2] [(.int (eqI_1_1 x0 y0))])) st5 ?_
    by_cases cd6 : (eqI_1_1 x0 y0) = (0 : Int32)
    · refine Go.st (f' := (mkF m 25 #[rv a1, rv s2] [])) (fun _ k => XS.ifYes X5.here hx rfl (pc0 := 18) (pc' := 25) rfl (hb hby d11_18) rfl ((if0 _ _).trans (teq cd6).1) (by decide) (by decide) k) ?_
      refine Go.st (f' := (mkF m 26 #[rv a1, rv s2] [(.int 0)])) (fun _ k => XS.iconst X5.here hx rfl (hb hby d11_25) k) ?_
      refine Go.retB X5 hlk hx (t := .boolean) hret (by simp) (hb hby d11_26) kq5 ?_ (by decide) (by decide)
      show (some (.int (0 : Int32)) : Option Value) = some (.int (syI_1_1 f1 w_SYMBOL x0 y0)) ∧ _
      exact ⟨by rw [syI_1_1, if_pos cd3, if_pos cd6], N5, rfl⟩
    · refine Go.st (f' := (mkF m 21 #[rv a1, rv s2] [])) (fun _ k => XS.ifNo X5.here hx rfl (hb hby d11_18) rfl ((if0 _ _).trans (feq cd6).1) k) ?_
      refine Go.st (f' := (mkF m 22 #[rv a1, rv s2] [(.int 1)])) (fun _ k => XS.iconst X5.here hx rfl (hb hby d11_21) k) ?_
      refine Go.st (f' := (mkF m 26 #[rv a1, rv s2] [(.int 1)])) (fun _ k => XS.goto X5.here hx rfl (pc0 := 22) (pc' := 26) rfl (hb hby d11_22) (by decide) (by decide) k) ?_
      refine Go.retB X5 hlk hx (t := .boolean) hret (by simp) (hb hby d11_26) kq5 ?_ (by decide) (by decide)
      show (some (.int (1 : Int32)) : Option Value) = some (.int (syI_1_1 f1 w_SYMBOL x0 y0)) ∧ _
      exact ⟨by rw [syI_1_1, if_pos cd3, if_neg cd6], N5, rfl⟩
  · refine Go.st (f' := (mkF m 25 #[rv a1, rv s2] [])) (fun _ k => Jvm.RoadKit.acmp (g := (mkF m 7 #[rv a1, rv s2] [(.ref w_SYMBOL), (.ref f1)])) X2 hx rfl rfl rfl (pc0 := 7) (pc' := 25) (same := false) rfl (hb hby d11_7) rfl (decide_eq_false fun q => cd3 (Value.ref.inj q)) (by decide) (by decide) k) ?_
    refine Go.st (f' := (mkF m 26 #[rv a1, rv s2] [(.int 0)])) (fun _ k => XS.iconst X2.here hx rfl (hb hby d11_25) k) ?_
    refine Go.retB X2 hlk hx (t := .boolean) hret (by simp) (hb hby d11_26) e2 ?_ (by decide) (by decide)
    show (some (.int (0 : Int32)) : Option Value) = some (.int (syI_1_1 f1 w_SYMBOL x0 y0)) ∧ _
    exact ⟨by rw [syI_1_1, if_neg cd3], N0, rfl⟩
def syI_1_2 (f1 : Addr) (w_SYMBOL : Addr) (x0 : Int32) (y0 : Int32) (y1 : Int32) : Int32 := (if f1 = w_SYMBOL then (if (eqI_1_2 x0 y0 y1) = (0 : Int32) then (0 : Int32) else (1 : Int32)) else (0 : Int32))
set_option maxRecDepth 65536 in
set_option maxHeartbeats 40000000 in
theorem rmS_1_2 (l : Launch) (Z : State) (a0 : Array Value) (hw : ∀ d ∈ tables_1, d.before a0 Z = true) (ws : List Jvm.Cond) (a1 : Addr) (f1 : Addr) (s1 : Addr) (t1 : Addr) (k1 : ClassId) (s2 : Addr) (t2 : Addr) (k2 : ClassId) (x0 : Int32) (y0 : Int32) (y1 : Int32) (w_NUMBER : Addr) (w_SYMBOL : Addr) (w_NAME : Addr) (w_END : Addr) (w_STRING : Addr) (i_COMPACT_STRINGS : Int32) (v_SIOOBE_FORMATTER : Value) (h0 : Heap) (n0 : Nat) (O0 : Old Z n0 h0) (E_a1 : Exa Z h0 a1 "com/example/naysay/naysay/rules/Token") (F_a1_kind : Fld Z h0 a1 "com/example/naysay/naysay/rules/Token" "kind" "Lcom/example/naysay/naysay/rules/Token$Kind;" (.ref f1)) (F_a1_text : Fld Z h0 a1 "com/example/naysay/naysay/rules/Token" "text" "Ljava/lang/String;" (.ref s1)) (E_s1 : Exa Z h0 s1 "java/lang/String") (F_s1_coder : Fld Z h0 s1 "java/lang/String" "coder" "B" (.int 0)) (F_s1_value : Fld Z h0 s1 "java/lang/String" "value" "[B" (.ref t1)) (V_t1 : Arv Z h0 t1 k1 .byte (1 : Int32) [(.int x0)] (.int 0)) (ne12 : s1 ≠ s2) (E_s2 : Exa Z h0 s2 "java/lang/String") (F_s2_coder : Fld Z h0 s2 "java/lang/String" "coder" "B" (.int 0)) (F_s2_value : Fld Z h0 s2 "java/lang/String" "value" "[B" (.ref t2)) (V_t2 : Arv Z h0 t2 k2 .byte (2 : Int32) [(.int y0), (.int y1)] (.int 0)) (WW : World1 Z w_NUMBER w_SYMBOL w_NAME w_END w_STRING i_COMPACT_STRINGS v_SIOOBE_FORMATTER) :
    Con l Z (⟨"com/example/naysay/naysay/rules/Token", "isSymbol", "(Ljava/lang/String;)Z"⟩ : MethodName) prog_33_method_2_code 2 (some .boolean) ws ({ frames := 2, cells := 0, slots := 0, locals := 28 } : Room) #[(.ref a1), (.ref s2)] h0 (fun v h L => v = some (.int (syI_1_2 f1 w_SYMBOL x0 y0 y1)) ∧ Fr n0 L ∧ h = h0) := by
  refine own_body (plainFor_of_name pn_com_example_naysay_naysay_rules_Token) ?_
  intro p e s m below meth c s₁ hx hby hml hZ hown hnm hlk hret X0 e0
  have N0 := Fr.nil n0
  refine Go.st (T' := s₁) (f' := (mkF m 0 #[rv a1, rv s2] [])) (fun _ k => castTop (by first | (simp [entryFrame, mkF, argsToLocals, Value.category]; done) | rfl) k) ?_
  have ⟨S_i_COMPACT_STRINGS, nz_i_COMPACT_STRINGS, S_v_SIOOBE_FORMATTER, r_v_SIOOBE_FORMATTER, S_w_NUMBER, E_w_NUMBER, S_w_SYMBOL, E_w_SYMBOL, S_w_NAME, E_w_NAME, S_w_END, E_w_END, S_w_STRING, E_w_STRING, F_w_NUMBER_ordinal, F_w_SYMBOL_ordinal, F_w_NAME_ordinal, F_w_END_ordinal, F_w_STRING_ordinal⟩ := WW
  have lt_w_NUMBER := E_w_NUMBER.lt
  have lt_w_SYMBOL := E_w_SYMBOL.lt
  have lt_w_NAME := E_w_NAME.lt
  have lt_w_END := E_w_END.lt
  have lt_w_STRING := E_w_STRING.lt
  have lt_a1 := E_a1.lt
  have lt_s1 := E_s1.lt
  have lt_t1 := V_t1.lt
  have lt_s2 := E_s2.lt
  have lt_t2 := V_t2.lt
  refine Go.st (f' := (mkF m 1 #[rv a1, rv s2] [(.ref a1)])) (fun _ k => XS.aloadN X0.here hx rfl (hb hby d11_0) rfl rfl k) ?_
  obtain ⟨T1, X1, e1, st1⟩ := getF X0 hx hZ hown (host := "") (Or.inl (hw _ (List.mem_of_getElem? (i := 58) rfl))) Via.refl e0 F_a1_kind (g := (mkF m 1 #[rv a1, rv s2] [(.ref a1)])) rfl rfl (hb hby d11_1)
  refine Go.st (f' := (mkF m 4 #[rv a1, rv s2] [(.ref f1)])) (fun _ k => st1 _ k) ?_
  obtain ⟨T2, X2, e2, st2⟩ := getS2 X1 hx hZ hown (host := "") (Or.inl (hw _ (List.mem_of_getElem? (i := 69) rfl))) Via.refl e1 (S_w_SYMBOL.ext O0.2) (g := (mkF m 4 #[rv a1, rv s2] [(.ref f1)])) rfl (hb hby d11_4)
  refine Go.st (f' := (mkF m 7 #[rv a1, rv s2] [(.ref w_SYMBOL), (.ref f1)])) (fun _ k => st2 _ k) ?_
  by_cases cd3 : f1 = w_SYMBOL
  · refine Go.st (f' := (mkF m 10 #[rv a1, rv s2] [])) (fun _ k => Jvm.RoadKit.acmp (g := (mkF m 7 #[rv a1, rv s2] [(.ref w_SYMBOL), (.ref f1)])) X2 hx rfl rfl rfl (pc0 := 7) (pc' := 10) (same := true) rfl (hb hby d11_7) rfl (decide_eq_true (congrArg Value.ref cd3)) (by decide) (by decide) k) ?_
    refine Go.st (f' := (mkF m 11 #[rv a1, rv s2] [(.ref a1)])) (fun _ k => XS.aloadN X2.here hx rfl (hb hby d11_10) rfl rfl k) ?_
    obtain ⟨T4, X4, e4, st4⟩ := getF X2 hx hZ hown (host := "") (Or.inl (hw _ (List.mem_of_getElem? (i := 60) rfl))) Via.refl e2 F_a1_text (g := (mkF m 11 #[rv a1, rv s2] [(.ref a1)])) rfl rfl (hb hby d11_11)
    refine Go.st (f' := (mkF m 14 #[rv a1, rv s2] [(.ref s1)])) (fun _ k => st4 _ k) ?_
    refine Go.st (f' := (mkF m 15 #[rv a1, rv s2] [(.ref s2), (.ref s1)])) (fun _ k => XS.aloadN X4.here hx rfl (hb hby d11_14) rfl rfl k) ?_
    obtain ⟨cq5, kq5, q5a, q5b, q5c⟩ := isOf hZ e4 E_s1
    obtain ⟨_, _, ⟨T5, L5, kk5, nn5⟩, -, X5, ⟨Lc5, hQ5, lq5, yq5, zz5⟩, st5⟩ := X4.virtualBack hx (y := (⟨"java/lang/String", "equals", "(Ljava/lang/Object;)Z"⟩ : MethodName)) (z := (⟨"java/lang/String", "equals", "(Ljava/lang/Object;)Z"⟩ : MethodName)) hown (mvT hZ (hw _ (List.mem_of_getElem? (i := 76) rfl))) (mvT hZ (hw _ (List.mem_of_getElem? (i := 77) rfl))) (notFace_of_selects (args := #[]) (mvT hZ (hw _ (List.mem_of_getElem? (i := 79) rfl)))) (mvT hZ (hw _ (List.mem_of_getElem? (i := 79) rfl))) (mvT hZ (hw _ (List.mem_of_getElem? (i := 78) rfl))) (by decide) (own_back (W := 0) (eq_1_2 l Z a0 hw [] s1 s2 t1 k1 t2 k2 x0 y0 y1 w_NUMBER w_SYMBOL w_NAME w_END w_STRING i_COMPACT_STRINGS v_SIOOBE_FORMATTER h0 n0 O0 ne12 E_s1 F_s1_coder F_s1_value E_s2 F_s2_coder F_s2_value V_t1 V_t2 WW) hZ (hw _ (List.mem_of_getElem? (i := 80) rfl)) (hw _ (List.mem_of_getElem? (i := 13) rfl)) (by decide) (by decide)) q5a q5c (g := (mkF m 15 #[rv a1, rv s2] [(.ref s2), (.ref s1)])) rfl (by rw [hml]; rfl) (Steps.refl _) (argsL := [(.ref s2)]) (rest := []) (lenOf pd__Ljava_lang_Object__Z rfl) rfl (by show 2 * 0 + _ ≤ _; exact Nat.le_of_eq rfl) (hb hby d11_15) (fun _ _ => ⟨rfl, e4, (by decide : 0 + 0 ≤ _), (by decide : 0 + 0 ≤ _)⟩)
    dsimp only [Pt.U, Pt.locs, Pt.cells, Pt.slots] at X5 lq5 yq5 zz5 st5 hQ5
    subst lq5 yq5 zz5
    obtain ⟨rfl, Nq5, kq5⟩ := hQ5
    have N5 := Fr.app N0 Nq5
    refine Go.tr (f' := (mkF m 18 #[rv a1, rv s2] [(.int (eqI_1_2 x0 y0 y1))])) st5 ?_
    by_cases cd6 : (eqI_1_2 x0 y0 y1) = (0 : Int32)
    · refine Go.st (f' := (mkF m 25 #[rv a1, rv s2] [])) (fun _ k => XS.ifYes X5.here hx rfl (pc0 := 18) (pc' := 25) rfl (hb hby d11_18) rfl ((if0 _ _).trans (teq cd6).1) (by decide) (by decide) k) ?_
      refine Go.st (f' := (mkF m 26 #[rv a1, rv s2] [(.int 0)])) (fun _ k => XS.iconst X5.here hx rfl (hb hby d11_25) k) ?_
      refine Go.retB X5 hlk hx (t := .boolean) hret (by simp) (hb hby d11_26) kq5 ?_ (by decide) (by decide)
      show (some (.int (0 : Int32)) : Option Value) = some (.int (syI_1_2 f1 w_SYMBOL x0 y0 y1)) ∧ _
      exact ⟨by rw [syI_1_2, if_pos cd3, if_pos cd6], N5, rfl⟩
    · refine Go.st (f' := (mkF m 21 #[rv a1, rv s2] [])) (fun _ k => XS.ifNo X5.here hx rfl (hb hby d11_18) rfl ((if0 _ _).trans (feq cd6).1) k) ?_
      refine Go.st (f' := (mkF m 22 #[rv a1, rv s2] [(.int 1)])) (fun _ k => XS.iconst X5.here hx rfl (hb hby d11_21) k) ?_
      refine Go.st (f' := (mkF m 26 #[rv a1, rv s2] [(.int 1)])) (fun _ k => XS.goto X5.here hx rfl (pc0 := 22) (pc' := 26) rfl (hb hby d11_22) (by decide) (by decide) k) ?_
      refine Go.retB X5 hlk hx (t := .boolean) hret (by simp) (hb hby d11_26) kq5 ?_ (by decide) (by decide)
      show (some (.int (1 : Int32)) : Option Value) = some (.int (syI_1_2 f1 w_SYMBOL x0 y0 y1)) ∧ _
      exact ⟨by rw [syI_1_2, if_pos cd3, if_neg cd6], N5, rfl⟩
  · refine Go.st (f' := (mkF m 25 #[rv a1, rv s2] [])) (fun _ k => Jvm.RoadKit.acmp (g := (mkF m 7 #[rv a1, rv s2] [(.ref w_SYMBOL), (.ref f1)])) X2 hx rfl rfl rfl (pc0 := 7) (pc' := 25) (same := false) rfl (hb hby d11_7) rfl (decide_eq_false fun q => cd3 (Value.ref.inj q)) (by decide) (by decide) k) ?_
    refine Go.st (f' := (mkF m 26 #[rv a1, rv s2] [(.int 0)])) (fun _ k => XS.iconst X2.here hx rfl (hb hby d11_25) k) ?_
    refine Go.retB X2 hlk hx (t := .boolean) hret (by simp) (hb hby d11_26) e2 ?_ (by decide) (by decide)
    show (some (.int (0 : Int32)) : Option Value) = some (.int (syI_1_2 f1 w_SYMBOL x0 y0 y1)) ∧ _
    exact ⟨by rw [syI_1_2, if_neg cd3], N0, rfl⟩
def syI_1_N (f1 : Addr) (w_SYMBOL : Addr) (x0 : Int32) : Int32 := (if f1 = w_SYMBOL then (0 : Int32) else (0 : Int32))
set_option maxRecDepth 65536 in
set_option maxHeartbeats 40000000 in
theorem rmS_1_N (l : Launch) (Z : State) (a0 : Array Value) (hw : ∀ d ∈ tables_1, d.before a0 Z = true) (ws : List Jvm.Cond) (a1 : Addr) (f1 : Addr) (s1 : Addr) (t1 : Addr) (k1 : ClassId) (x0 : Int32) (w_NUMBER : Addr) (w_SYMBOL : Addr) (w_NAME : Addr) (w_END : Addr) (w_STRING : Addr) (i_COMPACT_STRINGS : Int32) (v_SIOOBE_FORMATTER : Value) (h0 : Heap) (n0 : Nat) (O0 : Old Z n0 h0) (E_a1 : Exa Z h0 a1 "com/example/naysay/naysay/rules/Token") (F_a1_kind : Fld Z h0 a1 "com/example/naysay/naysay/rules/Token" "kind" "Lcom/example/naysay/naysay/rules/Token$Kind;" (.ref f1)) (F_a1_text : Fld Z h0 a1 "com/example/naysay/naysay/rules/Token" "text" "Ljava/lang/String;" (.ref s1)) (E_s1 : Exa Z h0 s1 "java/lang/String") (F_s1_coder : Fld Z h0 s1 "java/lang/String" "coder" "B" (.int 0)) (F_s1_value : Fld Z h0 s1 "java/lang/String" "value" "[B" (.ref t1)) (V_t1 : Arv Z h0 t1 k1 .byte (1 : Int32) [(.int x0)] (.int 0)) (WW : World1 Z w_NUMBER w_SYMBOL w_NAME w_END w_STRING i_COMPACT_STRINGS v_SIOOBE_FORMATTER) :
    Con l Z (⟨"com/example/naysay/naysay/rules/Token", "isSymbol", "(Ljava/lang/String;)Z"⟩ : MethodName) prog_33_method_2_code 2 (some .boolean) ws ({ frames := 1, cells := 0, slots := 0, locals := 14 } : Room) #[(.ref a1), .null] h0 (fun v h L => v = some (.int (syI_1_N f1 w_SYMBOL x0)) ∧ Fr n0 L ∧ h = h0) := by
  refine own_body (plainFor_of_name pn_com_example_naysay_naysay_rules_Token) ?_
  intro p e s m below meth c s₁ hx hby hml hZ hown hnm hlk hret X0 e0
  have N0 := Fr.nil n0
  refine Go.st (T' := s₁) (f' := (mkF m 0 #[rv a1, .val .null] [])) (fun _ k => castTop (by first | (simp [entryFrame, mkF, argsToLocals, Value.category]; done) | rfl) k) ?_
  have ⟨S_i_COMPACT_STRINGS, nz_i_COMPACT_STRINGS, S_v_SIOOBE_FORMATTER, r_v_SIOOBE_FORMATTER, S_w_NUMBER, E_w_NUMBER, S_w_SYMBOL, E_w_SYMBOL, S_w_NAME, E_w_NAME, S_w_END, E_w_END, S_w_STRING, E_w_STRING, F_w_NUMBER_ordinal, F_w_SYMBOL_ordinal, F_w_NAME_ordinal, F_w_END_ordinal, F_w_STRING_ordinal⟩ := WW
  have lt_w_NUMBER := E_w_NUMBER.lt
  have lt_w_SYMBOL := E_w_SYMBOL.lt
  have lt_w_NAME := E_w_NAME.lt
  have lt_w_END := E_w_END.lt
  have lt_w_STRING := E_w_STRING.lt
  have lt_a1 := E_a1.lt
  have lt_s1 := E_s1.lt
  have lt_t1 := V_t1.lt
  refine Go.st (f' := (mkF m 1 #[rv a1, .val .null] [(.ref a1)])) (fun _ k => XS.aloadN X0.here hx rfl (hb hby d11_0) rfl rfl k) ?_
  obtain ⟨T1, X1, e1, st1⟩ := getF X0 hx hZ hown (host := "") (Or.inl (hw _ (List.mem_of_getElem? (i := 58) rfl))) Via.refl e0 F_a1_kind (g := (mkF m 1 #[rv a1, .val .null] [(.ref a1)])) rfl rfl (hb hby d11_1)
  refine Go.st (f' := (mkF m 4 #[rv a1, .val .null] [(.ref f1)])) (fun _ k => st1 _ k) ?_
  obtain ⟨T2, X2, e2, st2⟩ := getS2 X1 hx hZ hown (host := "") (Or.inl (hw _ (List.mem_of_getElem? (i := 69) rfl))) Via.refl e1 (S_w_SYMBOL.ext O0.2) (g := (mkF m 4 #[rv a1, .val .null] [(.ref f1)])) rfl (hb hby d11_4)
  refine Go.st (f' := (mkF m 7 #[rv a1, .val .null] [(.ref w_SYMBOL), (.ref f1)])) (fun _ k => st2 _ k) ?_
  by_cases cd3 : f1 = w_SYMBOL
  · refine Go.st (f' := (mkF m 10 #[rv a1, .val .null] [])) (fun _ k => Jvm.RoadKit.acmp (g := (mkF m 7 #[rv a1, .val .null] [(.ref w_SYMBOL), (.ref f1)])) X2 hx rfl rfl rfl (pc0 := 7) (pc' := 10) (same := true) rfl (hb hby d11_7) rfl (decide_eq_true (congrArg Value.ref cd3)) (by decide) (by decide) k) ?_
    refine Go.st (f' := (mkF m 11 #[rv a1, .val .null] [(.ref a1)])) (fun _ k => XS.aloadN X2.here hx rfl (hb hby d11_10) rfl rfl k) ?_
    obtain ⟨T4, X4, e4, st4⟩ := getF X2 hx hZ hown (host := "") (Or.inl (hw _ (List.mem_of_getElem? (i := 60) rfl))) Via.refl e2 F_a1_text (g := (mkF m 11 #[rv a1, .val .null] [(.ref a1)])) rfl rfl (hb hby d11_11)
    refine Go.st (f' := (mkF m 14 #[rv a1, .val .null] [(.ref s1)])) (fun _ k => st4 _ k) ?_
    refine Go.st (f' := (mkF m 15 #[rv a1, .val .null] [.null, (.ref s1)])) (fun _ k => XS.aloadN X4.here hx rfl (hb hby d11_14) rfl rfl k) ?_
    obtain ⟨cq5, kq5, q5a, q5b, q5c⟩ := isOf hZ e4 E_s1
    obtain ⟨_, _, ⟨T5, L5, kk5, nn5⟩, -, X5, ⟨Lc5, hQ5, lq5, yq5, zz5⟩, st5⟩ := X4.virtualBack hx (y := (⟨"java/lang/String", "equals", "(Ljava/lang/Object;)Z"⟩ : MethodName)) (z := (⟨"java/lang/String", "equals", "(Ljava/lang/Object;)Z"⟩ : MethodName)) hown (mvT hZ (hw _ (List.mem_of_getElem? (i := 76) rfl))) (mvT hZ (hw _ (List.mem_of_getElem? (i := 77) rfl))) (notFace_of_selects (args := #[]) (mvT hZ (hw _ (List.mem_of_getElem? (i := 79) rfl)))) (mvT hZ (hw _ (List.mem_of_getElem? (i := 79) rfl))) (mvT hZ (hw _ (List.mem_of_getElem? (i := 78) rfl))) (by decide) (own_back (W := 0) (eq_1_N l Z a0 hw [] s1 w_NUMBER w_SYMBOL w_NAME w_END w_STRING i_COMPACT_STRINGS v_SIOOBE_FORMATTER h0 n0 O0 WW) hZ (hw _ (List.mem_of_getElem? (i := 80) rfl)) (hw _ (List.mem_of_getElem? (i := 13) rfl)) (by decide) (by decide)) q5a q5c (g := (mkF m 15 #[rv a1, .val .null] [.null, (.ref s1)])) rfl (by rw [hml]; rfl) (Steps.refl _) (argsL := [.null]) (rest := []) (lenOf pd__Ljava_lang_Object__Z rfl) rfl (by show 2 * 0 + _ ≤ _; exact Nat.le_of_eq rfl) (hb hby d11_15) (fun _ _ => ⟨rfl, e4, (by decide : 0 + 0 ≤ _), (by decide : 0 + 0 ≤ _)⟩)
    dsimp only [Pt.U, Pt.locs, Pt.cells, Pt.slots] at X5 lq5 yq5 zz5 st5 hQ5
    subst lq5 yq5 zz5
    obtain ⟨rfl, Nq5, kq5⟩ := hQ5
    have N5 := Fr.app N0 Nq5
    refine Go.tr (f' := (mkF m 18 #[rv a1, .val .null] [(.int 0)])) st5 ?_
    refine Go.st (f' := (mkF m 25 #[rv a1, .val .null] [])) (fun _ k => XS.ifYes X5.here hx rfl (pc0 := 18) (pc' := 25) rfl (hb hby d11_18) rfl (by decide) (by decide) (by decide) k) ?_
    refine Go.st (f' := (mkF m 26 #[rv a1, .val .null] [(.int 0)])) (fun _ k => XS.iconst X5.here hx rfl (hb hby d11_25) k) ?_
    refine Go.retB X5 hlk hx (t := .boolean) hret (by simp) (hb hby d11_26) kq5 ?_ (by decide) (by decide)
    show (some (.int (0 : Int32)) : Option Value) = some (.int (syI_1_N f1 w_SYMBOL x0)) ∧ _
    exact ⟨by rw [syI_1_N, if_pos cd3], N5, rfl⟩
  · refine Go.st (f' := (mkF m 25 #[rv a1, .val .null] [])) (fun _ k => Jvm.RoadKit.acmp (g := (mkF m 7 #[rv a1, .val .null] [(.ref w_SYMBOL), (.ref f1)])) X2 hx rfl rfl rfl (pc0 := 7) (pc' := 25) (same := false) rfl (hb hby d11_7) rfl (decide_eq_false fun q => cd3 (Value.ref.inj q)) (by decide) (by decide) k) ?_
    refine Go.st (f' := (mkF m 26 #[rv a1, .val .null] [(.int 0)])) (fun _ k => XS.iconst X2.here hx rfl (hb hby d11_25) k) ?_
    refine Go.retB X2 hlk hx (t := .boolean) hret (by simp) (hb hby d11_26) e2 ?_ (by decide) (by decide)
    show (some (.int (0 : Int32)) : Option Value) = some (.int (syI_1_N f1 w_SYMBOL x0)) ∧ _
    exact ⟨by rw [syI_1_N, if_neg cd3], N0, rfl⟩
def syI_2_0 (f1 : Addr) (w_SYMBOL : Addr) (x0 : Int32) (x1 : Int32) : Int32 := (if f1 = w_SYMBOL then (if (eqI_2_0 x0 x1) = (0 : Int32) then (0 : Int32) else (1 : Int32)) else (0 : Int32))
set_option maxRecDepth 65536 in
set_option maxHeartbeats 40000000 in
theorem rmS_2_0 (l : Launch) (Z : State) (a0 : Array Value) (hw : ∀ d ∈ tables_1, d.before a0 Z = true) (ws : List Jvm.Cond) (a1 : Addr) (f1 : Addr) (s1 : Addr) (t1 : Addr) (k1 : ClassId) (s2 : Addr) (t2 : Addr) (k2 : ClassId) (x0 : Int32) (x1 : Int32) (w_NUMBER : Addr) (w_SYMBOL : Addr) (w_NAME : Addr) (w_END : Addr) (w_STRING : Addr) (i_COMPACT_STRINGS : Int32) (v_SIOOBE_FORMATTER : Value) (h0 : Heap) (n0 : Nat) (O0 : Old Z n0 h0) (E_a1 : Exa Z h0 a1 "com/example/naysay/naysay/rules/Token") (F_a1_kind : Fld Z h0 a1 "com/example/naysay/naysay/rules/Token" "kind" "Lcom/example/naysay/naysay/rules/Token$Kind;" (.ref f1)) (F_a1_text : Fld Z h0 a1 "com/example/naysay/naysay/rules/Token" "text" "Ljava/lang/String;" (.ref s1)) (E_s1 : Exa Z h0 s1 "java/lang/String") (F_s1_coder : Fld Z h0 s1 "java/lang/String" "coder" "B" (.int 0)) (F_s1_value : Fld Z h0 s1 "java/lang/String" "value" "[B" (.ref t1)) (V_t1 : Arv Z h0 t1 k1 .byte (2 : Int32) [(.int x0), (.int x1)] (.int 0)) (ne12 : s1 ≠ s2) (E_s2 : Exa Z h0 s2 "java/lang/String") (F_s2_coder : Fld Z h0 s2 "java/lang/String" "coder" "B" (.int 0)) (F_s2_value : Fld Z h0 s2 "java/lang/String" "value" "[B" (.ref t2)) (V_t2 : Arv Z h0 t2 k2 .byte (0 : Int32) [] (.int 0)) (WW : World1 Z w_NUMBER w_SYMBOL w_NAME w_END w_STRING i_COMPACT_STRINGS v_SIOOBE_FORMATTER) :
    Con l Z (⟨"com/example/naysay/naysay/rules/Token", "isSymbol", "(Ljava/lang/String;)Z"⟩ : MethodName) prog_33_method_2_code 2 (some .boolean) ws ({ frames := 2, cells := 0, slots := 0, locals := 28 } : Room) #[(.ref a1), (.ref s2)] h0 (fun v h L => v = some (.int (syI_2_0 f1 w_SYMBOL x0 x1)) ∧ Fr n0 L ∧ h = h0) := by
  refine own_body (plainFor_of_name pn_com_example_naysay_naysay_rules_Token) ?_
  intro p e s m below meth c s₁ hx hby hml hZ hown hnm hlk hret X0 e0
  have N0 := Fr.nil n0
  refine Go.st (T' := s₁) (f' := (mkF m 0 #[rv a1, rv s2] [])) (fun _ k => castTop (by first | (simp [entryFrame, mkF, argsToLocals, Value.category]; done) | rfl) k) ?_
  have ⟨S_i_COMPACT_STRINGS, nz_i_COMPACT_STRINGS, S_v_SIOOBE_FORMATTER, r_v_SIOOBE_FORMATTER, S_w_NUMBER, E_w_NUMBER, S_w_SYMBOL, E_w_SYMBOL, S_w_NAME, E_w_NAME, S_w_END, E_w_END, S_w_STRING, E_w_STRING, F_w_NUMBER_ordinal, F_w_SYMBOL_ordinal, F_w_NAME_ordinal, F_w_END_ordinal, F_w_STRING_ordinal⟩ := WW
  have lt_w_NUMBER := E_w_NUMBER.lt
  have lt_w_SYMBOL := E_w_SYMBOL.lt
  have lt_w_NAME := E_w_NAME.lt
  have lt_w_END := E_w_END.lt
  have lt_w_STRING := E_w_STRING.lt
  have lt_a1 := E_a1.lt
  have lt_s1 := E_s1.lt
  have lt_t1 := V_t1.lt
  have lt_s2 := E_s2.lt
  have lt_t2 := V_t2.lt
  refine Go.st (f' := (mkF m 1 #[rv a1, rv s2] [(.ref a1)])) (fun _ k => XS.aloadN X0.here hx rfl (hb hby d11_0) rfl rfl k) ?_
  obtain ⟨T1, X1, e1, st1⟩ := getF X0 hx hZ hown (host := "") (Or.inl (hw _ (List.mem_of_getElem? (i := 58) rfl))) Via.refl e0 F_a1_kind (g := (mkF m 1 #[rv a1, rv s2] [(.ref a1)])) rfl rfl (hb hby d11_1)
  refine Go.st (f' := (mkF m 4 #[rv a1, rv s2] [(.ref f1)])) (fun _ k => st1 _ k) ?_
  obtain ⟨T2, X2, e2, st2⟩ := getS2 X1 hx hZ hown (host := "") (Or.inl (hw _ (List.mem_of_getElem? (i := 69) rfl))) Via.refl e1 (S_w_SYMBOL.ext O0.2) (g := (mkF m 4 #[rv a1, rv s2] [(.ref f1)])) rfl (hb hby d11_4)
  refine Go.st (f' := (mkF m 7 #[rv a1, rv s2] [(.ref w_SYMBOL), (.ref f1)])) (fun _ k => st2 _ k) ?_
  by_cases cd3 : f1 = w_SYMBOL
  · refine Go.st (f' := (mkF m 10 #[rv a1, rv s2] [])) (fun _ k => Jvm.RoadKit.acmp (g := (mkF m 7 #[rv a1, rv s2] [(.ref w_SYMBOL), (.ref f1)])) X2 hx rfl rfl rfl (pc0 := 7) (pc' := 10) (same := true) rfl (hb hby d11_7) rfl (decide_eq_true (congrArg Value.ref cd3)) (by decide) (by decide) k) ?_
    refine Go.st (f' := (mkF m 11 #[rv a1, rv s2] [(.ref a1)])) (fun _ k => XS.aloadN X2.here hx rfl (hb hby d11_10) rfl rfl k) ?_
    obtain ⟨T4, X4, e4, st4⟩ := getF X2 hx hZ hown (host := "") (Or.inl (hw _ (List.mem_of_getElem? (i := 60) rfl))) Via.refl e2 F_a1_text (g := (mkF m 11 #[rv a1, rv s2] [(.ref a1)])) rfl rfl (hb hby d11_11)
    refine Go.st (f' := (mkF m 14 #[rv a1, rv s2] [(.ref s1)])) (fun _ k => st4 _ k) ?_
    refine Go.st (f' := (mkF m 15 #[rv a1, rv s2] [(.ref s2), (.ref s1)])) (fun _ k => XS.aloadN X4.here hx rfl (hb hby d11_14) rfl rfl k) ?_
    obtain ⟨cq5, kq5, q5a, q5b, q5c⟩ := isOf hZ e4 E_s1
    obtain ⟨_, _, ⟨T5, L5, kk5, nn5⟩, -, X5, ⟨Lc5, hQ5, lq5, yq5, zz5⟩, st5⟩ := X4.virtualBack hx (y := (⟨"java/lang/String", "equals", "(Ljava/lang/Object;)Z"⟩ : MethodName)) (z := (⟨"java/lang/String", "equals", "(Ljava/lang/Object;)Z"⟩ : MethodName)) hown (mvT hZ (hw _ (List.mem_of_getElem? (i := 76) rfl))) (mvT hZ (hw _ (List.mem_of_getElem? (i := 77) rfl))) (notFace_of_selects (args := #[]) (mvT hZ (hw _ (List.mem_of_getElem? (i := 79) rfl)))) (mvT hZ (hw _ (List.mem_of_getElem? (i := 79) rfl))) (mvT hZ (hw _ (List.mem_of_getElem? (i := 78) rfl))) (by decide) (own_back (W := 0) (eq_2_0 l Z a0 hw [] s1 s2 t1 k1 t2 k2 x0 x1 w_NUMBER w_SYMBOL w_NAME w_END w_STRING i_COMPACT_STRINGS v_SIOOBE_FORMATTER h0 n0 O0 ne12 E_s1 F_s1_coder F_s1_value E_s2 F_s2_coder F_s2_value V_t1 V_t2 WW) hZ (hw _ (List.mem_of_getElem? (i := 80) rfl)) (hw _ (List.mem_of_getElem? (i := 13) rfl)) (by decide) (by decide)) q5a q5c (g := (mkF m 15 #[rv a1, rv s2] [(.ref s2), (.ref s1)])) rfl (by rw [hml]; rfl) (Steps.refl _) (argsL := [(.ref s2)]) (rest := []) (lenOf pd__Ljava_lang_Object__Z rfl) rfl (by show 2 * 0 + _ ≤ _; exact Nat.le_of_eq rfl) (hb hby d11_15) (fun _ _ => ⟨rfl, e4, (by decide : 0 + 0 ≤ _), (by decide : 0 + 0 ≤ _)⟩)
    dsimp only [Pt.U, Pt.locs, Pt.cells, Pt.slots] at X5 lq5 yq5 zz5 st5 hQ5
    subst lq5 yq5 zz5
    obtain ⟨rfl, Nq5, kq5⟩ := hQ5
    have N5 := Fr.app N0 Nq5
    refine Go.tr (f' := (mkF m 18 #[rv a1, rv s2] [(.int (eqI_2_0 x0 x1))])) st5 ?_
    by_cases cd6 : (eqI_2_0 x0 x1) = (0 : Int32)
    · refine Go.st (f' := (mkF m 25 #[rv a1, rv s2] [])) (fun _ k => XS.ifYes X5.here hx rfl (pc0 := 18) (pc' := 25) rfl (hb hby d11_18) rfl ((if0 _ _).trans (teq cd6).1) (by decide) (by decide) k) ?_
      refine Go.st (f' := (mkF m 26 #[rv a1, rv s2] [(.int 0)])) (fun _ k => XS.iconst X5.here hx rfl (hb hby d11_25) k) ?_
      refine Go.retB X5 hlk hx (t := .boolean) hret (by simp) (hb hby d11_26) kq5 ?_ (by decide) (by decide)
      show (some (.int (0 : Int32)) : Option Value) = some (.int (syI_2_0 f1 w_SYMBOL x0 x1)) ∧ _
      exact ⟨by rw [syI_2_0, if_pos cd3, if_pos cd6], N5, rfl⟩
    · refine Go.st (f' := (mkF m 21 #[rv a1, rv s2] [])) (fun _ k => XS.ifNo X5.here hx rfl (hb hby d11_18) rfl ((if0 _ _).trans (feq cd6).1) k) ?_
      refine Go.st (f' := (mkF m 22 #[rv a1, rv s2] [(.int 1)])) (fun _ k => XS.iconst X5.here hx rfl (hb hby d11_21) k) ?_
      refine Go.st (f' := (mkF m 26 #[rv a1, rv s2] [(.int 1)])) (fun _ k => XS.goto X5.here hx rfl (pc0 := 22) (pc' := 26) rfl (hb hby d11_22) (by decide) (by decide) k) ?_
      refine Go.retB X5 hlk hx (t := .boolean) hret (by simp) (hb hby d11_26) kq5 ?_ (by decide) (by decide)
      show (some (.int (1 : Int32)) : Option Value) = some (.int (syI_2_0 f1 w_SYMBOL x0 x1)) ∧ _
      exact ⟨by rw [syI_2_0, if_pos cd3, if_neg cd6], N5, rfl⟩
  · refine Go.st (f' := (mkF m 25 #[rv a1, rv s2] [])) (fun _ k => Jvm.RoadKit.acmp (g := (mkF m 7 #[rv a1, rv s2] [(.ref w_SYMBOL), (.ref f1)])) X2 hx rfl rfl rfl (pc0 := 7) (pc' := 25) (same := false) rfl (hb hby d11_7) rfl (decide_eq_false fun q => cd3 (Value.ref.inj q)) (by decide) (by decide) k) ?_
    refine Go.st (f' := (mkF m 26 #[rv a1, rv s2] [(.int 0)])) (fun _ k => XS.iconst X2.here hx rfl (hb hby d11_25) k) ?_
    refine Go.retB X2 hlk hx (t := .boolean) hret (by simp) (hb hby d11_26) e2 ?_ (by decide) (by decide)
    show (some (.int (0 : Int32)) : Option Value) = some (.int (syI_2_0 f1 w_SYMBOL x0 x1)) ∧ _
    exact ⟨by rw [syI_2_0, if_neg cd3], N0, rfl⟩
def syI_2_1 (f1 : Addr) (w_SYMBOL : Addr) (x0 : Int32) (x1 : Int32) (y0 : Int32) : Int32 := (if f1 = w_SYMBOL then (if (eqI_2_1 x0 x1 y0) = (0 : Int32) then (0 : Int32) else (1 : Int32)) else (0 : Int32))
set_option maxRecDepth 65536 in
set_option maxHeartbeats 40000000 in
theorem rmS_2_1 (l : Launch) (Z : State) (a0 : Array Value) (hw : ∀ d ∈ tables_1, d.before a0 Z = true) (ws : List Jvm.Cond) (a1 : Addr) (f1 : Addr) (s1 : Addr) (t1 : Addr) (k1 : ClassId) (s2 : Addr) (t2 : Addr) (k2 : ClassId) (x0 : Int32) (x1 : Int32) (y0 : Int32) (w_NUMBER : Addr) (w_SYMBOL : Addr) (w_NAME : Addr) (w_END : Addr) (w_STRING : Addr) (i_COMPACT_STRINGS : Int32) (v_SIOOBE_FORMATTER : Value) (h0 : Heap) (n0 : Nat) (O0 : Old Z n0 h0) (E_a1 : Exa Z h0 a1 "com/example/naysay/naysay/rules/Token") (F_a1_kind : Fld Z h0 a1 "com/example/naysay/naysay/rules/Token" "kind" "Lcom/example/naysay/naysay/rules/Token$Kind;" (.ref f1)) (F_a1_text : Fld Z h0 a1 "com/example/naysay/naysay/rules/Token" "text" "Ljava/lang/String;" (.ref s1)) (E_s1 : Exa Z h0 s1 "java/lang/String") (F_s1_coder : Fld Z h0 s1 "java/lang/String" "coder" "B" (.int 0)) (F_s1_value : Fld Z h0 s1 "java/lang/String" "value" "[B" (.ref t1)) (V_t1 : Arv Z h0 t1 k1 .byte (2 : Int32) [(.int x0), (.int x1)] (.int 0)) (ne12 : s1 ≠ s2) (E_s2 : Exa Z h0 s2 "java/lang/String") (F_s2_coder : Fld Z h0 s2 "java/lang/String" "coder" "B" (.int 0)) (F_s2_value : Fld Z h0 s2 "java/lang/String" "value" "[B" (.ref t2)) (V_t2 : Arv Z h0 t2 k2 .byte (1 : Int32) [(.int y0)] (.int 0)) (WW : World1 Z w_NUMBER w_SYMBOL w_NAME w_END w_STRING i_COMPACT_STRINGS v_SIOOBE_FORMATTER) :
    Con l Z (⟨"com/example/naysay/naysay/rules/Token", "isSymbol", "(Ljava/lang/String;)Z"⟩ : MethodName) prog_33_method_2_code 2 (some .boolean) ws ({ frames := 2, cells := 0, slots := 0, locals := 28 } : Room) #[(.ref a1), (.ref s2)] h0 (fun v h L => v = some (.int (syI_2_1 f1 w_SYMBOL x0 x1 y0)) ∧ Fr n0 L ∧ h = h0) := by
  refine own_body (plainFor_of_name pn_com_example_naysay_naysay_rules_Token) ?_
  intro p e s m below meth c s₁ hx hby hml hZ hown hnm hlk hret X0 e0
  have N0 := Fr.nil n0
  refine Go.st (T' := s₁) (f' := (mkF m 0 #[rv a1, rv s2] [])) (fun _ k => castTop (by first | (simp [entryFrame, mkF, argsToLocals, Value.category]; done) | rfl) k) ?_
  have ⟨S_i_COMPACT_STRINGS, nz_i_COMPACT_STRINGS, S_v_SIOOBE_FORMATTER, r_v_SIOOBE_FORMATTER, S_w_NUMBER, E_w_NUMBER, S_w_SYMBOL, E_w_SYMBOL, S_w_NAME, E_w_NAME, S_w_END, E_w_END, S_w_STRING, E_w_STRING, F_w_NUMBER_ordinal, F_w_SYMBOL_ordinal, F_w_NAME_ordinal, F_w_END_ordinal, F_w_STRING_ordinal⟩ := WW
  have lt_w_NUMBER := E_w_NUMBER.lt
  have lt_w_SYMBOL := E_w_SYMBOL.lt
  have lt_w_NAME := E_w_NAME.lt
  have lt_w_END := E_w_END.lt
  have lt_w_STRING := E_w_STRING.lt
  have lt_a1 := E_a1.lt
  have lt_s1 := E_s1.lt
  have lt_t1 := V_t1.lt
  have lt_s2 := E_s2.lt
  have lt_t2 := V_t2.lt
  refine Go.st (f' := (mkF m 1 #[rv a1, rv s2] [(.ref a1)])) (fun _ k => XS.aloadN X0.here hx rfl (hb hby d11_0) rfl rfl k) ?_
  obtain ⟨T1, X1, e1, st1⟩ := getF X0 hx hZ hown (host := "") (Or.inl (hw _ (List.mem_of_getElem? (i := 58) rfl))) Via.refl e0 F_a1_kind (g := (mkF m 1 #[rv a1, rv s2] [(.ref a1)])) rfl rfl (hb hby d11_1)
  refine Go.st (f' := (mkF m 4 #[rv a1, rv s2] [(.ref f1)])) (fun _ k => st1 _ k) ?_
  obtain ⟨T2, X2, e2, st2⟩ := getS2 X1 hx hZ hown (host := "") (Or.inl (hw _ (List.mem_of_getElem? (i := 69) rfl))) Via.refl e1 (S_w_SYMBOL.ext O0.2) (g := (mkF m 4 #[rv a1, rv s2] [(.ref f1)])) rfl (hb hby d11_4)
  refine Go.st (f' := (mkF m 7 #[rv a1, rv s2] [(.ref w_SYMBOL), (.ref f1)])) (fun _ k => st2 _ k) ?_
  by_cases cd3 : f1 = w_SYMBOL
  · refine Go.st (f' := (mkF m 10 #[rv a1, rv s2] [])) (fun _ k => Jvm.RoadKit.acmp (g := (mkF m 7 #[rv a1, rv s2] [(.ref w_SYMBOL), (.ref f1)])) X2 hx rfl rfl rfl (pc0 := 7) (pc' := 10) (same := true) rfl (hb hby d11_7) rfl (decide_eq_true (congrArg Value.ref cd3)) (by decide) (by decide) k) ?_
    refine Go.st (f' := (mkF m 11 #[rv a1, rv s2] [(.ref a1)])) (fun _ k => XS.aloadN X2.here hx rfl (hb hby d11_10) rfl rfl k) ?_
    obtain ⟨T4, X4, e4, st4⟩ := getF X2 hx hZ hown (host := "") (Or.inl (hw _ (List.mem_of_getElem? (i := 60) rfl))) Via.refl e2 F_a1_text (g := (mkF m 11 #[rv a1, rv s2] [(.ref a1)])) rfl rfl (hb hby d11_11)
    refine Go.st (f' := (mkF m 14 #[rv a1, rv s2] [(.ref s1)])) (fun _ k => st4 _ k) ?_
    refine Go.st (f' := (mkF m 15 #[rv a1, rv s2] [(.ref s2), (.ref s1)])) (fun _ k => XS.aloadN X4.here hx rfl (hb hby d11_14) rfl rfl k) ?_
    obtain ⟨cq5, kq5, q5a, q5b, q5c⟩ := isOf hZ e4 E_s1
    obtain ⟨_, _, ⟨T5, L5, kk5, nn5⟩, -, X5, ⟨Lc5, hQ5, lq5, yq5, zz5⟩, st5⟩ := X4.virtualBack hx (y := (⟨"java/lang/String", "equals", "(Ljava/lang/Object;)Z"⟩ : MethodName)) (z := (⟨"java/lang/String", "equals", "(Ljava/lang/Object;)Z"⟩ : MethodName)) hown (mvT hZ (hw _ (List.mem_of_getElem? (i := 76) rfl))) (mvT hZ (hw _ (List.mem_of_getElem? (i := 77) rfl))) (notFace_of_selects (args := #[]) (mvT hZ (hw _ (List.mem_of_getElem? (i := 79) rfl)))) (mvT hZ (hw _ (List.mem_of_getElem? (i := 79) rfl))) (mvT hZ (hw _ (List.mem_of_getElem? (i := 78) rfl))) (by decide) (own_back (W := 0) (eq_2_1 l Z a0 hw [] s1 s2 t1 k1 t2 k2 x0 x1 y0 w_NUMBER w_SYMBOL w_NAME w_END w_STRING i_COMPACT_STRINGS v_SIOOBE_FORMATTER h0 n0 O0 ne12 E_s1 F_s1_coder F_s1_value E_s2 F_s2_coder F_s2_value V_t1 V_t2 WW) hZ (hw _ (List.mem_of_getElem? (i := 80) rfl)) (hw _ (List.mem_of_getElem? (i := 13) rfl)) (by decide) (by decide)) q5a q5c (g := (mkF m 15 #[rv a1, rv s2] [(.ref s2), (.ref s1)])) rfl (by rw [hml]; rfl) (Steps.refl _) (argsL := [(.ref s2)]) (rest := []) (lenOf pd__Ljava_lang_Object__Z rfl) rfl (by show 2 * 0 + _ ≤ _; exact Nat.le_of_eq rfl) (hb hby d11_15) (fun _ _ => ⟨rfl, e4, (by decide : 0 + 0 ≤ _), (by decide : 0 + 0 ≤ _)⟩)
    dsimp only [Pt.U, Pt.locs, Pt.cells, Pt.slots] at X5 lq5 yq5 zz5 st5 hQ5
    subst lq5 yq5 zz5
    obtain ⟨rfl, Nq5, kq5⟩ := hQ5
    have N5 := Fr.app N0 Nq5
    refine Go.tr (f' := (mkF m 18 #[rv a1, rv s2] [(.int (eqI_2_1 x0 x1 y0))])) st5 ?_
    by_cases cd6 : (eqI_2_1 x0 x1 y0) = (0 : Int32)
    · refine Go.st (f' := (mkF m 25 #[rv a1, rv s2] [])) (fun _ k => XS.ifYes X5.here hx rfl (pc0 := 18) (pc' := 25) rfl (hb hby d11_18) rfl ((if0 _ _).trans (teq cd6).1) (by decide) (by decide) k) ?_
      refine Go.st (f' := (mkF m 26 #[rv a1, rv s2] [(.int 0)])) (fun _ k => XS.iconst X5.here hx rfl (hb hby d11_25) k) ?_
      refine Go.retB X5 hlk hx (t := .boolean) hret (by simp) (hb hby d11_26) kq5 ?_ (by decide) (by decide)
      show (some (.int (0 : Int32)) : Option Value) = some (.int (syI_2_1 f1 w_SYMBOL x0 x1 y0)) ∧ _
      exact ⟨by rw [syI_2_1, if_pos cd3, if_pos cd6], N5, rfl⟩
    · refine Go.st (f' := (mkF m 21 #[rv a1, rv s2] [])) (fun _ k => XS.ifNo X5.here hx rfl (hb hby d11_18) rfl ((if0 _ _).trans (feq cd6).1) k) ?_
      refine Go.st (f' := (mkF m 22 #[rv a1, rv s2] [(.int 1)])) (fun _ k => XS.iconst X5.here hx rfl (hb hby d11_21) k) ?_
      refine Go.st (f' := (mkF m 26 #[rv a1, rv s2] [(.int 1)])) (fun _ k => XS.goto X5.here hx rfl (pc0 := 22) (pc' := 26) rfl (hb hby d11_22) (by decide) (by decide) k) ?_
      refine Go.retB X5 hlk hx (t := .boolean) hret (by simp) (hb hby d11_26) kq5 ?_ (by decide) (by decide)
      show (some (.int (1 : Int32)) : Option Value) = some (.int (syI_2_1 f1 w_SYMBOL x0 x1 y0)) ∧ _
      exact ⟨by rw [syI_2_1, if_pos cd3, if_neg cd6], N5, rfl⟩
  · refine Go.st (f' := (mkF m 25 #[rv a1, rv s2] [])) (fun _ k => Jvm.RoadKit.acmp (g := (mkF m 7 #[rv a1, rv s2] [(.ref w_SYMBOL), (.ref f1)])) X2 hx rfl rfl rfl (pc0 := 7) (pc' := 25) (same := false) rfl (hb hby d11_7) rfl (decide_eq_false fun q => cd3 (Value.ref.inj q)) (by decide) (by decide) k) ?_
    refine Go.st (f' := (mkF m 26 #[rv a1, rv s2] [(.int 0)])) (fun _ k => XS.iconst X2.here hx rfl (hb hby d11_25) k) ?_
    refine Go.retB X2 hlk hx (t := .boolean) hret (by simp) (hb hby d11_26) e2 ?_ (by decide) (by decide)
    show (some (.int (0 : Int32)) : Option Value) = some (.int (syI_2_1 f1 w_SYMBOL x0 x1 y0)) ∧ _
    exact ⟨by rw [syI_2_1, if_neg cd3], N0, rfl⟩
def syI_2_2 (f1 : Addr) (w_SYMBOL : Addr) (x0 : Int32) (x1 : Int32) (y0 : Int32) (y1 : Int32) : Int32 := (if f1 = w_SYMBOL then (if (eqI_2_2 x0 x1 y0 y1) = (0 : Int32) then (0 : Int32) else (1 : Int32)) else (0 : Int32))
set_option maxRecDepth 65536 in
set_option maxHeartbeats 40000000 in
theorem rmS_2_2 (l : Launch) (Z : State) (a0 : Array Value) (hw : ∀ d ∈ tables_1, d.before a0 Z = true) (ws : List Jvm.Cond) (a1 : Addr) (f1 : Addr) (s1 : Addr) (t1 : Addr) (k1 : ClassId) (s2 : Addr) (t2 : Addr) (k2 : ClassId) (x0 : Int32) (x1 : Int32) (y0 : Int32) (y1 : Int32) (w_NUMBER : Addr) (w_SYMBOL : Addr) (w_NAME : Addr) (w_END : Addr) (w_STRING : Addr) (i_COMPACT_STRINGS : Int32) (v_SIOOBE_FORMATTER : Value) (h0 : Heap) (n0 : Nat) (O0 : Old Z n0 h0) (E_a1 : Exa Z h0 a1 "com/example/naysay/naysay/rules/Token") (F_a1_kind : Fld Z h0 a1 "com/example/naysay/naysay/rules/Token" "kind" "Lcom/example/naysay/naysay/rules/Token$Kind;" (.ref f1)) (F_a1_text : Fld Z h0 a1 "com/example/naysay/naysay/rules/Token" "text" "Ljava/lang/String;" (.ref s1)) (E_s1 : Exa Z h0 s1 "java/lang/String") (F_s1_coder : Fld Z h0 s1 "java/lang/String" "coder" "B" (.int 0)) (F_s1_value : Fld Z h0 s1 "java/lang/String" "value" "[B" (.ref t1)) (V_t1 : Arv Z h0 t1 k1 .byte (2 : Int32) [(.int x0), (.int x1)] (.int 0)) (ne12 : s1 ≠ s2) (E_s2 : Exa Z h0 s2 "java/lang/String") (F_s2_coder : Fld Z h0 s2 "java/lang/String" "coder" "B" (.int 0)) (F_s2_value : Fld Z h0 s2 "java/lang/String" "value" "[B" (.ref t2)) (V_t2 : Arv Z h0 t2 k2 .byte (2 : Int32) [(.int y0), (.int y1)] (.int 0)) (WW : World1 Z w_NUMBER w_SYMBOL w_NAME w_END w_STRING i_COMPACT_STRINGS v_SIOOBE_FORMATTER) :
    Con l Z (⟨"com/example/naysay/naysay/rules/Token", "isSymbol", "(Ljava/lang/String;)Z"⟩ : MethodName) prog_33_method_2_code 2 (some .boolean) ws ({ frames := 2, cells := 0, slots := 0, locals := 28 } : Room) #[(.ref a1), (.ref s2)] h0 (fun v h L => v = some (.int (syI_2_2 f1 w_SYMBOL x0 x1 y0 y1)) ∧ Fr n0 L ∧ h = h0) := by
  refine own_body (plainFor_of_name pn_com_example_naysay_naysay_rules_Token) ?_
  intro p e s m below meth c s₁ hx hby hml hZ hown hnm hlk hret X0 e0
  have N0 := Fr.nil n0
  refine Go.st (T' := s₁) (f' := (mkF m 0 #[rv a1, rv s2] [])) (fun _ k => castTop (by first | (simp [entryFrame, mkF, argsToLocals, Value.category]; done) | rfl) k) ?_
  have ⟨S_i_COMPACT_STRINGS, nz_i_COMPACT_STRINGS, S_v_SIOOBE_FORMATTER, r_v_SIOOBE_FORMATTER, S_w_NUMBER, E_w_NUMBER, S_w_SYMBOL, E_w_SYMBOL, S_w_NAME, E_w_NAME, S_w_END, E_w_END, S_w_STRING, E_w_STRING, F_w_NUMBER_ordinal, F_w_SYMBOL_ordinal, F_w_NAME_ordinal, F_w_END_ordinal, F_w_STRING_ordinal⟩ := WW
  have lt_w_NUMBER := E_w_NUMBER.lt
  have lt_w_SYMBOL := E_w_SYMBOL.lt
  have lt_w_NAME := E_w_NAME.lt
  have lt_w_END := E_w_END.lt
  have lt_w_STRING := E_w_STRING.lt
  have lt_a1 := E_a1.lt
  have lt_s1 := E_s1.lt
  have lt_t1 := V_t1.lt
  have lt_s2 := E_s2.lt
  have lt_t2 := V_t2.lt
  refine Go.st (f' := (mkF m 1 #[rv a1, rv s2] [(.ref a1)])) (fun _ k => XS.aloadN X0.here hx rfl (hb hby d11_0) rfl rfl k) ?_
  obtain ⟨T1, X1, e1, st1⟩ := getF X0 hx hZ hown (host := "") (Or.inl (hw _ (List.mem_of_getElem? (i := 58) rfl))) Via.refl e0 F_a1_kind (g := (mkF m 1 #[rv a1, rv s2] [(.ref a1)])) rfl rfl (hb hby d11_1)
  refine Go.st (f' := (mkF m 4 #[rv a1, rv s2] [(.ref f1)])) (fun _ k => st1 _ k) ?_
  obtain ⟨T2, X2, e2, st2⟩ := getS2 X1 hx hZ hown (host := "") (Or.inl (hw _ (List.mem_of_getElem? (i := 69) rfl))) Via.refl e1 (S_w_SYMBOL.ext O0.2) (g := (mkF m 4 #[rv a1, rv s2] [(.ref f1)])) rfl (hb hby d11_4)
  refine Go.st (f' := (mkF m 7 #[rv a1, rv s2] [(.ref w_SYMBOL), (.ref f1)])) (fun _ k => st2 _ k) ?_
  by_cases cd3 : f1 = w_SYMBOL
  · refine Go.st (f' := (mkF m 10 #[rv a1, rv s2] [])) (fun _ k => Jvm.RoadKit.acmp (g := (mkF m 7 #[rv a1, rv s2] [(.ref w_SYMBOL), (.ref f1)])) X2 hx rfl rfl rfl (pc0 := 7) (pc' := 10) (same := true) rfl (hb hby d11_7) rfl (decide_eq_true (congrArg Value.ref cd3)) (by decide) (by decide) k) ?_
    refine Go.st (f' := (mkF m 11 #[rv a1, rv s2] [(.ref a1)])) (fun _ k => XS.aloadN X2.here hx rfl (hb hby d11_10) rfl rfl k) ?_
    obtain ⟨T4, X4, e4, st4⟩ := getF X2 hx hZ hown (host := "") (Or.inl (hw _ (List.mem_of_getElem? (i := 60) rfl))) Via.refl e2 F_a1_text (g := (mkF m 11 #[rv a1, rv s2] [(.ref a1)])) rfl rfl (hb hby d11_11)
    refine Go.st (f' := (mkF m 14 #[rv a1, rv s2] [(.ref s1)])) (fun _ k => st4 _ k) ?_
    refine Go.st (f' := (mkF m 15 #[rv a1, rv s2] [(.ref s2), (.ref s1)])) (fun _ k => XS.aloadN X4.here hx rfl (hb hby d11_14) rfl rfl k) ?_
    obtain ⟨cq5, kq5, q5a, q5b, q5c⟩ := isOf hZ e4 E_s1
    obtain ⟨_, _, ⟨T5, L5, kk5, nn5⟩, -, X5, ⟨Lc5, hQ5, lq5, yq5, zz5⟩, st5⟩ := X4.virtualBack hx (y := (⟨"java/lang/String", "equals", "(Ljava/lang/Object;)Z"⟩ : MethodName)) (z := (⟨"java/lang/String", "equals", "(Ljava/lang/Object;)Z"⟩ : MethodName)) hown (mvT hZ (hw _ (List.mem_of_getElem? (i := 76) rfl))) (mvT hZ (hw _ (List.mem_of_getElem? (i := 77) rfl))) (notFace_of_selects (args := #[]) (mvT hZ (hw _ (List.mem_of_getElem? (i := 79) rfl)))) (mvT hZ (hw _ (List.mem_of_getElem? (i := 79) rfl))) (mvT hZ (hw _ (List.mem_of_getElem? (i := 78) rfl))) (by decide) (own_back (W := 0) (eq_2_2 l Z a0 hw [] s1 s2 t1 k1 t2 k2 x0 x1 y0 y1 w_NUMBER w_SYMBOL w_NAME w_END w_STRING i_COMPACT_STRINGS v_SIOOBE_FORMATTER h0 n0 O0 ne12 E_s1 F_s1_coder F_s1_value E_s2 F_s2_coder F_s2_value V_t1 V_t2 WW) hZ (hw _ (List.mem_of_getElem? (i := 80) rfl)) (hw _ (List.mem_of_getElem? (i := 13) rfl)) (by decide) (by decide)) q5a q5c (g := (mkF m 15 #[rv a1, rv s2] [(.ref s2), (.ref s1)])) rfl (by rw [hml]; rfl) (Steps.refl _) (argsL := [(.ref s2)]) (rest := []) (lenOf pd__Ljava_lang_Object__Z rfl) rfl (by show 2 * 0 + _ ≤ _; exact Nat.le_of_eq rfl) (hb hby d11_15) (fun _ _ => ⟨rfl, e4, (by decide : 0 + 0 ≤ _), (by decide : 0 + 0 ≤ _)⟩)
    dsimp only [Pt.U, Pt.locs, Pt.cells, Pt.slots] at X5 lq5 yq5 zz5 st5 hQ5
    subst lq5 yq5 zz5
    obtain ⟨rfl, Nq5, kq5⟩ := hQ5
    have N5 := Fr.app N0 Nq5
    refine Go.tr (f' := (mkF m 18 #[rv a1, rv s2] [(.int (eqI_2_2 x0 x1 y0 y1))])) st5 ?_
    by_cases cd6 : (eqI_2_2 x0 x1 y0 y1) = (0 : Int32)
    · refine Go.st (f' := (mkF m 25 #[rv a1, rv s2] [])) (fun _ k => XS.ifYes X5.here hx rfl (pc0 := 18) (pc' := 25) rfl (hb hby d11_18) rfl ((if0 _ _).trans (teq cd6).1) (by decide) (by decide) k) ?_
      refine Go.st (f' := (mkF m 26 #[rv a1, rv s2] [(.int 0)])) (fun _ k => XS.iconst X5.here hx rfl (hb hby d11_25) k) ?_
      refine Go.retB X5 hlk hx (t := .boolean) hret (by simp) (hb hby d11_26) kq5 ?_ (by decide) (by decide)
      show (some (.int (0 : Int32)) : Option Value) = some (.int (syI_2_2 f1 w_SYMBOL x0 x1 y0 y1)) ∧ _
      exact ⟨by rw [syI_2_2, if_pos cd3, if_pos cd6], N5, rfl⟩
    · refine Go.st (f' := (mkF m 21 #[rv a1, rv s2] [])) (fun _ k => XS.ifNo X5.here hx rfl (hb hby d11_18) rfl ((if0 _ _).trans (feq cd6).1) k) ?_
      refine Go.st (f' := (mkF m 22 #[rv a1, rv s2] [(.int 1)])) (fun _ k => XS.iconst X5.here hx rfl (hb hby d11_21) k) ?_
      refine Go.st (f' := (mkF m 26 #[rv a1, rv s2] [(.int 1)])) (fun _ k => XS.goto X5.here hx rfl (pc0 := 22) (pc' := 26) rfl (hb hby d11_22) (by decide) (by decide) k) ?_
      refine Go.retB X5 hlk hx (t := .boolean) hret (by simp) (hb hby d11_26) kq5 ?_ (by decide) (by decide)
      show (some (.int (1 : Int32)) : Option Value) = some (.int (syI_2_2 f1 w_SYMBOL x0 x1 y0 y1)) ∧ _
      exact ⟨by rw [syI_2_2, if_pos cd3, if_neg cd6], N5, rfl⟩
  · refine Go.st (f' := (mkF m 25 #[rv a1, rv s2] [])) (fun _ k => Jvm.RoadKit.acmp (g := (mkF m 7 #[rv a1, rv s2] [(.ref w_SYMBOL), (.ref f1)])) X2 hx rfl rfl rfl (pc0 := 7) (pc' := 25) (same := false) rfl (hb hby d11_7) rfl (decide_eq_false fun q => cd3 (Value.ref.inj q)) (by decide) (by decide) k) ?_
    refine Go.st (f' := (mkF m 26 #[rv a1, rv s2] [(.int 0)])) (fun _ k => XS.iconst X2.here hx rfl (hb hby d11_25) k) ?_
    refine Go.retB X2 hlk hx (t := .boolean) hret (by simp) (hb hby d11_26) e2 ?_ (by decide) (by decide)
    show (some (.int (0 : Int32)) : Option Value) = some (.int (syI_2_2 f1 w_SYMBOL x0 x1 y0 y1)) ∧ _
    exact ⟨by rw [syI_2_2, if_neg cd3], N0, rfl⟩
def syI_2_N (f1 : Addr) (w_SYMBOL : Addr) (x0 : Int32) (x1 : Int32) : Int32 := (if f1 = w_SYMBOL then (0 : Int32) else (0 : Int32))
set_option maxRecDepth 65536 in
set_option maxHeartbeats 40000000 in
theorem rmS_2_N (l : Launch) (Z : State) (a0 : Array Value) (hw : ∀ d ∈ tables_1, d.before a0 Z = true) (ws : List Jvm.Cond) (a1 : Addr) (f1 : Addr) (s1 : Addr) (t1 : Addr) (k1 : ClassId) (x0 : Int32) (x1 : Int32) (w_NUMBER : Addr) (w_SYMBOL : Addr) (w_NAME : Addr) (w_END : Addr) (w_STRING : Addr) (i_COMPACT_STRINGS : Int32) (v_SIOOBE_FORMATTER : Value) (h0 : Heap) (n0 : Nat) (O0 : Old Z n0 h0) (E_a1 : Exa Z h0 a1 "com/example/naysay/naysay/rules/Token") (F_a1_kind : Fld Z h0 a1 "com/example/naysay/naysay/rules/Token" "kind" "Lcom/example/naysay/naysay/rules/Token$Kind;" (.ref f1)) (F_a1_text : Fld Z h0 a1 "com/example/naysay/naysay/rules/Token" "text" "Ljava/lang/String;" (.ref s1)) (E_s1 : Exa Z h0 s1 "java/lang/String") (F_s1_coder : Fld Z h0 s1 "java/lang/String" "coder" "B" (.int 0)) (F_s1_value : Fld Z h0 s1 "java/lang/String" "value" "[B" (.ref t1)) (V_t1 : Arv Z h0 t1 k1 .byte (2 : Int32) [(.int x0), (.int x1)] (.int 0)) (WW : World1 Z w_NUMBER w_SYMBOL w_NAME w_END w_STRING i_COMPACT_STRINGS v_SIOOBE_FORMATTER) :
    Con l Z (⟨"com/example/naysay/naysay/rules/Token", "isSymbol", "(Ljava/lang/String;)Z"⟩ : MethodName) prog_33_method_2_code 2 (some .boolean) ws ({ frames := 1, cells := 0, slots := 0, locals := 14 } : Room) #[(.ref a1), .null] h0 (fun v h L => v = some (.int (syI_2_N f1 w_SYMBOL x0 x1)) ∧ Fr n0 L ∧ h = h0) := by
  refine own_body (plainFor_of_name pn_com_example_naysay_naysay_rules_Token) ?_
  intro p e s m below meth c s₁ hx hby hml hZ hown hnm hlk hret X0 e0
  have N0 := Fr.nil n0
  refine Go.st (T' := s₁) (f' := (mkF m 0 #[rv a1, .val .null] [])) (fun _ k => castTop (by first | (simp [entryFrame, mkF, argsToLocals, Value.category]; done) | rfl) k) ?_
  have ⟨S_i_COMPACT_STRINGS, nz_i_COMPACT_STRINGS, S_v_SIOOBE_FORMATTER, r_v_SIOOBE_FORMATTER, S_w_NUMBER, E_w_NUMBER, S_w_SYMBOL, E_w_SYMBOL, S_w_NAME, E_w_NAME, S_w_END, E_w_END, S_w_STRING, E_w_STRING, F_w_NUMBER_ordinal, F_w_SYMBOL_ordinal, F_w_NAME_ordinal, F_w_END_ordinal, F_w_STRING_ordinal⟩ := WW
  have lt_w_NUMBER := E_w_NUMBER.lt
  have lt_w_SYMBOL := E_w_SYMBOL.lt
  have lt_w_NAME := E_w_NAME.lt
  have lt_w_END := E_w_END.lt
  have lt_w_STRING := E_w_STRING.lt
  have lt_a1 := E_a1.lt
  have lt_s1 := E_s1.lt
  have lt_t1 := V_t1.lt
  refine Go.st (f' := (mkF m 1 #[rv a1, .val .null] [(.ref a1)])) (fun _ k => XS.aloadN X0.here hx rfl (hb hby d11_0) rfl rfl k) ?_
  obtain ⟨T1, X1, e1, st1⟩ := getF X0 hx hZ hown (host := "") (Or.inl (hw _ (List.mem_of_getElem? (i := 58) rfl))) Via.refl e0 F_a1_kind (g := (mkF m 1 #[rv a1, .val .null] [(.ref a1)])) rfl rfl (hb hby d11_1)
  refine Go.st (f' := (mkF m 4 #[rv a1, .val .null] [(.ref f1)])) (fun _ k => st1 _ k) ?_
  obtain ⟨T2, X2, e2, st2⟩ := getS2 X1 hx hZ hown (host := "") (Or.inl (hw _ (List.mem_of_getElem? (i := 69) rfl))) Via.refl e1 (S_w_SYMBOL.ext O0.2) (g := (mkF m 4 #[rv a1, .val .null] [(.ref f1)])) rfl (hb hby d11_4)
  refine Go.st (f' := (mkF m 7 #[rv a1, .val .null] [(.ref w_SYMBOL), (.ref f1)])) (fun _ k => st2 _ k) ?_
  by_cases cd3 : f1 = w_SYMBOL
  · refine Go.st (f' := (mkF m 10 #[rv a1, .val .null] [])) (fun _ k => Jvm.RoadKit.acmp (g := (mkF m 7 #[rv a1, .val .null] [(.ref w_SYMBOL), (.ref f1)])) X2 hx rfl rfl rfl (pc0 := 7) (pc' := 10) (same := true) rfl (hb hby d11_7) rfl (decide_eq_true (congrArg Value.ref cd3)) (by decide) (by decide) k) ?_
    refine Go.st (f' := (mkF m 11 #[rv a1, .val .null] [(.ref a1)])) (fun _ k => XS.aloadN X2.here hx rfl (hb hby d11_10) rfl rfl k) ?_
    obtain ⟨T4, X4, e4, st4⟩ := getF X2 hx hZ hown (host := "") (Or.inl (hw _ (List.mem_of_getElem? (i := 60) rfl))) Via.refl e2 F_a1_text (g := (mkF m 11 #[rv a1, .val .null] [(.ref a1)])) rfl rfl (hb hby d11_11)
    refine Go.st (f' := (mkF m 14 #[rv a1, .val .null] [(.ref s1)])) (fun _ k => st4 _ k) ?_
    refine Go.st (f' := (mkF m 15 #[rv a1, .val .null] [.null, (.ref s1)])) (fun _ k => XS.aloadN X4.here hx rfl (hb hby d11_14) rfl rfl k) ?_
    obtain ⟨cq5, kq5, q5a, q5b, q5c⟩ := isOf hZ e4 E_s1
    obtain ⟨_, _, ⟨T5, L5, kk5, nn5⟩, -, X5, ⟨Lc5, hQ5, lq5, yq5, zz5⟩, st5⟩ := X4.virtualBack hx (y := (⟨"java/lang/String", "equals", "(Ljava/lang/Object;)Z"⟩ : MethodName)) (z := (⟨"java/lang/String", "equals", "(Ljava/lang/Object;)Z"⟩ : MethodName)) hown (mvT hZ (hw _ (List.mem_of_getElem? (i := 76) rfl))) (mvT hZ (hw _ (List.mem_of_getElem? (i := 77) rfl))) (notFace_of_selects (args := #[]) (mvT hZ (hw _ (List.mem_of_getElem? (i := 79) rfl)))) (mvT hZ (hw _ (List.mem_of_getElem? (i := 79) rfl))) (mvT hZ (hw _ (List.mem_of_getElem? (i := 78) rfl))) (by decide) (own_back (W := 0) (eq_2_N l Z a0 hw [] s1 w_NUMBER w_SYMBOL w_NAME w_END w_STRING i_COMPACT_STRINGS v_SIOOBE_FORMATTER h0 n0 O0 WW) hZ (hw _ (List.mem_of_getElem? (i := 80) rfl)) (hw _ (List.mem_of_getElem? (i := 13) rfl)) (by decide) (by decide)) q5a q5c (g := (mkF m 15 #[rv a1, .val .null] [.null, (.ref s1)])) rfl (by rw [hml]; rfl) (Steps.refl _) (argsL := [.null]) (rest := []) (lenOf pd__Ljava_lang_Object__Z rfl) rfl (by show 2 * 0 + _ ≤ _; exact Nat.le_of_eq rfl) (hb hby d11_15) (fun _ _ => ⟨rfl, e4, (by decide : 0 + 0 ≤ _), (by decide : 0 + 0 ≤ _)⟩)
    dsimp only [Pt.U, Pt.locs, Pt.cells, Pt.slots] at X5 lq5 yq5 zz5 st5 hQ5
    subst lq5 yq5 zz5
    obtain ⟨rfl, Nq5, kq5⟩ := hQ5
    have N5 := Fr.app N0 Nq5
    refine Go.tr (f' := (mkF m 18 #[rv a1, .val .null] [(.int 0)])) st5 ?_
    refine Go.st (f' := (mkF m 25 #[rv a1, .val .null] [])) (fun _ k => XS.ifYes X5.here hx rfl (pc0 := 18) (pc' := 25) rfl (hb hby d11_18) rfl (by decide) (by decide) (by decide) k) ?_
    refine Go.st (f' := (mkF m 26 #[rv a1, .val .null] [(.int 0)])) (fun _ k => XS.iconst X5.here hx rfl (hb hby d11_25) k) ?_
    refine Go.retB X5 hlk hx (t := .boolean) hret (by simp) (hb hby d11_26) kq5 ?_ (by decide) (by decide)
    show (some (.int (0 : Int32)) : Option Value) = some (.int (syI_2_N f1 w_SYMBOL x0 x1)) ∧ _
    exact ⟨by rw [syI_2_N, if_pos cd3], N5, rfl⟩
  · refine Go.st (f' := (mkF m 25 #[rv a1, .val .null] [])) (fun _ k => Jvm.RoadKit.acmp (g := (mkF m 7 #[rv a1, .val .null] [(.ref w_SYMBOL), (.ref f1)])) X2 hx rfl rfl rfl (pc0 := 7) (pc' := 25) (same := false) rfl (hb hby d11_7) rfl (decide_eq_false fun q => cd3 (Value.ref.inj q)) (by decide) (by decide) k) ?_
    refine Go.st (f' := (mkF m 26 #[rv a1, .val .null] [(.int 0)])) (fun _ k => XS.iconst X2.here hx rfl (hb hby d11_25) k) ?_
    refine Go.retB X2 hlk hx (t := .boolean) hret (by simp) (hb hby d11_26) e2 ?_ (by decide) (by decide)
    show (some (.int (0 : Int32)) : Option Value) = some (.int (syI_2_N f1 w_SYMBOL x0 x1)) ∧ _
    exact ⟨by rw [syI_2_N, if_neg cd3], N0, rfl⟩
theorem own_m3 (x : Int32) : (x &&& (3 : Int32)) % (3 : Int32) = 0 ∨ (x &&& (3 : Int32)) % (3 : Int32) = 1 ∨ (x &&& (3 : Int32)) % (3 : Int32) = 2 := by
  have m1 := c_and x 3 (by decide)
  have m2 := (c_irem (x &&& 3) 3 3 (by decide)).1 m1.1
  have e3 : (3 : Int32).toInt = 3 := by decide
  have e0 : (0 : Int32).toInt = 0 := by decide
  have e1 : (1 : Int32).toInt = 1 := by decide
  have e2 : (2 : Int32).toInt = 2 := by decide
  simp only [← Int32.toInt_inj]
  omega
theorem own_b (x : Int32) : ¬ (255 : Int32) < (x &&& (255 : Int32)).toUInt32.toUInt16.toUInt32.toInt32 ∧ 0 ≤ ((x &&& (255 : Int32)).toUInt32.toUInt16.toUInt32.toInt32).toInt := by
  rw [i2c_mask]
  have h := c_and x 255 (by decide)
  refine ⟨?_, h.1⟩
  rw [Int32.lt_iff_toInt_lt]
  omega
theorem own_lb {c d : Int32} (h1 : ¬ (255 : Int32) < c ∧ 0 ≤ c.toInt) (h2 : ¬ (255 : Int32) < d ∧ 0 ≤ d.toInt) : (nar .byte ((nar .char c).toInt8.toInt32)) = (nar .byte ((nar .char d).toInt8.toInt32)) ↔ c = d := by
  constructor
  · intro e
    have e : ((c.toUInt32.toUInt16.toUInt32.toInt32).toInt8.toInt32).toInt8.toInt32 = ((d.toUInt32.toUInt16.toUInt32.toInt32).toInt8.toInt32).toInt8.toInt32 := e
    have a1 := c_i2c c
    have a2 := c_i2c d
    generalize c.toUInt32.toUInt16.toUInt32.toInt32 = c1 at *
    generalize d.toUInt32.toUInt16.toUInt32.toInt32 = d1 at *
    have b1 := c_i2b c1
    have b2 := c_i2b d1
    generalize c1.toInt8.toInt32 = c2 at *
    generalize d1.toInt8.toInt32 = d2 at *
    have g1 := c_i2b c2
    have g2 := c_i2b d2
    rw [e] at g1
    have e255 : (255 : Int32).toInt = 255 := by decide
    have l1 := h1.1
    have l2 := h2.1
    rw [Int32.lt_iff_toInt_lt] at l1 l2
    rw [← Int32.toInt_inj]
    omega
  · rintro rfl; rfl
def QL (n0 : Nat) : Option Value → Heap → List Loc → Prop := fun v h L => v = some (.int (1 : Int32)) ∧ Fr n0 L
theorem pd__I_Lcom_example_naysay_naysay_rules_Token_Kind_ : parseMethodDescriptor "(I)Lcom/example/naysay/naysay/rules/Token$Kind;" = some ⟨[.int], some (.object "com/example/naysay/naysay/rules/Token$Kind")⟩ := by decide +kernel
theorem pd__ICC_Ljava_lang_String_ : parseMethodDescriptor "(ICC)Ljava/lang/String;" = some ⟨[.int, .char, .char], some (.object "java/lang/String")⟩ := by decide +kernel
theorem pd__Lcom_example_naysay_naysay_rules_Token_Kind_Ljava_lang_String_I_V : parseMethodDescriptor "(Lcom/example/naysay/naysay/rules/Token$Kind;Ljava/lang/String;I)V" = some ⟨[(.object "com/example/naysay/naysay/rules/Token$Kind"), (.object "java/lang/String"), .int], none⟩ := by decide +kernel
theorem pd__Ljava_lang_String__Z : parseMethodDescriptor "(Ljava/lang/String;)Z" = some ⟨[(.object "java/lang/String")], some .boolean⟩ := by decide +kernel
set_option maxRecDepth 65536 in
set_option maxHeartbeats 40000000 in
theorem rm0 (l : Launch) (Z : State) (a0 : Array Value) (hw : ∀ d ∈ tables_1, d.before a0 Z = true) (ws : List Jvm.Cond) (p1 : Int32) (p2 : Int32) (p3 : Int32) (p4 : Int32) (w_NUMBER : Addr) (w_SYMBOL : Addr) (w_NAME : Addr) (w_END : Addr) (w_STRING : Addr) (i_COMPACT_STRINGS : Int32) (v_SIOOBE_FORMATTER : Value) (h0 : Heap) (n0 : Nat) (O0 : Old Z n0 h0) (WW : World1 Z w_NUMBER w_SYMBOL w_NAME w_END w_STRING i_COMPACT_STRINGS v_SIOOBE_FORMATTER) :
    MetFree l x (head1 (Jvm.Cond.code x code maxLocals ret :: ws) room_1) (fun a U => a = #[(.int p1), (.int p2), (.int p3), (.int p4)] ∧ Z.Warmed39 U.vm ∧ U.heap = h0 ∧ CHv Z EL U.vm h0) (fun _ _ _ _ _ => True) (fun _ U o U' => ∃ v L, o = .returned v ∧ (QL n0) v U'.heap L ∧ CHr Z EL U.vm U.heap U'.vm U'.heap ∧ ReturnedEndW U o U' L room_1.cells room_1.slots) := by
  refine own_bodyW (plainFor_of_name pn_com_example_naysay_naysay_rules_TokenIsSymbolPinLaw) ?_
  intro p e s m below meth c s₁ hx hby hml hZ hown hnm hlk hret X0 e0 hh hS CR0
  have hEL := own_EL hw
  have wS := own_wS hw
  have N0 := Fr.nil n0
  refine Go.st (T' := s₁) (f' := (mkF m 0 #[iv p1, iv p2, iv p3, iv p4, .unset, .unset, .unset, .unset, .unset, .unset, .unset, .unset, .unset, .unset, .unset, .unset] [])) (fun _ k => castTop (by first | (simp [entryFrame, mkF, argsToLocals, Value.category, maxLocals]; done) | rfl) k) ?_
  have ⟨S_i_COMPACT_STRINGS, nz_i_COMPACT_STRINGS, S_v_SIOOBE_FORMATTER, r_v_SIOOBE_FORMATTER, S_w_NUMBER, E_w_NUMBER, S_w_SYMBOL, E_w_SYMBOL, S_w_NAME, E_w_NAME, S_w_END, E_w_END, S_w_STRING, E_w_STRING, F_w_NUMBER_ordinal, F_w_SYMBOL_ordinal, F_w_NAME_ordinal, F_w_END_ordinal, F_w_STRING_ordinal⟩ := WW
  have lt_w_NUMBER := E_w_NUMBER.lt
  have lt_w_SYMBOL := E_w_SYMBOL.lt
  have lt_w_NAME := E_w_NAME.lt
  have lt_w_END := E_w_END.lt
  have lt_w_STRING := E_w_STRING.lt
  refine Go.st (f' := (mkF m 1 #[iv p1, iv p2, iv p3, iv p4, .unset, .unset, .unset, .unset, .unset, .unset, .unset, .unset, .unset, .unset, .unset, .unset] [(.int p1)])) (fun _ k => XS.iloadN X0.here hx rfl (hb hby at_0) rfl k) ?_
  obtain ⟨_, _, ⟨T1, L1, kk1, nn1⟩, -, X1, ⟨Lc1, hQ1, lq1, yq1, zz1⟩, st1⟩ := Jvm.LawKit.callS X0 hx (y := (⟨"com/example/naysay/naysay/rules/TokenIsSymbolPinLaw", "kindOf", "(I)Lcom/example/naysay/naysay/rules/Token$Kind;"⟩ : MethodName)) hown (mvT hZ (hw _ (List.mem_of_getElem? (i := 0) rfl))) (mvT hZ (hw _ (List.mem_of_getElem? (i := 1) rfl))) (mvT hZ (hw _ (List.mem_of_getElem? (i := 2) rfl))) (mvT hZ (hw _ (List.mem_of_getElem? (i := 3) rfl))) (by decide) (own_back (W := 0) (rmK l Z a0 hw [] p1 w_NUMBER w_SYMBOL w_NAME w_END w_STRING i_COMPACT_STRINGS v_SIOOBE_FORMATTER h0 n0 O0 WW) hZ (hw _ (List.mem_of_getElem? (i := 3) rfl)) (hw _ (List.mem_of_getElem? (i := 2) rfl)) (by decide) (by decide)) (g := (mkF m 1 #[iv p1, iv p2, iv p3, iv p4, .unset, .unset, .unset, .unset, .unset, .unset, .unset, .unset, .unset, .unset, .unset, .unset] [(.int p1)])) rfl (by rw [hml]; rfl) (argsL := [(.int p1)]) (rest := []) (lenOf pd__I_Lcom_example_naysay_naysay_rules_Token_Kind_ rfl) rfl (by show 2 * 0 + _ ≤ _; exact Nat.le_of_eq rfl) (hb hby at_1) (fun _ _ => ⟨rfl, e0, (by decide : 0 + 0 ≤ _), (by decide : 0 + 0 ≤ _)⟩)
  dsimp only [Pt.U, Pt.locs, Pt.cells, Pt.slots] at X1 lq1 yq1 zz1 st1 hQ1
  subst lq1 yq1 zz1
  obtain ⟨rfl, Nq1, kq1⟩ := hQ1
  have N1 := Fr.app N0 Nq1
  obtain ⟨kd, hkd⟩ := kdV_ref p1 w_NUMBER w_SYMBOL w_NAME w_END w_STRING i_COMPACT_STRINGS v_SIOOBE_FORMATTER
  rw [hkd] at st1
  refine Go.st (f' := (mkF m 4 #[iv p1, iv p2, iv p3, iv p4, .unset, .unset, .unset, .unset, .unset, .unset, .unset, .unset, .unset, .unset, .unset, .unset] [(.ref kd)])) (fun _ k => st1 _ k) ?_
  refine Go.st (f' := (mkF m 6 #[iv p1, iv p2, iv p3, iv p4, rv kd, .unset, .unset, .unset, .unset, .unset, .unset, .unset, .unset, .unset, .unset, .unset] [])) (fun _ k => XS.astore X1.here hx rfl (hb hby at_4) rfl rfl (l' := #[iv p1, iv p2, iv p3, iv p4, rv kd, .unset, .unset, .unset, .unset, .unset, .unset, .unset, .unset, .unset, .unset, .unset]) rfl k) ?_
  refine Go.st (f' := (mkF m 7 #[iv p1, iv p2, iv p3, iv p4, rv kd, .unset, .unset, .unset, .unset, .unset, .unset, .unset, .unset, .unset, .unset, .unset] [(.int p2)])) (fun _ k => XS.iloadN X1.here hx rfl (hb hby at_6) rfl k) ?_
  refine Go.st (f' := (mkF m 8 #[iv p1, iv p2, iv p3, iv p4, rv kd, .unset, .unset, .unset, .unset, .unset, .unset, .unset, .unset, .unset, .unset, .unset] [(.int 3), (.int p2)])) (fun _ k => XS.iconst X1.here hx rfl (hb hby at_7) k) ?_
  refine Go.st (f' := (mkF m 9 #[iv p1, iv p2, iv p3, iv p4, rv kd, .unset, .unset, .unset, .unset, .unset, .unset, .unset, .unset, .unset, .unset, .unset] [(.int (p2 &&& (3 : Int32)))])) (fun _ k => XS.iand X1.here hx rfl (hb hby at_8) rfl k) ?_
  refine Go.st (f' := (mkF m 10 #[iv p1, iv p2, iv p3, iv p4, rv kd, .unset, .unset, .unset, .unset, .unset, .unset, .unset, .unset, .unset, .unset, .unset] [(.int 3), (.int (p2 &&& (3 : Int32)))])) (fun _ k => XS.iconst X1.here hx rfl (hb hby at_9) k) ?_
  refine Go.st (f' := (mkF m 11 #[iv p1, iv p2, iv p3, iv p4, rv kd, .unset, .unset, .unset, .unset, .unset, .unset, .unset, .unset, .unset, .unset, .unset] [(.int ((p2 &&& (3 : Int32)) % (3 : Int32)))])) (fun _ k => iremM (g := (mkF m 10 #[.val (.int p1), .val (.int p2), .val (.int p3), .val (.int p4), .val (.ref kd), .unset, .unset, .unset, .unset, .unset, .unset, .unset, .unset, .unset, .unset, .unset] [(.int (3 : Int32)), (.int (p2 &&& (3 : Int32)))])) X1 hx rfl (hb hby at_10) rfl (by decide) k) ?_
  obtain ⟨yy2, hyy2⟩ : ∃ z, z = ((p2 &&& (3 : Int32)) % (3 : Int32)) := ⟨_, rfl⟩
  rw [← hyy2]
  refine Go.st (f' := (mkF m 13 #[iv p1, iv p2, iv p3, iv p4, rv kd, iv yy2, .unset, .unset, .unset, .unset, .unset, .unset, .unset, .unset, .unset, .unset] [])) (fun _ k => XS.istore X1.here hx rfl (hb hby at_11) rfl (l' := #[iv p1, iv p2, iv p3, iv p4, rv kd, iv yy2, .unset, .unset, .unset, .unset, .unset, .unset, .unset, .unset, .unset, .unset]) rfl k) ?_
  refine Go.st (f' := (mkF m 14 #[iv p1, iv p2, iv p3, iv p4, rv kd, iv yy2, .unset, .unset, .unset, .unset, .unset, .unset, .unset, .unset, .unset, .unset] [(.int p2)])) (fun _ k => XS.iloadN X1.here hx rfl (hb hby at_13) rfl k) ?_
  refine Go.st (f' := (mkF m 15 #[iv p1, iv p2, iv p3, iv p4, rv kd, iv yy2, .unset, .unset, .unset, .unset, .unset, .unset, .unset, .unset, .unset, .unset] [(.int 2), (.int p2)])) (fun _ k => XS.iconst X1.here hx rfl (hb hby at_14) k) ?_
  refine Go.st (f' := (mkF m 16 #[iv p1, iv p2, iv p3, iv p4, rv kd, iv yy2, .unset, .unset, .unset, .unset, .unset, .unset, .unset, .unset, .unset, .unset] [(.int ((p2.toUInt32 >>> ((2 : Int32) &&& 31).toUInt32).toInt32))])) (fun _ k => XS.iushr X1.here hx rfl (hb hby at_15) rfl k) ?_
  refine Go.st (f' := (mkF m 19 #[iv p1, iv p2, iv p3, iv p4, rv kd, iv yy2, .unset, .unset, .unset, .unset, .unset, .unset, .unset, .unset, .unset, .unset] [(.int 255), (.int ((p2.toUInt32 >>> ((2 : Int32) &&& 31).toUInt32).toInt32))])) (fun _ k => XS.sipush X1.here hx rfl (hb hby at_16) k) ?_
  refine Go.st (f' := (mkF m 20 #[iv p1, iv p2, iv p3, iv p4, rv kd, iv yy2, .unset, .unset, .unset, .unset, .unset, .unset, .unset, .unset, .unset, .unset] [(.int (((p2.toUInt32 >>> ((2 : Int32) &&& 31).toUInt32).toInt32) &&& (255 : Int32)))])) (fun _ k => XS.iand X1.here hx rfl (hb hby at_19) rfl k) ?_
  refine Go.st (f' := (mkF m 21 #[iv p1, iv p2, iv p3, iv p4, rv kd, iv yy2, .unset, .unset, .unset, .unset, .unset, .unset, .unset, .unset, .unset, .unset] [(.int ((((p2.toUInt32 >>> ((2 : Int32) &&& 31).toUInt32).toInt32) &&& (255 : Int32)).toUInt32.toUInt16.toUInt32.toInt32))])) (fun _ k => XS.i2c X1.here hx rfl (hb hby at_20) rfl k) ?_
  obtain ⟨yy3, hyy3⟩ : ∃ z, z = ((((p2.toUInt32 >>> ((2 : Int32) &&& 31).toUInt32).toInt32) &&& (255 : Int32)).toUInt32.toUInt16.toUInt32.toInt32) := ⟨_, rfl⟩
  rw [← hyy3]
  refine Go.st (f' := (mkF m 23 #[iv p1, iv p2, iv p3, iv p4, rv kd, iv yy2, iv yy3, .unset, .unset, .unset, .unset, .unset, .unset, .unset, .unset, .unset] [])) (fun _ k => XS.istore X1.here hx rfl (hb hby at_21) rfl (l' := #[iv p1, iv p2, iv p3, iv p4, rv kd, iv yy2, iv yy3, .unset, .unset, .unset, .unset, .unset, .unset, .unset, .unset, .unset]) rfl k) ?_
  refine Go.st (f' := (mkF m 24 #[iv p1, iv p2, iv p3, iv p4, rv kd, iv yy2, iv yy3, .unset, .unset, .unset, .unset, .unset, .unset, .unset, .unset, .unset] [(.int p2)])) (fun _ k => XS.iloadN X1.here hx rfl (hb hby at_23) rfl k) ?_
  refine Go.st (f' := (mkF m 26 #[iv p1, iv p2, iv p3, iv p4, rv kd, iv yy2, iv yy3, .unset, .unset, .unset, .unset, .unset, .unset, .unset, .unset, .unset] [(.int 10), (.int p2)])) (fun _ k => XS.bipush X1.here hx rfl (hb hby at_24) k) ?_
  refine Go.st (f' := (mkF m 27 #[iv p1, iv p2, iv p3, iv p4, rv kd, iv yy2, iv yy3, .unset, .unset, .unset, .unset, .unset, .unset, .unset, .unset, .unset] [(.int ((p2.toUInt32 >>> ((10 : Int32) &&& 31).toUInt32).toInt32))])) (fun _ k => XS.iushr X1.here hx rfl (hb hby at_26) rfl k) ?_
  refine Go.st (f' := (mkF m 30 #[iv p1, iv p2, iv p3, iv p4, rv kd, iv yy2, iv yy3, .unset, .unset, .unset, .unset, .unset, .unset, .unset, .unset, .unset] [(.int 255), (.int ((p2.toUInt32 >>> ((10 : Int32) &&& 31).toUInt32).toInt32))])) (fun _ k => XS.sipush X1.here hx rfl (hb hby at_27) k) ?_
  refine Go.st (f' := (mkF m 31 #[iv p1, iv p2, iv p3, iv p4, rv kd, iv yy2, iv yy3, .unset, .unset, .unset, .unset, .unset, .unset, .unset, .unset, .unset] [(.int (((p2.toUInt32 >>> ((10 : Int32) &&& 31).toUInt32).toInt32) &&& (255 : Int32)))])) (fun _ k => XS.iand X1.here hx rfl (hb hby at_30) rfl k) ?_
  refine Go.st (f' := (mkF m 32 #[iv p1, iv p2, iv p3, iv p4, rv kd, iv yy2, iv yy3, .unset, .unset, .unset, .unset, .unset, .unset, .unset, .unset, .unset] [(.int ((((p2.toUInt32 >>> ((10 : Int32) &&& 31).toUInt32).toInt32) &&& (255 : Int32)).toUInt32.toUInt16.toUInt32.toInt32))])) (fun _ k => XS.i2c X1.here hx rfl (hb hby at_31) rfl k) ?_
  obtain ⟨yy4, hyy4⟩ : ∃ z, z = ((((p2.toUInt32 >>> ((10 : Int32) &&& 31).toUInt32).toInt32) &&& (255 : Int32)).toUInt32.toUInt16.toUInt32.toInt32) := ⟨_, rfl⟩
  rw [← hyy4]
  refine Go.st (f' := (mkF m 34 #[iv p1, iv p2, iv p3, iv p4, rv kd, iv yy2, iv yy3, iv yy4, .unset, .unset, .unset, .unset, .unset, .unset, .unset, .unset] [])) (fun _ k => XS.istore X1.here hx rfl (hb hby at_32) rfl (l' := #[iv p1, iv p2, iv p3, iv p4, rv kd, iv yy2, iv yy3, iv yy4, .unset, .unset, .unset, .unset, .unset, .unset, .unset, .unset]) rfl k) ?_
  have J : ∀ (z8 : Int32) (z9 : Int32) (z10 : Int32) (z11 : Int32), (z8 = 0 ∨ z8 = 1 ∨ z8 = 2) → (¬ (255 : Int32) < z9 ∧ 0 ≤ z9.toInt) → (¬ (255 : Int32) < z10 ∧ 0 ≤ z10.toInt) → (z11 = 0 ∨ z11 = 1) → Go p e below (DoneW s Z EL (QL n0) room_1.cells room_1.slots) T1 (mkF m 120 #[iv p1, iv p2, iv p3, iv p4, rv kd, iv yy2, iv yy3, iv yy4, iv z8, iv z9, iv z10, iv z11, .unset, .unset, .unset, .unset] []) := by
    intro z8 z9 z10 z11 hz8 hz9 hz10 hz11
    rcases (hyy2 ▸ own_m3 _) with rfl | rfl | rfl
    · rcases hz11 with rfl | rfl
      · rcases hz8 with rfl | rfl | rfl
        · refine Go.st (f' := (mkF m 122 #[iv p1, iv p2, iv p3, iv p4, rv kd, iv 0, iv yy3, iv yy4, iv 0, iv z9, iv z10, iv 0, .unset, .unset, .unset, .unset] [(.int 0)])) (fun _ k => XS.iload X1.here hx rfl (hb hby at_120) rfl k) ?_
          refine Go.st (f' := (mkF m 124 #[iv p1, iv p2, iv p3, iv p4, rv kd, iv 0, iv yy3, iv yy4, iv 0, iv z9, iv z10, iv 0, .unset, .unset, .unset, .unset] [(.int yy3), (.int 0)])) (fun _ k => XS.iload X1.here hx rfl (hb hby at_122) rfl k) ?_
          refine Go.st (f' := (mkF m 126 #[iv p1, iv p2, iv p3, iv p4, rv kd, iv 0, iv yy3, iv yy4, iv 0, iv z9, iv z10, iv 0, .unset, .unset, .unset, .unset] [(.int yy4), (.int yy3), (.int 0)])) (fun _ k => XS.iload X1.here hx rfl (hb hby at_124) rfl k) ?_
          obtain ⟨_, _, ⟨T5, L5, kk5, nn5⟩, -, Xw5, hSw5, hgw5, ⟨Lc5, hQ5, lq5, yq5, zz5, crw5⟩, st5⟩ := callSS X1 hx (y := (⟨"com/example/naysay/naysay/rules/TokenIsSymbolPinLaw", "mk", "(ICC)Ljava/lang/String;"⟩ : MethodName)) hown (mvT hZ (hw _ (List.mem_of_getElem? (i := 8) rfl))) (mvT hZ (hw _ (List.mem_of_getElem? (i := 9) rfl))) (mvT hZ (hw _ (List.mem_of_getElem? (i := 2) rfl))) (mvT hZ (hw _ (List.mem_of_getElem? (i := 10) rfl))) (by decide) (own_backW (W := 0) (rmM_0 l Z a0 hw [] yy3 yy4 w_NUMBER w_SYMBOL w_NAME w_END w_STRING i_COMPACT_STRINGS v_SIOOBE_FORMATTER h0 n0 O0 (hyy3 ▸ own_b _).1 (hyy4 ▸ own_b _).1 (hyy3 ▸ own_b _).2 (hyy4 ▸ own_b _).2 WW) hZ (hw _ (List.mem_of_getElem? (i := 10) rfl)) (hw _ (List.mem_of_getElem? (i := 2) rfl)) (by decide) (by decide) hEL CR0.1) (g := (mkF m 126 #[iv p1, iv p2, iv p3, iv p4, rv kd, iv 0, iv yy3, iv yy4, iv 0, iv z9, iv z10, iv 0, .unset, .unset, .unset, .unset] [(.int yy4), (.int yy3), (.int 0)])) rfl (by rw [hml]; rfl) (argsL := [(.int (0 : Int32)), (.int yy3), (.int yy4)]) (rest := []) (lenOf pd__ICC_Ljava_lang_String_ rfl) rfl (by show 2 * 0 + _ ≤ _; exact Nat.le_of_eq rfl) (hb hby at_126) (fun _ _ => ⟨rfl, kq1, (by decide : 0 + 6 ≤ _), (by decide : 0 + 12 ≤ _)⟩)
          dsimp only [Pt.U, Pt.locs, Pt.cells, Pt.slots] at Xw5 lq5 yq5 zz5 st5 hQ5 hSw5 hgw5 crw5
          subst lq5 yq5 zz5
          obtain ⟨X5, hS5, hZ5, hown5⟩ := rebS hS (by rw [kq1]; exact (Nat.zero_le _)) Xw5 hSw5 hgw5 hZ hown
          obtain ⟨b5, rfl, Nq5, zb5, kq5, eq5, cq5, tt5, kt5, fq5, vq5⟩ := hQ5
          have N5 := Fr.app N1 Nq5
          have ne_w_NUMBER_b5 : w_NUMBER ≠ b5 := Nat.ne_of_lt (Nat.lt_of_lt_of_le lt_w_NUMBER (Nat.le_trans O0.2.1 zb5))
          have ne_w_SYMBOL_b5 : w_SYMBOL ≠ b5 := Nat.ne_of_lt (Nat.lt_of_lt_of_le lt_w_SYMBOL (Nat.le_trans O0.2.1 zb5))
          have ne_w_NAME_b5 : w_NAME ≠ b5 := Nat.ne_of_lt (Nat.lt_of_lt_of_le lt_w_NAME (Nat.le_trans O0.2.1 zb5))
          have ne_w_END_b5 : w_END ≠ b5 := Nat.ne_of_lt (Nat.lt_of_lt_of_le lt_w_END (Nat.le_trans O0.2.1 zb5))
          have ne_w_STRING_b5 : w_STRING ≠ b5 := Nat.ne_of_lt (Nat.lt_of_lt_of_le lt_w_STRING (Nat.le_trans O0.2.1 zb5))
          have g_b5 : n0 ≤ b5 := Nat.le_trans (O0.1 ▸ O0.2.1) zb5
          have O5 : Old Z n0 T5.heap := O0.keep kq5 all0
          have lt_b5 := eq5.lt
          have lt_tt5 := vq5.lt
          have nt_b5_tt5 : b5 ≠ tt5 := Exa.neArv eq5 vq5 (hw _ (List.mem_of_getElem? (i := 12) rfl))
          have hk5 : T5.heap.size ≤ T5.heap.size := Nat.le_refl _
          have CR5 := CR0.trans crw5
          refine Go.tr (f' := (mkF m 129 #[iv p1, iv p2, iv p3, iv p4, rv kd, iv 0, iv yy3, iv yy4, iv 0, iv z9, iv z10, iv 0, .unset, .unset, .unset, .unset] [(.ref b5)])) st5 ?_
          refine Go.st (f' := (mkF m 131 #[iv p1, iv p2, iv p3, iv p4, rv kd, iv 0, iv yy3, iv yy4, iv 0, iv z9, iv z10, iv 0, rv b5, .unset, .unset, .unset] [])) (fun _ k => XS.astore X5.here hx rfl (hb hby at_129) rfl rfl (l' := #[iv p1, iv p2, iv p3, iv p4, rv kd, iv 0, iv yy3, iv yy4, iv 0, iv z9, iv z10, iv 0, rv b5, .unset, .unset, .unset]) rfl k) ?_
          refine Go.st (f' := (mkF m 133 #[iv p1, iv p2, iv p3, iv p4, rv kd, iv 0, iv yy3, iv yy4, iv 0, iv z9, iv z10, iv 0, rv b5, .unset, .unset, .unset] [(.int 0)])) (fun _ k => XS.iload X5.here hx rfl (hb hby at_131) rfl k) ?_
          refine Go.st (f' := (mkF m 140 #[iv p1, iv p2, iv p3, iv p4, rv kd, iv 0, iv yy3, iv yy4, iv 0, iv z9, iv z10, iv 0, rv b5, .unset, .unset, .unset] [])) (fun _ k => XS.ifYes X5.here hx rfl (pc0 := 133) (pc' := 140) rfl (hb hby at_133) rfl (by decide) (by decide) (by decide) k) ?_
          refine Go.st (f' := (mkF m 142 #[iv p1, iv p2, iv p3, iv p4, rv kd, iv 0, iv yy3, iv yy4, iv 0, iv z9, iv z10, iv 0, rv b5, .unset, .unset, .unset] [(.int 0)])) (fun _ k => XS.iload X5.here hx rfl (hb hby at_140) rfl k) ?_
          refine Go.st (f' := (mkF m 144 #[iv p1, iv p2, iv p3, iv p4, rv kd, iv 0, iv yy3, iv yy4, iv 0, iv z9, iv z10, iv 0, rv b5, .unset, .unset, .unset] [(.int z9), (.int 0)])) (fun _ k => XS.iload X5.here hx rfl (hb hby at_142) rfl k) ?_
          refine Go.st (f' := (mkF m 146 #[iv p1, iv p2, iv p3, iv p4, rv kd, iv 0, iv yy3, iv yy4, iv 0, iv z9, iv z10, iv 0, rv b5, .unset, .unset, .unset] [(.int z10), (.int z9), (.int 0)])) (fun _ k => XS.iload X5.here hx rfl (hb hby at_144) rfl k) ?_
          obtain ⟨_, _, ⟨T6, L6, kk6, nn6⟩, -, Xw6, hSw6, hgw6, ⟨Lc6, hQ6, lq6, yq6, zz6, crw6⟩, st6⟩ := callSS X5 hx (y := (⟨"com/example/naysay/naysay/rules/TokenIsSymbolPinLaw", "mk", "(ICC)Ljava/lang/String;"⟩ : MethodName)) hown5 (mvT hZ5 (hw _ (List.mem_of_getElem? (i := 8) rfl))) (mvT hZ5 (hw _ (List.mem_of_getElem? (i := 9) rfl))) (mvT hZ5 (hw _ (List.mem_of_getElem? (i := 2) rfl))) (mvT hZ5 (hw _ (List.mem_of_getElem? (i := 10) rfl))) (by decide) (own_backW (W := 0) (rmM_0 l Z a0 hw [] z9 z10 w_NUMBER w_SYMBOL w_NAME w_END w_STRING i_COMPACT_STRINGS v_SIOOBE_FORMATTER T5.heap n0 O5 hz9.1 hz10.1 hz9.2 hz10.2 WW) hZ5 (hw _ (List.mem_of_getElem? (i := 10) rfl)) (hw _ (List.mem_of_getElem? (i := 2) rfl)) (by decide) (by decide) hEL CR5.1) (g := (mkF m 146 #[iv p1, iv p2, iv p3, iv p4, rv kd, iv 0, iv yy3, iv yy4, iv 0, iv z9, iv z10, iv 0, rv b5, .unset, .unset, .unset] [(.int z10), (.int z9), (.int 0)])) rfl (by rw [hml]; rfl) (argsL := [(.int (0 : Int32)), (.int z9), (.int z10)]) (rest := []) (lenOf pd__ICC_Ljava_lang_String_ rfl) rfl (by show 2 * 0 + _ ≤ _; exact Nat.le_of_eq rfl) (hb hby at_146) (fun _ _ => ⟨rfl, rfl, (by decide : 6 + 6 ≤ _), (by decide : 12 + 12 ≤ _)⟩)
          dsimp only [Pt.U, Pt.locs, Pt.cells, Pt.slots] at Xw6 lq6 yq6 zz6 st6 hQ6 hSw6 hgw6 crw6
          subst lq6 yq6 zz6
          obtain ⟨X6, hS6, hZ6, hown6⟩ := rebS hS5 hk5 Xw6 hSw6 hgw6 hZ5 hown5
          obtain ⟨b6, rfl, Nq6, zb6, kq6, eq6, cq6, tt6, kt6, fq6, vq6⟩ := hQ6
          have N6 := Fr.app N5 Nq6
          have ne_b5_b6 : b5 ≠ b6 := Nat.ne_of_lt (Nat.lt_of_lt_of_le lt_b5 zb6)
          have ne_tt5_b6 : tt5 ≠ b6 := Nat.ne_of_lt (Nat.lt_of_lt_of_le lt_tt5 zb6)
          have ne_w_NUMBER_b6 : w_NUMBER ≠ b6 := Nat.ne_of_lt (Nat.lt_of_lt_of_le lt_w_NUMBER (Nat.le_trans O5.2.1 zb6))
          have ne_w_SYMBOL_b6 : w_SYMBOL ≠ b6 := Nat.ne_of_lt (Nat.lt_of_lt_of_le lt_w_SYMBOL (Nat.le_trans O5.2.1 zb6))
          have ne_w_NAME_b6 : w_NAME ≠ b6 := Nat.ne_of_lt (Nat.lt_of_lt_of_le lt_w_NAME (Nat.le_trans O5.2.1 zb6))
          have ne_w_END_b6 : w_END ≠ b6 := Nat.ne_of_lt (Nat.lt_of_lt_of_le lt_w_END (Nat.le_trans O5.2.1 zb6))
          have ne_w_STRING_b6 : w_STRING ≠ b6 := Nat.ne_of_lt (Nat.lt_of_lt_of_le lt_w_STRING (Nat.le_trans O5.2.1 zb6))
          have g_b6 : n0 ≤ b6 := Nat.le_trans (O5.1 ▸ O5.2.1) zb6
          have O6 : Old Z n0 T6.heap := O5.keep kq6 all0
          have lt_b6 := eq6.lt
          have lt_tt6 := vq6.lt
          have ft7 := (eq5.keep kq6)
          have nt_b5_tt6 : b5 ≠ tt6 := Exa.neArv ft7 vq6 (hw _ (List.mem_of_getElem? (i := 12) rfl))
          have nt_b6_tt6 : b6 ≠ tt6 := Exa.neArv eq6 vq6 (hw _ (List.mem_of_getElem? (i := 12) rfl))
          have hk6 : T6.heap.size ≤ T6.heap.size := Nat.le_refl _
          have CR6 := CR5.trans crw6
          refine Go.tr (f' := (mkF m 149 #[iv p1, iv p2, iv p3, iv p4, rv kd, iv 0, iv yy3, iv yy4, iv 0, iv z9, iv z10, iv 0, rv b5, .unset, .unset, .unset] [(.ref b6)])) st6 ?_
          refine Go.st (f' := (mkF m 151 #[iv p1, iv p2, iv p3, iv p4, rv kd, iv 0, iv yy3, iv yy4, iv 0, iv z9, iv z10, iv 0, rv b5, rv b6, .unset, .unset] [])) (fun _ k => XS.astore X6.here hx rfl (hb hby at_149) rfl rfl (l' := #[iv p1, iv p2, iv p3, iv p4, rv kd, iv 0, iv yy3, iv yy4, iv 0, iv z9, iv z10, iv 0, rv b5, rv b6, .unset, .unset]) rfl k) ?_
          refine Go.st (f' := (mkF m 153 #[iv p1, iv p2, iv p3, iv p4, rv kd, iv 0, iv yy3, iv yy4, iv 0, iv z9, iv z10, iv 0, rv b5, rv b6, .unset, .unset] [(.ref kd)])) (fun _ k => XS.aload X6.here hx rfl (hb hby at_151) rfl rfl k) ?_
          obtain ⟨T8, X8, e8, st8⟩ := getS2 X6 hx hZ6 hown6 (host := "") (Or.inl (hw _ (List.mem_of_getElem? (i := 44) rfl))) Via.refl rfl (S_w_SYMBOL.ext O6.2) (g := (mkF m 153 #[iv p1, iv p2, iv p3, iv p4, rv kd, iv 0, iv yy3, iv yy4, iv 0, iv z9, iv z10, iv 0, rv b5, rv b6, .unset, .unset] [(.ref kd)])) rfl (hb hby at_153)
          refine Go.st (f' := (mkF m 156 #[iv p1, iv p2, iv p3, iv p4, rv kd, iv 0, iv yy3, iv yy4, iv 0, iv z9, iv z10, iv 0, rv b5, rv b6, .unset, .unset] [(.ref w_SYMBOL), (.ref kd)])) (fun _ k => st8 _ k) ?_
          have J2 : ∀ (z14 : Int32), (z14 = (syI_0_0 kd w_SYMBOL)) → Go p e below (DoneW s Z EL (QL n0) room_1.cells room_1.slots) T8 (mkF m 232 #[iv p1, iv p2, iv p3, iv p4, rv kd, iv 0, iv yy3, iv yy4, iv 0, iv z9, iv z10, iv 0, rv b5, rv b6, iv z14, .unset] []) := by
            intro z14 hz14
            obtain ⟨T9, h9, X9, e9, E9, A9, D9, -, st9⟩ := newO X8 hx hZ6 hown6 (hw _ (List.mem_of_getElem? (i := 46) rfl)) (hw _ (List.mem_of_getElem? (i := 47) rfl)) (hw _ (List.mem_of_getElem? (i := 48) rfl)) e8 (g := (mkF m 232 #[iv p1, iv p2, iv p3, iv p4, rv kd, iv 0, iv yy3, iv yy4, iv 0, iv z9, iv z10, iv 0, rv b5, rv b6, iv z14, .unset] [])) rfl (hb hby at_232) (by decide) (by decide)
            obtain ⟨b9, g9⟩ : ∃ z, z = T6.heap.size := ⟨_, rfl⟩
            rw [← g9] at A9 D9 st9
            have ft10 := (Nat.lt_of_lt_of_le lt_b5 kq6.1)
            have ne_b5_b9 : b5 ≠ b9 := Nat.ne_of_lt (Nat.lt_of_lt_of_eq ft10 g9.symm)
            have ft11 := (Nat.lt_of_lt_of_le lt_tt5 kq6.1)
            have ne_tt5_b9 : tt5 ≠ b9 := Nat.ne_of_lt (Nat.lt_of_lt_of_eq ft11 g9.symm)
            have ne_b6_b9 : b6 ≠ b9 := Nat.ne_of_lt (Nat.lt_of_lt_of_eq lt_b6 g9.symm)
            have ne_tt6_b9 : tt6 ≠ b9 := Nat.ne_of_lt (Nat.lt_of_lt_of_eq lt_tt6 g9.symm)
            have ne_w_NUMBER_b9 : w_NUMBER ≠ b9 := Nat.ne_of_lt (Nat.lt_of_lt_of_le lt_w_NUMBER (Nat.le_trans O6.2.1 (Nat.le_of_eq g9.symm)))
            have ne_w_SYMBOL_b9 : w_SYMBOL ≠ b9 := Nat.ne_of_lt (Nat.lt_of_lt_of_le lt_w_SYMBOL (Nat.le_trans O6.2.1 (Nat.le_of_eq g9.symm)))
            have ne_w_NAME_b9 : w_NAME ≠ b9 := Nat.ne_of_lt (Nat.lt_of_lt_of_le lt_w_NAME (Nat.le_trans O6.2.1 (Nat.le_of_eq g9.symm)))
            have ne_w_END_b9 : w_END ≠ b9 := Nat.ne_of_lt (Nat.lt_of_lt_of_le lt_w_END (Nat.le_trans O6.2.1 (Nat.le_of_eq g9.symm)))
            have ne_w_STRING_b9 : w_STRING ≠ b9 := Nat.ne_of_lt (Nat.lt_of_lt_of_le lt_w_STRING (Nat.le_trans O6.2.1 (Nat.le_of_eq g9.symm)))
            have g_b9 : n0 ≤ b9 := Nat.le_trans (O6.1 ▸ O6.2.1) (Nat.le_of_eq g9.symm)
            have O9 : Old Z n0 h9 := O6.ext E9
            have CR9 : CHr Z EL s.vm h0 T6.vm h9 := CR6.trans (CHr.ext E9 CR6.1)
            have sf_b9 : Safe Z EL T6.vm h9 b9 := (Safe.new (Nat.le_of_eq g9.symm)).ext E9 CR6.1
            have lt_b9 := A9.lt
            have F_kind_b9 : Fld Z h9 b9 "com/example/naysay/naysay/rules/Token" "kind" "Lcom/example/naysay/naysay/rules/Token$Kind;" .null := D9 (Or.inr (hw _ (List.mem_of_getElem? (i := 59) rfl))) (ty := (.object "com/example/naysay/naysay/rules/Token$Kind")) (by decide)
            have F_text_b9 : Fld Z h9 b9 "com/example/naysay/naysay/rules/Token" "text" "Ljava/lang/String;" .null := D9 (Or.inr (hw _ (List.mem_of_getElem? (i := 61) rfl))) (ty := (.object "java/lang/String")) (by decide)
            have F_column_b9 : Fld Z h9 b9 "com/example/naysay/naysay/rules/Token" "column" "I" (.int (0 : Int32)) := D9 (Or.inr (hw _ (List.mem_of_getElem? (i := 63) rfl))) (ty := .int) (by decide)
            refine Go.st (f' := (mkF m 235 #[iv p1, iv p2, iv p3, iv p4, rv kd, iv 0, iv yy3, iv yy4, iv 0, iv z9, iv z10, iv 0, rv b5, rv b6, iv z14, .unset] [(.ref b9)])) (fun _ k => st9 _ k) ?_
            refine Go.st (f' := (mkF m 236 #[iv p1, iv p2, iv p3, iv p4, rv kd, iv 0, iv yy3, iv yy4, iv 0, iv z9, iv z10, iv 0, rv b5, rv b6, iv z14, .unset] [(.ref b9), (.ref b9)])) (fun _ k => XS.dup X9.here hx rfl (hb hby at_235) rfl rfl k) ?_
            refine Go.st (f' := (mkF m 238 #[iv p1, iv p2, iv p3, iv p4, rv kd, iv 0, iv yy3, iv yy4, iv 0, iv z9, iv z10, iv 0, rv b5, rv b6, iv z14, .unset] [(.ref kd), (.ref b9), (.ref b9)])) (fun _ k => XS.aload X9.here hx rfl (hb hby at_236) rfl rfl k) ?_
            refine Go.st (f' := (mkF m 240 #[iv p1, iv p2, iv p3, iv p4, rv kd, iv 0, iv yy3, iv yy4, iv 0, iv z9, iv z10, iv 0, rv b5, rv b6, iv z14, .unset] [(.ref b5), (.ref kd), (.ref b9), (.ref b9)])) (fun _ k => XS.aload X9.here hx rfl (hb hby at_238) rfl rfl k) ?_
            refine Go.st (f' := (mkF m 241 #[iv p1, iv p2, iv p3, iv p4, rv kd, iv 0, iv yy3, iv yy4, iv 0, iv z9, iv z10, iv 0, rv b5, rv b6, iv z14, .unset] [(.int p4), (.ref b5), (.ref kd), (.ref b9), (.ref b9)])) (fun _ k => XS.iloadN X9.here hx rfl (hb hby at_240) rfl k) ?_
            obtain ⟨_, _, ⟨T12, L12, kk12, nn12⟩, -, X12, ⟨Lc12, hQ12, lq12, yq12, zz12⟩, st12⟩ := X9.specialBack hx (y := (⟨"com/example/naysay/naysay/rules/Token", "<init>", "(Lcom/example/naysay/naysay/rules/Token$Kind;Ljava/lang/String;I)V"⟩ : MethodName)) rfl hown6 (mvT hZ6 (hw _ (List.mem_of_getElem? (i := 49) rfl))) (mvT hZ6 (hw _ (List.mem_of_getElem? (i := 50) rfl))) (mvT hZ6 (hw _ (List.mem_of_getElem? (i := 51) rfl))) (by decide) (own_back (W := 1) (rmT l Z a0 hw [] b9 kd b5 p4 h9 n0 O9 g_b9 A9 F_kind_b9 F_text_b9 F_column_b9 ) hZ6 (hw _ (List.mem_of_getElem? (i := 51) rfl)) (hw _ (List.mem_of_getElem? (i := 48) rfl)) (by decide) (by decide)) (g := (mkF m 241 #[iv p1, iv p2, iv p3, iv p4, rv kd, iv 0, iv yy3, iv yy4, iv 0, iv z9, iv z10, iv 0, rv b5, rv b6, iv z14, .unset] [(.int p4), (.ref b5), (.ref kd), (.ref b9), (.ref b9)])) rfl (by rw [hml]; rfl) (Steps.refl _) (a := b9) (argsL := [(.ref kd), (.ref b5), (.int p4)]) (rest := [(.ref b9)]) (lenOf pd__Lcom_example_naysay_naysay_rules_Token_Kind_Ljava_lang_String_I_V rfl) rfl (by show 2 * 0 + _ ≤ _; exact Nat.le_of_eq rfl) (hb hby at_241) (fun _ _ => ⟨rfl, e9, (by decide : 13 + 0 ≤ _), (by decide : 27 + 0 ≤ _)⟩)
            dsimp only [Pt.U, Pt.locs, Pt.cells, Pt.slots] at X12 lq12 yq12 zz12 st12 hQ12
            subst lq12 yq12 zz12
            obtain ⟨rfl, Nq12, kq12, eq12, fq12_0, fq12_1, fq12_2⟩ := hQ12
            have N12 := Fr.app N6 Nq12
            have O12 : Old Z n0 T12.heap := O9.keep kq12 (allS g_b9 all0)
            have CR12 : CHr Z EL s.vm h0 T6.vm T12.heap := CR9.trans (CHr.keep kq12 (sfS sf_b9 sf0) CR9.1)
            refine Go.tr (f' := (mkF m 244 #[iv p1, iv p2, iv p3, iv p4, rv kd, iv 0, iv yy3, iv yy4, iv 0, iv z9, iv z10, iv 0, rv b5, rv b6, iv z14, .unset] [(.ref b9)])) st12 ?_
            refine Go.st (f' := (mkF m 246 #[iv p1, iv p2, iv p3, iv p4, rv kd, iv 0, iv yy3, iv yy4, iv 0, iv z9, iv z10, iv 0, rv b5, rv b6, iv z14, rv b9] [])) (fun _ k => XS.astore X12.here hx rfl (hb hby at_244) rfl rfl (l' := #[iv p1, iv p2, iv p3, iv p4, rv kd, iv 0, iv yy3, iv yy4, iv 0, iv z9, iv z10, iv 0, rv b5, rv b6, iv z14, rv b9]) rfl k) ?_
            refine Go.st (f' := (mkF m 248 #[iv p1, iv p2, iv p3, iv p4, rv kd, iv 0, iv yy3, iv yy4, iv 0, iv z9, iv z10, iv 0, rv b5, rv b6, iv z14, rv b9] [(.ref b9)])) (fun _ k => XS.aload X12.here hx rfl (hb hby at_246) rfl rfl k) ?_
            refine Go.st (f' := (mkF m 250 #[iv p1, iv p2, iv p3, iv p4, rv kd, iv 0, iv yy3, iv yy4, iv 0, iv z9, iv z10, iv 0, rv b5, rv b6, iv z14, rv b9] [(.ref b6), (.ref b9)])) (fun _ k => XS.aload X12.here hx rfl (hb hby at_248) rfl rfl k) ?_
            have ft14 := ((ft7.ext E9).keep kq12)
            have ft15 := (((cq5.keep kq6 nin0).ext E9).keep kq12 (ninS ne_b5_b9 nin0))
            have ft16 := (((fq5.keep kq6 nin0).ext E9).keep kq12 (ninS ne_b5_b9 nin0))
            have ft17 := (((vq5.keep kq6 nin0).ext E9).keep kq12 (ninS ne_tt5_b9 nin0))
            have ft18 := ((eq6.ext E9).keep kq12)
            have ft19 := ((cq6.ext E9).keep kq12 (ninS ne_b6_b9 nin0))
            have ft20 := ((fq6.ext E9).keep kq12 (ninS ne_b6_b9 nin0))
            have ft21 := ((vq6.ext E9).keep kq12 (ninS ne_tt6_b9 nin0))
            obtain ⟨cq13, kq13, q13a, q13b, q13c⟩ := isOf hZ6 rfl eq12
            obtain ⟨_, _, ⟨T13, L13, kk13, nn13⟩, -, X13, ⟨Lc13, hQ13, lq13, yq13, zz13⟩, st13⟩ := X12.virtualBack hx (y := (⟨"com/example/naysay/naysay/rules/Token", "isSymbol", "(Ljava/lang/String;)Z"⟩ : MethodName)) (z := (⟨"com/example/naysay/naysay/rules/Token", "isSymbol", "(Ljava/lang/String;)Z"⟩ : MethodName)) hown6 (mvT hZ6 (hw _ (List.mem_of_getElem? (i := 64) rfl))) (mvT hZ6 (hw _ (List.mem_of_getElem? (i := 65) rfl))) (notFace_of_selects (args := #[]) (mvT hZ6 (hw _ (List.mem_of_getElem? (i := 67) rfl)))) (mvT hZ6 (hw _ (List.mem_of_getElem? (i := 67) rfl))) (mvT hZ6 (hw _ (List.mem_of_getElem? (i := 66) rfl))) (by decide) (own_back (W := 0) (rmS_0_0 l Z a0 hw [] b9 kd b5 tt5 kt5 b6 tt6 kt6  w_NUMBER w_SYMBOL w_NAME w_END w_STRING i_COMPACT_STRINGS v_SIOOBE_FORMATTER T12.heap n0 O12 eq12 fq12_0 fq12_1 ft14 ft15 ft16 ft17 ne_b5_b6 ft18 ft19 ft20 ft21 WW) hZ6 (hw _ (List.mem_of_getElem? (i := 68) rfl)) (hw _ (List.mem_of_getElem? (i := 48) rfl)) (by decide) (by decide)) q13a q13c (g := (mkF m 250 #[iv p1, iv p2, iv p3, iv p4, rv kd, iv 0, iv yy3, iv yy4, iv 0, iv z9, iv z10, iv 0, rv b5, rv b6, iv z14, rv b9] [(.ref b6), (.ref b9)])) rfl (by rw [hml]; rfl) (Steps.refl _) (argsL := [(.ref b6)]) (rest := []) (lenOf pd__Ljava_lang_String__Z rfl) rfl (by show 2 * 0 + _ ≤ _; exact Nat.le_of_eq rfl) (hb hby at_250) (fun _ _ => ⟨rfl, rfl, (by decide : 13 + 0 ≤ _), (by decide : 27 + 0 ≤ _)⟩)
            dsimp only [Pt.U, Pt.locs, Pt.cells, Pt.slots] at X13 lq13 yq13 zz13 st13 hQ13
            subst lq13 yq13 zz13
            obtain ⟨rfl, Nq13, kq13⟩ := hQ13
            have N13 := Fr.app N12 Nq13
            refine Go.tr (f' := (mkF m 253 #[iv p1, iv p2, iv p3, iv p4, rv kd, iv 0, iv yy3, iv yy4, iv 0, iv z9, iv z10, iv 0, rv b5, rv b6, iv z14, rv b9] [(.int (syI_0_0 kd w_SYMBOL))])) st13 ?_
            refine Go.st (f' := (mkF m 255 #[iv p1, iv p2, iv p3, iv p4, rv kd, iv 0, iv yy3, iv yy4, iv 0, iv z9, iv z10, iv 0, rv b5, rv b6, iv z14, rv b9] [(.int z14), (.int (syI_0_0 kd w_SYMBOL))])) (fun _ k => XS.iload X13.here hx rfl (hb hby at_253) rfl k) ?_
            refine Go.st (f' := (mkF m 258 #[iv p1, iv p2, iv p3, iv p4, rv kd, iv 0, iv yy3, iv yy4, iv 0, iv z9, iv z10, iv 0, rv b5, rv b6, iv z14, rv b9] [])) (fun _ k => XS.icmpNo X13.here hx rfl (hb hby at_255) rfl (teq hz14.symm).2 k) ?_
            refine Go.st (f' := (mkF m 259 #[iv p1, iv p2, iv p3, iv p4, rv kd, iv 0, iv yy3, iv yy4, iv 0, iv z9, iv z10, iv 0, rv b5, rv b6, iv z14, rv b9] [(.int 1)])) (fun _ k => XS.iconst X13.here hx rfl (hb hby at_258) k) ?_
            refine Go.st (f' := (mkF m 263 #[iv p1, iv p2, iv p3, iv p4, rv kd, iv 0, iv yy3, iv yy4, iv 0, iv z9, iv z10, iv 0, rv b5, rv b6, iv z14, rv b9] [(.int 1)])) (fun _ k => XS.goto X13.here hx rfl (pc0 := 259) (pc' := 263) rfl (hb hby at_259) (by decide) (by decide) k) ?_
            have ft22 := (Nat.le_trans (Nat.le_trans hk6 E9.1) kq12.1)
            refine GoW.retB X13 hlk hx (t := .boolean) hret (by simp) (hb hby at_263) kq13 hS6 ft22 hZ6 hEL CR12 hh ?_ (by decide) (by decide)
            exact ⟨rfl, N13⟩
          by_cases cd23 : kd = w_SYMBOL
          · refine Go.st (f' := (mkF m 159 #[iv p1, iv p2, iv p3, iv p4, rv kd, iv 0, iv yy3, iv yy4, iv 0, iv z9, iv z10, iv 0, rv b5, rv b6, .unset, .unset] [])) (fun _ k => Jvm.RoadKit.acmp (g := (mkF m 156 #[iv p1, iv p2, iv p3, iv p4, rv kd, iv 0, iv yy3, iv yy4, iv 0, iv z9, iv z10, iv 0, rv b5, rv b6, .unset, .unset] [(.ref w_SYMBOL), (.ref kd)])) X8 hx rfl rfl rfl (pc0 := 156) (pc' := 159) (same := true) rfl (hb hby at_156) rfl (decide_eq_true (congrArg Value.ref cd23)) (by decide) (by decide) k) ?_
            refine Go.st (f' := (mkF m 161 #[iv p1, iv p2, iv p3, iv p4, rv kd, iv 0, iv yy3, iv yy4, iv 0, iv z9, iv z10, iv 0, rv b5, rv b6, .unset, .unset] [(.int 0)])) (fun _ k => XS.iload X8.here hx rfl (hb hby at_159) rfl k) ?_
            refine Go.st (f' := (mkF m 164 #[iv p1, iv p2, iv p3, iv p4, rv kd, iv 0, iv yy3, iv yy4, iv 0, iv z9, iv z10, iv 0, rv b5, rv b6, .unset, .unset] [])) (fun _ k => XS.ifNo X8.here hx rfl (hb hby at_161) rfl (by decide) k) ?_
            refine Go.st (f' := (mkF m 166 #[iv p1, iv p2, iv p3, iv p4, rv kd, iv 0, iv yy3, iv yy4, iv 0, iv z9, iv z10, iv 0, rv b5, rv b6, .unset, .unset] [(.int 0)])) (fun _ k => XS.iload X8.here hx rfl (hb hby at_164) rfl k) ?_
            refine Go.st (f' := (mkF m 168 #[iv p1, iv p2, iv p3, iv p4, rv kd, iv 0, iv yy3, iv yy4, iv 0, iv z9, iv z10, iv 0, rv b5, rv b6, .unset, .unset] [(.int 0), (.int 0)])) (fun _ k => XS.iload X8.here hx rfl (hb hby at_166) rfl k) ?_
            refine Go.st (f' := (mkF m 177 #[iv p1, iv p2, iv p3, iv p4, rv kd, iv 0, iv yy3, iv yy4, iv 0, iv z9, iv z10, iv 0, rv b5, rv b6, .unset, .unset] [])) (fun _ k => XS.icmpYes X8.here hx rfl (pc0 := 168) (pc' := 177) rfl (hb hby at_168) rfl (by decide) (by decide) (by decide) k) ?_
            refine Go.st (f' := (mkF m 179 #[iv p1, iv p2, iv p3, iv p4, rv kd, iv 0, iv yy3, iv yy4, iv 0, iv z9, iv z10, iv 0, rv b5, rv b6, .unset, .unset] [(.int 0)])) (fun _ k => XS.iload X8.here hx rfl (hb hby at_177) rfl k) ?_
            refine Go.st (f' := (mkF m 182 #[iv p1, iv p2, iv p3, iv p4, rv kd, iv 0, iv yy3, iv yy4, iv 0, iv z9, iv z10, iv 0, rv b5, rv b6, .unset, .unset] [])) (fun _ k => XS.ifNo X8.here hx rfl (hb hby at_179) rfl (by decide) k) ?_
            refine Go.st (f' := (mkF m 183 #[iv p1, iv p2, iv p3, iv p4, rv kd, iv 0, iv yy3, iv yy4, iv 0, iv z9, iv z10, iv 0, rv b5, rv b6, .unset, .unset] [(.int 1)])) (fun _ k => XS.iconst X8.here hx rfl (hb hby at_182) k) ?_
            refine Go.st (f' := (mkF m 185 #[iv p1, iv p2, iv p3, iv p4, rv kd, iv 0, iv yy3, iv yy4, iv 0, iv z9, iv z10, iv 0, rv b5, rv b6, iv 1, .unset] [])) (fun _ k => XS.istore X8.here hx rfl (hb hby at_183) rfl (l' := #[iv p1, iv p2, iv p3, iv p4, rv kd, iv 0, iv yy3, iv yy4, iv 0, iv z9, iv z10, iv 0, rv b5, rv b6, iv 1, .unset]) rfl k) ?_
            refine Go.st (f' := (mkF m 232 #[iv p1, iv p2, iv p3, iv p4, rv kd, iv 0, iv yy3, iv yy4, iv 0, iv z9, iv z10, iv 0, rv b5, rv b6, iv 1, .unset] [])) (fun _ k => XS.goto X8.here hx rfl (pc0 := 185) (pc' := 232) rfl (hb hby at_185) (by decide) (by decide) k) ?_
            exact J2 (1 : Int32) (by rw [syI_0_0, if_pos cd23] <;> rfl)
          · refine Go.st (f' := (mkF m 171 #[iv p1, iv p2, iv p3, iv p4, rv kd, iv 0, iv yy3, iv yy4, iv 0, iv z9, iv z10, iv 0, rv b5, rv b6, .unset, .unset] [])) (fun _ k => Jvm.RoadKit.acmp (g := (mkF m 156 #[iv p1, iv p2, iv p3, iv p4, rv kd, iv 0, iv yy3, iv yy4, iv 0, iv z9, iv z10, iv 0, rv b5, rv b6, .unset, .unset] [(.ref w_SYMBOL), (.ref kd)])) X8 hx rfl rfl rfl (pc0 := 156) (pc' := 171) (same := false) rfl (hb hby at_156) rfl (decide_eq_false fun q => cd23 (Value.ref.inj q)) (by decide) (by decide) k) ?_
            refine Go.st (f' := (mkF m 172 #[iv p1, iv p2, iv p3, iv p4, rv kd, iv 0, iv yy3, iv yy4, iv 0, iv z9, iv z10, iv 0, rv b5, rv b6, .unset, .unset] [(.int 0)])) (fun _ k => XS.iconst X8.here hx rfl (hb hby at_171) k) ?_
            refine Go.st (f' := (mkF m 174 #[iv p1, iv p2, iv p3, iv p4, rv kd, iv 0, iv yy3, iv yy4, iv 0, iv z9, iv z10, iv 0, rv b5, rv b6, iv 0, .unset] [])) (fun _ k => XS.istore X8.here hx rfl (hb hby at_172) rfl (l' := #[iv p1, iv p2, iv p3, iv p4, rv kd, iv 0, iv yy3, iv yy4, iv 0, iv z9, iv z10, iv 0, rv b5, rv b6, iv 0, .unset]) rfl k) ?_
            refine Go.st (f' := (mkF m 232 #[iv p1, iv p2, iv p3, iv p4, rv kd, iv 0, iv yy3, iv yy4, iv 0, iv z9, iv z10, iv 0, rv b5, rv b6, iv 0, .unset] [])) (fun _ k => XS.goto X8.here hx rfl (pc0 := 174) (pc' := 232) rfl (hb hby at_174) (by decide) (by decide) k) ?_
            exact J2 (0 : Int32) (by rw [syI_0_0, if_neg cd23])
        · refine Go.st (f' := (mkF m 122 #[iv p1, iv p2, iv p3, iv p4, rv kd, iv 0, iv yy3, iv yy4, iv 1, iv z9, iv z10, iv 0, .unset, .unset, .unset, .unset] [(.int 0)])) (fun _ k => XS.iload X1.here hx rfl (hb hby at_120) rfl k) ?_
          refine Go.st (f' := (mkF m 124 #[iv p1, iv p2, iv p3, iv p4, rv kd, iv 0, iv yy3, iv yy4, iv 1, iv z9, iv z10, iv 0, .unset, .unset, .unset, .unset] [(.int yy3), (.int 0)])) (fun _ k => XS.iload X1.here hx rfl (hb hby at_122) rfl k) ?_
          refine Go.st (f' := (mkF m 126 #[iv p1, iv p2, iv p3, iv p4, rv kd, iv 0, iv yy3, iv yy4, iv 1, iv z9, iv z10, iv 0, .unset, .unset, .unset, .unset] [(.int yy4), (.int yy3), (.int 0)])) (fun _ k => XS.iload X1.here hx rfl (hb hby at_124) rfl k) ?_
          obtain ⟨_, _, ⟨T24, L24, kk24, nn24⟩, -, Xw24, hSw24, hgw24, ⟨Lc24, hQ24, lq24, yq24, zz24, crw24⟩, st24⟩ := callSS X1 hx (y := (⟨"com/example/naysay/naysay/rules/TokenIsSymbolPinLaw", "mk", "(ICC)Ljava/lang/String;"⟩ : MethodName)) hown (mvT hZ (hw _ (List.mem_of_getElem? (i := 8) rfl))) (mvT hZ (hw _ (List.mem_of_getElem? (i := 9) rfl))) (mvT hZ (hw _ (List.mem_of_getElem? (i := 2) rfl))) (mvT hZ (hw _ (List.mem_of_getElem? (i := 10) rfl))) (by decide) (own_backW (W := 0) (rmM_0 l Z a0 hw [] yy3 yy4 w_NUMBER w_SYMBOL w_NAME w_END w_STRING i_COMPACT_STRINGS v_SIOOBE_FORMATTER h0 n0 O0 (hyy3 ▸ own_b _).1 (hyy4 ▸ own_b _).1 (hyy3 ▸ own_b _).2 (hyy4 ▸ own_b _).2 WW) hZ (hw _ (List.mem_of_getElem? (i := 10) rfl)) (hw _ (List.mem_of_getElem? (i := 2) rfl)) (by decide) (by decide) hEL CR0.1) (g := (mkF m 126 #[iv p1, iv p2, iv p3, iv p4, rv kd, iv 0, iv yy3, iv yy4, iv 1, iv z9, iv z10, iv 0, .unset, .unset, .unset, .unset] [(.int yy4), (.int yy3), (.int 0)])) rfl (by rw [hml]; rfl) (argsL := [(.int (0 : Int32)), (.int yy3), (.int yy4)]) (rest := []) (lenOf pd__ICC_Ljava_lang_String_ rfl) rfl (by show 2 * 0 + _ ≤ _; exact Nat.le_of_eq rfl) (hb hby at_126) (fun _ _ => ⟨rfl, kq1, (by decide : 0 + 6 ≤ _), (by decide : 0 + 12 ≤ _)⟩)
          dsimp only [Pt.U, Pt.locs, Pt.cells, Pt.slots] at Xw24 lq24 yq24 zz24 st24 hQ24 hSw24 hgw24 crw24
          subst lq24 yq24 zz24
          obtain ⟨X24, hS24, hZ24, hown24⟩ := rebS hS (by rw [kq1]; exact (Nat.zero_le _)) Xw24 hSw24 hgw24 hZ hown
          obtain ⟨b24, rfl, Nq24, zb24, kq24, eq24, cq24, tt24, kt24, fq24, vq24⟩ := hQ24
          have N24 := Fr.app N1 Nq24
          have ne_w_NUMBER_b24 : w_NUMBER ≠ b24 := Nat.ne_of_lt (Nat.lt_of_lt_of_le lt_w_NUMBER (Nat.le_trans O0.2.1 zb24))
          have ne_w_SYMBOL_b24 : w_SYMBOL ≠ b24 := Nat.ne_of_lt (Nat.lt_of_lt_of_le lt_w_SYMBOL (Nat.le_trans O0.2.1 zb24))
          have ne_w_NAME_b24 : w_NAME ≠ b24 := Nat.ne_of_lt (Nat.lt_of_lt_of_le lt_w_NAME (Nat.le_trans O0.2.1 zb24))
          have ne_w_END_b24 : w_END ≠ b24 := Nat.ne_of_lt (Nat.lt_of_lt_of_le lt_w_END (Nat.le_trans O0.2.1 zb24))
          have ne_w_STRING_b24 : w_STRING ≠ b24 := Nat.ne_of_lt (Nat.lt_of_lt_of_le lt_w_STRING (Nat.le_trans O0.2.1 zb24))
          have g_b24 : n0 ≤ b24 := Nat.le_trans (O0.1 ▸ O0.2.1) zb24
          have O24 : Old Z n0 T24.heap := O0.keep kq24 all0
          have lt_b24 := eq24.lt
          have lt_tt24 := vq24.lt
          have nt_b24_tt24 : b24 ≠ tt24 := Exa.neArv eq24 vq24 (hw _ (List.mem_of_getElem? (i := 12) rfl))
          have hk24 : T24.heap.size ≤ T24.heap.size := Nat.le_refl _
          have CR24 := CR0.trans crw24
          refine Go.tr (f' := (mkF m 129 #[iv p1, iv p2, iv p3, iv p4, rv kd, iv 0, iv yy3, iv yy4, iv 1, iv z9, iv z10, iv 0, .unset, .unset, .unset, .unset] [(.ref b24)])) st24 ?_
          refine Go.st (f' := (mkF m 131 #[iv p1, iv p2, iv p3, iv p4, rv kd, iv 0, iv yy3, iv yy4, iv 1, iv z9, iv z10, iv 0, rv b24, .unset, .unset, .unset] [])) (fun _ k => XS.astore X24.here hx rfl (hb hby at_129) rfl rfl (l' := #[iv p1, iv p2, iv p3, iv p4, rv kd, iv 0, iv yy3, iv yy4, iv 1, iv z9, iv z10, iv 0, rv b24, .unset, .unset, .unset]) rfl k) ?_
          refine Go.st (f' := (mkF m 133 #[iv p1, iv p2, iv p3, iv p4, rv kd, iv 0, iv yy3, iv yy4, iv 1, iv z9, iv z10, iv 0, rv b24, .unset, .unset, .unset] [(.int 0)])) (fun _ k => XS.iload X24.here hx rfl (hb hby at_131) rfl k) ?_
          refine Go.st (f' := (mkF m 140 #[iv p1, iv p2, iv p3, iv p4, rv kd, iv 0, iv yy3, iv yy4, iv 1, iv z9, iv z10, iv 0, rv b24, .unset, .unset, .unset] [])) (fun _ k => XS.ifYes X24.here hx rfl (pc0 := 133) (pc' := 140) rfl (hb hby at_133) rfl (by decide) (by decide) (by decide) k) ?_
          refine Go.st (f' := (mkF m 142 #[iv p1, iv p2, iv p3, iv p4, rv kd, iv 0, iv yy3, iv yy4, iv 1, iv z9, iv z10, iv 0, rv b24, .unset, .unset, .unset] [(.int 1)])) (fun _ k => XS.iload X24.here hx rfl (hb hby at_140) rfl k) ?_
          refine Go.st (f' := (mkF m 144 #[iv p1, iv p2, iv p3, iv p4, rv kd, iv 0, iv yy3, iv yy4, iv 1, iv z9, iv z10, iv 0, rv b24, .unset, .unset, .unset] [(.int z9), (.int 1)])) (fun _ k => XS.iload X24.here hx rfl (hb hby at_142) rfl k) ?_
          refine Go.st (f' := (mkF m 146 #[iv p1, iv p2, iv p3, iv p4, rv kd, iv 0, iv yy3, iv yy4, iv 1, iv z9, iv z10, iv 0, rv b24, .unset, .unset, .unset] [(.int z10), (.int z9), (.int 1)])) (fun _ k => XS.iload X24.here hx rfl (hb hby at_144) rfl k) ?_
          obtain ⟨_, _, ⟨T25, L25, kk25, nn25⟩, -, X25, ⟨Lc25, hQ25, lq25, yq25, zz25⟩, st25⟩ := Jvm.LawKit.callS X24 hx (y := (⟨"com/example/naysay/naysay/rules/TokenIsSymbolPinLaw", "mk", "(ICC)Ljava/lang/String;"⟩ : MethodName)) hown24 (mvT hZ24 (hw _ (List.mem_of_getElem? (i := 8) rfl))) (mvT hZ24 (hw _ (List.mem_of_getElem? (i := 9) rfl))) (mvT hZ24 (hw _ (List.mem_of_getElem? (i := 2) rfl))) (mvT hZ24 (hw _ (List.mem_of_getElem? (i := 10) rfl))) (by decide) (own_back (W := 0) (rmM_1 l Z a0 hw [] z9 z10 w_NUMBER w_SYMBOL w_NAME w_END w_STRING i_COMPACT_STRINGS v_SIOOBE_FORMATTER T24.heap n0 O24 hz9.1 hz10.1 hz9.2 hz10.2 WW) hZ24 (hw _ (List.mem_of_getElem? (i := 10) rfl)) (hw _ (List.mem_of_getElem? (i := 2) rfl)) (by decide) (by decide)) (g := (mkF m 146 #[iv p1, iv p2, iv p3, iv p4, rv kd, iv 0, iv yy3, iv yy4, iv 1, iv z9, iv z10, iv 0, rv b24, .unset, .unset, .unset] [(.int z10), (.int z9), (.int 1)])) rfl (by rw [hml]; rfl) (argsL := [(.int (1 : Int32)), (.int z9), (.int z10)]) (rest := []) (lenOf pd__ICC_Ljava_lang_String_ rfl) rfl (by show 2 * 0 + _ ≤ _; exact Nat.le_of_eq rfl) (hb hby at_146) (fun _ _ => ⟨rfl, rfl, (by decide : 6 + 3 ≤ _), (by decide : 12 + 6 ≤ _)⟩)
          dsimp only [Pt.U, Pt.locs, Pt.cells, Pt.slots] at X25 lq25 yq25 zz25 st25 hQ25
          subst lq25 yq25 zz25
          obtain ⟨b25, rfl, Nq25, zb25, kq25, eq25, cq25, tt25, kt25, zq25, fq25, vq25⟩ := hQ25
          have N25 := Fr.app N24 Nq25
          have ne_b24_b25 : b24 ≠ b25 := Nat.ne_of_lt (Nat.lt_of_lt_of_le lt_b24 zb25)
          have ne_tt24_b25 : tt24 ≠ b25 := Nat.ne_of_lt (Nat.lt_of_lt_of_le lt_tt24 zb25)
          have ne_w_NUMBER_b25 : w_NUMBER ≠ b25 := Nat.ne_of_lt (Nat.lt_of_lt_of_le lt_w_NUMBER (Nat.le_trans O24.2.1 zb25))
          have ne_w_SYMBOL_b25 : w_SYMBOL ≠ b25 := Nat.ne_of_lt (Nat.lt_of_lt_of_le lt_w_SYMBOL (Nat.le_trans O24.2.1 zb25))
          have ne_w_NAME_b25 : w_NAME ≠ b25 := Nat.ne_of_lt (Nat.lt_of_lt_of_le lt_w_NAME (Nat.le_trans O24.2.1 zb25))
          have ne_w_END_b25 : w_END ≠ b25 := Nat.ne_of_lt (Nat.lt_of_lt_of_le lt_w_END (Nat.le_trans O24.2.1 zb25))
          have ne_w_STRING_b25 : w_STRING ≠ b25 := Nat.ne_of_lt (Nat.lt_of_lt_of_le lt_w_STRING (Nat.le_trans O24.2.1 zb25))
          have g_b25 : n0 ≤ b25 := Nat.le_trans (O24.1 ▸ O24.2.1) zb25
          have sn_b25 : Safe Z EL T24.vm T24.heap b25 := Safe.new zb25
          have ne_b24_tt25 : b24 ≠ tt25 := Nat.ne_of_lt (Nat.lt_of_lt_of_le lt_b24 zq25)
          have ne_tt24_tt25 : tt24 ≠ tt25 := Nat.ne_of_lt (Nat.lt_of_lt_of_le lt_tt24 zq25)
          have ne_w_NUMBER_tt25 : w_NUMBER ≠ tt25 := Nat.ne_of_lt (Nat.lt_of_lt_of_le lt_w_NUMBER (Nat.le_trans O24.2.1 zq25))
          have ne_w_SYMBOL_tt25 : w_SYMBOL ≠ tt25 := Nat.ne_of_lt (Nat.lt_of_lt_of_le lt_w_SYMBOL (Nat.le_trans O24.2.1 zq25))
          have ne_w_NAME_tt25 : w_NAME ≠ tt25 := Nat.ne_of_lt (Nat.lt_of_lt_of_le lt_w_NAME (Nat.le_trans O24.2.1 zq25))
          have ne_w_END_tt25 : w_END ≠ tt25 := Nat.ne_of_lt (Nat.lt_of_lt_of_le lt_w_END (Nat.le_trans O24.2.1 zq25))
          have ne_w_STRING_tt25 : w_STRING ≠ tt25 := Nat.ne_of_lt (Nat.lt_of_lt_of_le lt_w_STRING (Nat.le_trans O24.2.1 zq25))
          have g_tt25 : n0 ≤ tt25 := Nat.le_trans (O24.1 ▸ O24.2.1) zq25
          have sn_tt25 : Safe Z EL T24.vm T24.heap tt25 := Safe.new zq25
          have O25 : Old Z n0 T25.heap := O24.keep kq25 all0
          have CR25 : CHr Z EL s.vm h0 T24.vm T25.heap := CR24.trans (CHr.keep kq25 sf0 CR24.1)
          have lt_b25 := eq25.lt
          have lt_tt25 := vq25.lt
          refine Go.st (f' := (mkF m 149 #[iv p1, iv p2, iv p3, iv p4, rv kd, iv 0, iv yy3, iv yy4, iv 1, iv z9, iv z10, iv 0, rv b24, .unset, .unset, .unset] [(.ref b25)])) (fun _ k => st25 _ k) ?_
          refine Go.st (f' := (mkF m 151 #[iv p1, iv p2, iv p3, iv p4, rv kd, iv 0, iv yy3, iv yy4, iv 1, iv z9, iv z10, iv 0, rv b24, rv b25, .unset, .unset] [])) (fun _ k => XS.astore X25.here hx rfl (hb hby at_149) rfl rfl (l' := #[iv p1, iv p2, iv p3, iv p4, rv kd, iv 0, iv yy3, iv yy4, iv 1, iv z9, iv z10, iv 0, rv b24, rv b25, .unset, .unset]) rfl k) ?_
          refine Go.st (f' := (mkF m 153 #[iv p1, iv p2, iv p3, iv p4, rv kd, iv 0, iv yy3, iv yy4, iv 1, iv z9, iv z10, iv 0, rv b24, rv b25, .unset, .unset] [(.ref kd)])) (fun _ k => XS.aload X25.here hx rfl (hb hby at_151) rfl rfl k) ?_
          obtain ⟨T26, X26, e26, st26⟩ := getS2 X25 hx hZ24 hown24 (host := "") (Or.inl (hw _ (List.mem_of_getElem? (i := 44) rfl))) Via.refl rfl (S_w_SYMBOL.ext O25.2) (g := (mkF m 153 #[iv p1, iv p2, iv p3, iv p4, rv kd, iv 0, iv yy3, iv yy4, iv 1, iv z9, iv z10, iv 0, rv b24, rv b25, .unset, .unset] [(.ref kd)])) rfl (hb hby at_153)
          refine Go.st (f' := (mkF m 156 #[iv p1, iv p2, iv p3, iv p4, rv kd, iv 0, iv yy3, iv yy4, iv 1, iv z9, iv z10, iv 0, rv b24, rv b25, .unset, .unset] [(.ref w_SYMBOL), (.ref kd)])) (fun _ k => st26 _ k) ?_
          have J2 : ∀ (z14 : Int32), (z14 = (syI_0_1 kd w_SYMBOL (nar .byte ((nar .char z9).toInt8.toInt32)))) → Go p e below (DoneW s Z EL (QL n0) room_1.cells room_1.slots) T26 (mkF m 232 #[iv p1, iv p2, iv p3, iv p4, rv kd, iv 0, iv yy3, iv yy4, iv 1, iv z9, iv z10, iv 0, rv b24, rv b25, iv z14, .unset] []) := by
            intro z14 hz14
            obtain ⟨T27, h27, X27, e27, E27, A27, D27, -, st27⟩ := newO X26 hx hZ24 hown24 (hw _ (List.mem_of_getElem? (i := 46) rfl)) (hw _ (List.mem_of_getElem? (i := 47) rfl)) (hw _ (List.mem_of_getElem? (i := 48) rfl)) e26 (g := (mkF m 232 #[iv p1, iv p2, iv p3, iv p4, rv kd, iv 0, iv yy3, iv yy4, iv 1, iv z9, iv z10, iv 0, rv b24, rv b25, iv z14, .unset] [])) rfl (hb hby at_232) (by decide) (by decide)
            obtain ⟨b27, g27⟩ : ∃ z, z = T25.heap.size := ⟨_, rfl⟩
            rw [← g27] at A27 D27 st27
            have ft28 := (Nat.lt_of_lt_of_le lt_b24 kq25.1)
            have ne_b24_b27 : b24 ≠ b27 := Nat.ne_of_lt (Nat.lt_of_lt_of_eq ft28 g27.symm)
            have ft29 := (Nat.lt_of_lt_of_le lt_tt24 kq25.1)
            have ne_tt24_b27 : tt24 ≠ b27 := Nat.ne_of_lt (Nat.lt_of_lt_of_eq ft29 g27.symm)
            have ne_b25_b27 : b25 ≠ b27 := Nat.ne_of_lt (Nat.lt_of_lt_of_eq lt_b25 g27.symm)
            have ne_tt25_b27 : tt25 ≠ b27 := Nat.ne_of_lt (Nat.lt_of_lt_of_eq lt_tt25 g27.symm)
            have ne_w_NUMBER_b27 : w_NUMBER ≠ b27 := Nat.ne_of_lt (Nat.lt_of_lt_of_le lt_w_NUMBER (Nat.le_trans O25.2.1 (Nat.le_of_eq g27.symm)))
            have ne_w_SYMBOL_b27 : w_SYMBOL ≠ b27 := Nat.ne_of_lt (Nat.lt_of_lt_of_le lt_w_SYMBOL (Nat.le_trans O25.2.1 (Nat.le_of_eq g27.symm)))
            have ne_w_NAME_b27 : w_NAME ≠ b27 := Nat.ne_of_lt (Nat.lt_of_lt_of_le lt_w_NAME (Nat.le_trans O25.2.1 (Nat.le_of_eq g27.symm)))
            have ne_w_END_b27 : w_END ≠ b27 := Nat.ne_of_lt (Nat.lt_of_lt_of_le lt_w_END (Nat.le_trans O25.2.1 (Nat.le_of_eq g27.symm)))
            have ne_w_STRING_b27 : w_STRING ≠ b27 := Nat.ne_of_lt (Nat.lt_of_lt_of_le lt_w_STRING (Nat.le_trans O25.2.1 (Nat.le_of_eq g27.symm)))
            have g_b27 : n0 ≤ b27 := Nat.le_trans (O25.1 ▸ O25.2.1) (Nat.le_of_eq g27.symm)
            have O27 : Old Z n0 h27 := O25.ext E27
            have CR27 : CHr Z EL s.vm h0 T24.vm h27 := CR25.trans (CHr.ext E27 CR25.1)
            have sf_b27 : Safe Z EL T24.vm h27 b27 := (Safe.new (Nat.le_of_eq g27.symm)).ext E27 CR25.1
            have lt_b27 := A27.lt
            have F_kind_b27 : Fld Z h27 b27 "com/example/naysay/naysay/rules/Token" "kind" "Lcom/example/naysay/naysay/rules/Token$Kind;" .null := D27 (Or.inr (hw _ (List.mem_of_getElem? (i := 59) rfl))) (ty := (.object "com/example/naysay/naysay/rules/Token$Kind")) (by decide)
            have F_text_b27 : Fld Z h27 b27 "com/example/naysay/naysay/rules/Token" "text" "Ljava/lang/String;" .null := D27 (Or.inr (hw _ (List.mem_of_getElem? (i := 61) rfl))) (ty := (.object "java/lang/String")) (by decide)
            have F_column_b27 : Fld Z h27 b27 "com/example/naysay/naysay/rules/Token" "column" "I" (.int (0 : Int32)) := D27 (Or.inr (hw _ (List.mem_of_getElem? (i := 63) rfl))) (ty := .int) (by decide)
            refine Go.st (f' := (mkF m 235 #[iv p1, iv p2, iv p3, iv p4, rv kd, iv 0, iv yy3, iv yy4, iv 1, iv z9, iv z10, iv 0, rv b24, rv b25, iv z14, .unset] [(.ref b27)])) (fun _ k => st27 _ k) ?_
            refine Go.st (f' := (mkF m 236 #[iv p1, iv p2, iv p3, iv p4, rv kd, iv 0, iv yy3, iv yy4, iv 1, iv z9, iv z10, iv 0, rv b24, rv b25, iv z14, .unset] [(.ref b27), (.ref b27)])) (fun _ k => XS.dup X27.here hx rfl (hb hby at_235) rfl rfl k) ?_
            refine Go.st (f' := (mkF m 238 #[iv p1, iv p2, iv p3, iv p4, rv kd, iv 0, iv yy3, iv yy4, iv 1, iv z9, iv z10, iv 0, rv b24, rv b25, iv z14, .unset] [(.ref kd), (.ref b27), (.ref b27)])) (fun _ k => XS.aload X27.here hx rfl (hb hby at_236) rfl rfl k) ?_
            refine Go.st (f' := (mkF m 240 #[iv p1, iv p2, iv p3, iv p4, rv kd, iv 0, iv yy3, iv yy4, iv 1, iv z9, iv z10, iv 0, rv b24, rv b25, iv z14, .unset] [(.ref b24), (.ref kd), (.ref b27), (.ref b27)])) (fun _ k => XS.aload X27.here hx rfl (hb hby at_238) rfl rfl k) ?_
            refine Go.st (f' := (mkF m 241 #[iv p1, iv p2, iv p3, iv p4, rv kd, iv 0, iv yy3, iv yy4, iv 1, iv z9, iv z10, iv 0, rv b24, rv b25, iv z14, .unset] [(.int p4), (.ref b24), (.ref kd), (.ref b27), (.ref b27)])) (fun _ k => XS.iloadN X27.here hx rfl (hb hby at_240) rfl k) ?_
            obtain ⟨_, _, ⟨T30, L30, kk30, nn30⟩, -, X30, ⟨Lc30, hQ30, lq30, yq30, zz30⟩, st30⟩ := X27.specialBack hx (y := (⟨"com/example/naysay/naysay/rules/Token", "<init>", "(Lcom/example/naysay/naysay/rules/Token$Kind;Ljava/lang/String;I)V"⟩ : MethodName)) rfl hown24 (mvT hZ24 (hw _ (List.mem_of_getElem? (i := 49) rfl))) (mvT hZ24 (hw _ (List.mem_of_getElem? (i := 50) rfl))) (mvT hZ24 (hw _ (List.mem_of_getElem? (i := 51) rfl))) (by decide) (own_back (W := 1) (rmT l Z a0 hw [] b27 kd b24 p4 h27 n0 O27 g_b27 A27 F_kind_b27 F_text_b27 F_column_b27 ) hZ24 (hw _ (List.mem_of_getElem? (i := 51) rfl)) (hw _ (List.mem_of_getElem? (i := 48) rfl)) (by decide) (by decide)) (g := (mkF m 241 #[iv p1, iv p2, iv p3, iv p4, rv kd, iv 0, iv yy3, iv yy4, iv 1, iv z9, iv z10, iv 0, rv b24, rv b25, iv z14, .unset] [(.int p4), (.ref b24), (.ref kd), (.ref b27), (.ref b27)])) rfl (by rw [hml]; rfl) (Steps.refl _) (a := b27) (argsL := [(.ref kd), (.ref b24), (.int p4)]) (rest := [(.ref b27)]) (lenOf pd__Lcom_example_naysay_naysay_rules_Token_Kind_Ljava_lang_String_I_V rfl) rfl (by show 2 * 0 + _ ≤ _; exact Nat.le_of_eq rfl) (hb hby at_241) (fun _ _ => ⟨rfl, e27, (by decide : 10 + 0 ≤ _), (by decide : 21 + 0 ≤ _)⟩)
            dsimp only [Pt.U, Pt.locs, Pt.cells, Pt.slots] at X30 lq30 yq30 zz30 st30 hQ30
            subst lq30 yq30 zz30
            obtain ⟨rfl, Nq30, kq30, eq30, fq30_0, fq30_1, fq30_2⟩ := hQ30
            have N30 := Fr.app N25 Nq30
            have O30 : Old Z n0 T30.heap := O27.keep kq30 (allS g_b27 all0)
            have CR30 : CHr Z EL s.vm h0 T24.vm T30.heap := CR27.trans (CHr.keep kq30 (sfS sf_b27 sf0) CR27.1)
            refine Go.tr (f' := (mkF m 244 #[iv p1, iv p2, iv p3, iv p4, rv kd, iv 0, iv yy3, iv yy4, iv 1, iv z9, iv z10, iv 0, rv b24, rv b25, iv z14, .unset] [(.ref b27)])) st30 ?_
            refine Go.st (f' := (mkF m 246 #[iv p1, iv p2, iv p3, iv p4, rv kd, iv 0, iv yy3, iv yy4, iv 1, iv z9, iv z10, iv 0, rv b24, rv b25, iv z14, rv b27] [])) (fun _ k => XS.astore X30.here hx rfl (hb hby at_244) rfl rfl (l' := #[iv p1, iv p2, iv p3, iv p4, rv kd, iv 0, iv yy3, iv yy4, iv 1, iv z9, iv z10, iv 0, rv b24, rv b25, iv z14, rv b27]) rfl k) ?_
            refine Go.st (f' := (mkF m 248 #[iv p1, iv p2, iv p3, iv p4, rv kd, iv 0, iv yy3, iv yy4, iv 1, iv z9, iv z10, iv 0, rv b24, rv b25, iv z14, rv b27] [(.ref b27)])) (fun _ k => XS.aload X30.here hx rfl (hb hby at_246) rfl rfl k) ?_
            refine Go.st (f' := (mkF m 250 #[iv p1, iv p2, iv p3, iv p4, rv kd, iv 0, iv yy3, iv yy4, iv 1, iv z9, iv z10, iv 0, rv b24, rv b25, iv z14, rv b27] [(.ref b25), (.ref b27)])) (fun _ k => XS.aload X30.here hx rfl (hb hby at_248) rfl rfl k) ?_
            have ft32 := (((eq24.keep kq25).ext E27).keep kq30)
            have ft33 := (((cq24.keep kq25 nin0).ext E27).keep kq30 (ninS ne_b24_b27 nin0))
            have ft34 := (((fq24.keep kq25 nin0).ext E27).keep kq30 (ninS ne_b24_b27 nin0))
            have ft35 := (((vq24.keep kq25 nin0).ext E27).keep kq30 (ninS ne_tt24_b27 nin0))
            have ft36 := ((eq25.ext E27).keep kq30)
            have ft37 := ((cq25.ext E27).keep kq30 (ninS ne_b25_b27 nin0))
            have ft38 := ((fq25.ext E27).keep kq30 (ninS ne_b25_b27 nin0))
            have ft39 := ((vq25.ext E27).keep kq30 (ninS ne_tt25_b27 nin0))
            obtain ⟨cq31, kq31, q31a, q31b, q31c⟩ := isOf hZ24 rfl eq30
            obtain ⟨_, _, ⟨T31, L31, kk31, nn31⟩, -, X31, ⟨Lc31, hQ31, lq31, yq31, zz31⟩, st31⟩ := X30.virtualBack hx (y := (⟨"com/example/naysay/naysay/rules/Token", "isSymbol", "(Ljava/lang/String;)Z"⟩ : MethodName)) (z := (⟨"com/example/naysay/naysay/rules/Token", "isSymbol", "(Ljava/lang/String;)Z"⟩ : MethodName)) hown24 (mvT hZ24 (hw _ (List.mem_of_getElem? (i := 64) rfl))) (mvT hZ24 (hw _ (List.mem_of_getElem? (i := 65) rfl))) (notFace_of_selects (args := #[]) (mvT hZ24 (hw _ (List.mem_of_getElem? (i := 67) rfl)))) (mvT hZ24 (hw _ (List.mem_of_getElem? (i := 67) rfl))) (mvT hZ24 (hw _ (List.mem_of_getElem? (i := 66) rfl))) (by decide) (own_back (W := 0) (rmS_0_1 l Z a0 hw [] b27 kd b24 tt24 kt24 b25 tt25 kt25 (nar .byte ((nar .char z9).toInt8.toInt32)) w_NUMBER w_SYMBOL w_NAME w_END w_STRING i_COMPACT_STRINGS v_SIOOBE_FORMATTER T30.heap n0 O30 eq30 fq30_0 fq30_1 ft32 ft33 ft34 ft35 ne_b24_b25 ft36 ft37 ft38 ft39 WW) hZ24 (hw _ (List.mem_of_getElem? (i := 68) rfl)) (hw _ (List.mem_of_getElem? (i := 48) rfl)) (by decide) (by decide)) q31a q31c (g := (mkF m 250 #[iv p1, iv p2, iv p3, iv p4, rv kd, iv 0, iv yy3, iv yy4, iv 1, iv z9, iv z10, iv 0, rv b24, rv b25, iv z14, rv b27] [(.ref b25), (.ref b27)])) rfl (by rw [hml]; rfl) (Steps.refl _) (argsL := [(.ref b25)]) (rest := []) (lenOf pd__Ljava_lang_String__Z rfl) rfl (by show 2 * 0 + _ ≤ _; exact Nat.le_of_eq rfl) (hb hby at_250) (fun _ _ => ⟨rfl, rfl, (by decide : 10 + 0 ≤ _), (by decide : 21 + 0 ≤ _)⟩)
            dsimp only [Pt.U, Pt.locs, Pt.cells, Pt.slots] at X31 lq31 yq31 zz31 st31 hQ31
            subst lq31 yq31 zz31
            obtain ⟨rfl, Nq31, kq31⟩ := hQ31
            have N31 := Fr.app N30 Nq31
            refine Go.tr (f' := (mkF m 253 #[iv p1, iv p2, iv p3, iv p4, rv kd, iv 0, iv yy3, iv yy4, iv 1, iv z9, iv z10, iv 0, rv b24, rv b25, iv z14, rv b27] [(.int (syI_0_1 kd w_SYMBOL (nar .byte ((nar .char z9).toInt8.toInt32))))])) st31 ?_
            refine Go.st (f' := (mkF m 255 #[iv p1, iv p2, iv p3, iv p4, rv kd, iv 0, iv yy3, iv yy4, iv 1, iv z9, iv z10, iv 0, rv b24, rv b25, iv z14, rv b27] [(.int z14), (.int (syI_0_1 kd w_SYMBOL (nar .byte ((nar .char z9).toInt8.toInt32))))])) (fun _ k => XS.iload X31.here hx rfl (hb hby at_253) rfl k) ?_
            refine Go.st (f' := (mkF m 258 #[iv p1, iv p2, iv p3, iv p4, rv kd, iv 0, iv yy3, iv yy4, iv 1, iv z9, iv z10, iv 0, rv b24, rv b25, iv z14, rv b27] [])) (fun _ k => XS.icmpNo X31.here hx rfl (hb hby at_255) rfl (teq hz14.symm).2 k) ?_
            refine Go.st (f' := (mkF m 259 #[iv p1, iv p2, iv p3, iv p4, rv kd, iv 0, iv yy3, iv yy4, iv 1, iv z9, iv z10, iv 0, rv b24, rv b25, iv z14, rv b27] [(.int 1)])) (fun _ k => XS.iconst X31.here hx rfl (hb hby at_258) k) ?_
            refine Go.st (f' := (mkF m 263 #[iv p1, iv p2, iv p3, iv p4, rv kd, iv 0, iv yy3, iv yy4, iv 1, iv z9, iv z10, iv 0, rv b24, rv b25, iv z14, rv b27] [(.int 1)])) (fun _ k => XS.goto X31.here hx rfl (pc0 := 259) (pc' := 263) rfl (hb hby at_259) (by decide) (by decide) k) ?_
            have ft40 := (Nat.le_trans (Nat.le_trans (Nat.le_trans hk24 kq25.1) E27.1) kq30.1)
            refine GoW.retB X31 hlk hx (t := .boolean) hret (by simp) (hb hby at_263) kq31 hS24 ft40 hZ24 hEL CR30 hh ?_ (by decide) (by decide)
            exact ⟨rfl, N31⟩
          by_cases cd41 : kd = w_SYMBOL
          · refine Go.st (f' := (mkF m 159 #[iv p1, iv p2, iv p3, iv p4, rv kd, iv 0, iv yy3, iv yy4, iv 1, iv z9, iv z10, iv 0, rv b24, rv b25, .unset, .unset] [])) (fun _ k => Jvm.RoadKit.acmp (g := (mkF m 156 #[iv p1, iv p2, iv p3, iv p4, rv kd, iv 0, iv yy3, iv yy4, iv 1, iv z9, iv z10, iv 0, rv b24, rv b25, .unset, .unset] [(.ref w_SYMBOL), (.ref kd)])) X26 hx rfl rfl rfl (pc0 := 156) (pc' := 159) (same := true) rfl (hb hby at_156) rfl (decide_eq_true (congrArg Value.ref cd41)) (by decide) (by decide) k) ?_
            refine Go.st (f' := (mkF m 161 #[iv p1, iv p2, iv p3, iv p4, rv kd, iv 0, iv yy3, iv yy4, iv 1, iv z9, iv z10, iv 0, rv b24, rv b25, .unset, .unset] [(.int 0)])) (fun _ k => XS.iload X26.here hx rfl (hb hby at_159) rfl k) ?_
            refine Go.st (f' := (mkF m 164 #[iv p1, iv p2, iv p3, iv p4, rv kd, iv 0, iv yy3, iv yy4, iv 1, iv z9, iv z10, iv 0, rv b24, rv b25, .unset, .unset] [])) (fun _ k => XS.ifNo X26.here hx rfl (hb hby at_161) rfl (by decide) k) ?_
            refine Go.st (f' := (mkF m 166 #[iv p1, iv p2, iv p3, iv p4, rv kd, iv 0, iv yy3, iv yy4, iv 1, iv z9, iv z10, iv 0, rv b24, rv b25, .unset, .unset] [(.int 0)])) (fun _ k => XS.iload X26.here hx rfl (hb hby at_164) rfl k) ?_
            refine Go.st (f' := (mkF m 168 #[iv p1, iv p2, iv p3, iv p4, rv kd, iv 0, iv yy3, iv yy4, iv 1, iv z9, iv z10, iv 0, rv b24, rv b25, .unset, .unset] [(.int 1), (.int 0)])) (fun _ k => XS.iload X26.here hx rfl (hb hby at_166) rfl k) ?_
            refine Go.st (f' := (mkF m 171 #[iv p1, iv p2, iv p3, iv p4, rv kd, iv 0, iv yy3, iv yy4, iv 1, iv z9, iv z10, iv 0, rv b24, rv b25, .unset, .unset] [])) (fun _ k => XS.icmpNo X26.here hx rfl (hb hby at_168) rfl (by decide) k) ?_
            refine Go.st (f' := (mkF m 172 #[iv p1, iv p2, iv p3, iv p4, rv kd, iv 0, iv yy3, iv yy4, iv 1, iv z9, iv z10, iv 0, rv b24, rv b25, .unset, .unset] [(.int 0)])) (fun _ k => XS.iconst X26.here hx rfl (hb hby at_171) k) ?_
            refine Go.st (f' := (mkF m 174 #[iv p1, iv p2, iv p3, iv p4, rv kd, iv 0, iv yy3, iv yy4, iv 1, iv z9, iv z10, iv 0, rv b24, rv b25, iv 0, .unset] [])) (fun _ k => XS.istore X26.here hx rfl (hb hby at_172) rfl (l' := #[iv p1, iv p2, iv p3, iv p4, rv kd, iv 0, iv yy3, iv yy4, iv 1, iv z9, iv z10, iv 0, rv b24, rv b25, iv 0, .unset]) rfl k) ?_
            refine Go.st (f' := (mkF m 232 #[iv p1, iv p2, iv p3, iv p4, rv kd, iv 0, iv yy3, iv yy4, iv 1, iv z9, iv z10, iv 0, rv b24, rv b25, iv 0, .unset] [])) (fun _ k => XS.goto X26.here hx rfl (pc0 := 174) (pc' := 232) rfl (hb hby at_174) (by decide) (by decide) k) ?_
            exact J2 (0 : Int32) (by rw [syI_0_1, if_pos cd41] <;> rfl)
          · refine Go.st (f' := (mkF m 171 #[iv p1, iv p2, iv p3, iv p4, rv kd, iv 0, iv yy3, iv yy4, iv 1, iv z9, iv z10, iv 0, rv b24, rv b25, .unset, .unset] [])) (fun _ k => Jvm.RoadKit.acmp (g := (mkF m 156 #[iv p1, iv p2, iv p3, iv p4, rv kd, iv 0, iv yy3, iv yy4, iv 1, iv z9, iv z10, iv 0, rv b24, rv b25, .unset, .unset] [(.ref w_SYMBOL), (.ref kd)])) X26 hx rfl rfl rfl (pc0 := 156) (pc' := 171) (same := false) rfl (hb hby at_156) rfl (decide_eq_false fun q => cd41 (Value.ref.inj q)) (by decide) (by decide) k) ?_
            refine Go.st (f' := (mkF m 172 #[iv p1, iv p2, iv p3, iv p4, rv kd, iv 0, iv yy3, iv yy4, iv 1, iv z9, iv z10, iv 0, rv b24, rv b25, .unset, .unset] [(.int 0)])) (fun _ k => XS.iconst X26.here hx rfl (hb hby at_171) k) ?_
            refine Go.st (f' := (mkF m 174 #[iv p1, iv p2, iv p3, iv p4, rv kd, iv 0, iv yy3, iv yy4, iv 1, iv z9, iv z10, iv 0, rv b24, rv b25, iv 0, .unset] [])) (fun _ k => XS.istore X26.here hx rfl (hb hby at_172) rfl (l' := #[iv p1, iv p2, iv p3, iv p4, rv kd, iv 0, iv yy3, iv yy4, iv 1, iv z9, iv z10, iv 0, rv b24, rv b25, iv 0, .unset]) rfl k) ?_
            refine Go.st (f' := (mkF m 232 #[iv p1, iv p2, iv p3, iv p4, rv kd, iv 0, iv yy3, iv yy4, iv 1, iv z9, iv z10, iv 0, rv b24, rv b25, iv 0, .unset] [])) (fun _ k => XS.goto X26.here hx rfl (pc0 := 174) (pc' := 232) rfl (hb hby at_174) (by decide) (by decide) k) ?_
            exact J2 (0 : Int32) (by rw [syI_0_1, if_neg cd41])
        · refine Go.st (f' := (mkF m 122 #[iv p1, iv p2, iv p3, iv p4, rv kd, iv 0, iv yy3, iv yy4, iv 2, iv z9, iv z10, iv 0, .unset, .unset, .unset, .unset] [(.int 0)])) (fun _ k => XS.iload X1.here hx rfl (hb hby at_120) rfl k) ?_
          refine Go.st (f' := (mkF m 124 #[iv p1, iv p2, iv p3, iv p4, rv kd, iv 0, iv yy3, iv yy4, iv 2, iv z9, iv z10, iv 0, .unset, .unset, .unset, .unset] [(.int yy3), (.int 0)])) (fun _ k => XS.iload X1.here hx rfl (hb hby at_122) rfl k) ?_
          refine Go.st (f' := (mkF m 126 #[iv p1, iv p2, iv p3, iv p4, rv kd, iv 0, iv yy3, iv yy4, iv 2, iv z9, iv z10, iv 0, .unset, .unset, .unset, .unset] [(.int yy4), (.int yy3), (.int 0)])) (fun _ k => XS.iload X1.here hx rfl (hb hby at_124) rfl k) ?_
          obtain ⟨_, _, ⟨T42, L42, kk42, nn42⟩, -, Xw42, hSw42, hgw42, ⟨Lc42, hQ42, lq42, yq42, zz42, crw42⟩, st42⟩ := callSS X1 hx (y := (⟨"com/example/naysay/naysay/rules/TokenIsSymbolPinLaw", "mk", "(ICC)Ljava/lang/String;"⟩ : MethodName)) hown (mvT hZ (hw _ (List.mem_of_getElem? (i := 8) rfl))) (mvT hZ (hw _ (List.mem_of_getElem? (i := 9) rfl))) (mvT hZ (hw _ (List.mem_of_getElem? (i := 2) rfl))) (mvT hZ (hw _ (List.mem_of_getElem? (i := 10) rfl))) (by decide) (own_backW (W := 0) (rmM_0 l Z a0 hw [] yy3 yy4 w_NUMBER w_SYMBOL w_NAME w_END w_STRING i_COMPACT_STRINGS v_SIOOBE_FORMATTER h0 n0 O0 (hyy3 ▸ own_b _).1 (hyy4 ▸ own_b _).1 (hyy3 ▸ own_b _).2 (hyy4 ▸ own_b _).2 WW) hZ (hw _ (List.mem_of_getElem? (i := 10) rfl)) (hw _ (List.mem_of_getElem? (i := 2) rfl)) (by decide) (by decide) hEL CR0.1) (g := (mkF m 126 #[iv p1, iv p2, iv p3, iv p4, rv kd, iv 0, iv yy3, iv yy4, iv 2, iv z9, iv z10, iv 0, .unset, .unset, .unset, .unset] [(.int yy4), (.int yy3), (.int 0)])) rfl (by rw [hml]; rfl) (argsL := [(.int (0 : Int32)), (.int yy3), (.int yy4)]) (rest := []) (lenOf pd__ICC_Ljava_lang_String_ rfl) rfl (by show 2 * 0 + _ ≤ _; exact Nat.le_of_eq rfl) (hb hby at_126) (fun _ _ => ⟨rfl, kq1, (by decide : 0 + 6 ≤ _), (by decide : 0 + 12 ≤ _)⟩)
          dsimp only [Pt.U, Pt.locs, Pt.cells, Pt.slots] at Xw42 lq42 yq42 zz42 st42 hQ42 hSw42 hgw42 crw42
          subst lq42 yq42 zz42
          obtain ⟨X42, hS42, hZ42, hown42⟩ := rebS hS (by rw [kq1]; exact (Nat.zero_le _)) Xw42 hSw42 hgw42 hZ hown
          obtain ⟨b42, rfl, Nq42, zb42, kq42, eq42, cq42, tt42, kt42, fq42, vq42⟩ := hQ42
          have N42 := Fr.app N1 Nq42
          have ne_w_NUMBER_b42 : w_NUMBER ≠ b42 := Nat.ne_of_lt (Nat.lt_of_lt_of_le lt_w_NUMBER (Nat.le_trans O0.2.1 zb42))
          have ne_w_SYMBOL_b42 : w_SYMBOL ≠ b42 := Nat.ne_of_lt (Nat.lt_of_lt_of_le lt_w_SYMBOL (Nat.le_trans O0.2.1 zb42))
          have ne_w_NAME_b42 : w_NAME ≠ b42 := Nat.ne_of_lt (Nat.lt_of_lt_of_le lt_w_NAME (Nat.le_trans O0.2.1 zb42))
          have ne_w_END_b42 : w_END ≠ b42 := Nat.ne_of_lt (Nat.lt_of_lt_of_le lt_w_END (Nat.le_trans O0.2.1 zb42))
          have ne_w_STRING_b42 : w_STRING ≠ b42 := Nat.ne_of_lt (Nat.lt_of_lt_of_le lt_w_STRING (Nat.le_trans O0.2.1 zb42))
          have g_b42 : n0 ≤ b42 := Nat.le_trans (O0.1 ▸ O0.2.1) zb42
          have O42 : Old Z n0 T42.heap := O0.keep kq42 all0
          have lt_b42 := eq42.lt
          have lt_tt42 := vq42.lt
          have nt_b42_tt42 : b42 ≠ tt42 := Exa.neArv eq42 vq42 (hw _ (List.mem_of_getElem? (i := 12) rfl))
          have hk42 : T42.heap.size ≤ T42.heap.size := Nat.le_refl _
          have CR42 := CR0.trans crw42
          refine Go.tr (f' := (mkF m 129 #[iv p1, iv p2, iv p3, iv p4, rv kd, iv 0, iv yy3, iv yy4, iv 2, iv z9, iv z10, iv 0, .unset, .unset, .unset, .unset] [(.ref b42)])) st42 ?_
          refine Go.st (f' := (mkF m 131 #[iv p1, iv p2, iv p3, iv p4, rv kd, iv 0, iv yy3, iv yy4, iv 2, iv z9, iv z10, iv 0, rv b42, .unset, .unset, .unset] [])) (fun _ k => XS.astore X42.here hx rfl (hb hby at_129) rfl rfl (l' := #[iv p1, iv p2, iv p3, iv p4, rv kd, iv 0, iv yy3, iv yy4, iv 2, iv z9, iv z10, iv 0, rv b42, .unset, .unset, .unset]) rfl k) ?_
          refine Go.st (f' := (mkF m 133 #[iv p1, iv p2, iv p3, iv p4, rv kd, iv 0, iv yy3, iv yy4, iv 2, iv z9, iv z10, iv 0, rv b42, .unset, .unset, .unset] [(.int 0)])) (fun _ k => XS.iload X42.here hx rfl (hb hby at_131) rfl k) ?_
          refine Go.st (f' := (mkF m 140 #[iv p1, iv p2, iv p3, iv p4, rv kd, iv 0, iv yy3, iv yy4, iv 2, iv z9, iv z10, iv 0, rv b42, .unset, .unset, .unset] [])) (fun _ k => XS.ifYes X42.here hx rfl (pc0 := 133) (pc' := 140) rfl (hb hby at_133) rfl (by decide) (by decide) (by decide) k) ?_
          refine Go.st (f' := (mkF m 142 #[iv p1, iv p2, iv p3, iv p4, rv kd, iv 0, iv yy3, iv yy4, iv 2, iv z9, iv z10, iv 0, rv b42, .unset, .unset, .unset] [(.int 2)])) (fun _ k => XS.iload X42.here hx rfl (hb hby at_140) rfl k) ?_
          refine Go.st (f' := (mkF m 144 #[iv p1, iv p2, iv p3, iv p4, rv kd, iv 0, iv yy3, iv yy4, iv 2, iv z9, iv z10, iv 0, rv b42, .unset, .unset, .unset] [(.int z9), (.int 2)])) (fun _ k => XS.iload X42.here hx rfl (hb hby at_142) rfl k) ?_
          refine Go.st (f' := (mkF m 146 #[iv p1, iv p2, iv p3, iv p4, rv kd, iv 0, iv yy3, iv yy4, iv 2, iv z9, iv z10, iv 0, rv b42, .unset, .unset, .unset] [(.int z10), (.int z9), (.int 2)])) (fun _ k => XS.iload X42.here hx rfl (hb hby at_144) rfl k) ?_
          obtain ⟨_, _, ⟨T43, L43, kk43, nn43⟩, -, X43, ⟨Lc43, hQ43, lq43, yq43, zz43⟩, st43⟩ := Jvm.LawKit.callS X42 hx (y := (⟨"com/example/naysay/naysay/rules/TokenIsSymbolPinLaw", "mk", "(ICC)Ljava/lang/String;"⟩ : MethodName)) hown42 (mvT hZ42 (hw _ (List.mem_of_getElem? (i := 8) rfl))) (mvT hZ42 (hw _ (List.mem_of_getElem? (i := 9) rfl))) (mvT hZ42 (hw _ (List.mem_of_getElem? (i := 2) rfl))) (mvT hZ42 (hw _ (List.mem_of_getElem? (i := 10) rfl))) (by decide) (own_back (W := 0) (rmM_2 l Z a0 hw [] z9 z10 w_NUMBER w_SYMBOL w_NAME w_END w_STRING i_COMPACT_STRINGS v_SIOOBE_FORMATTER T42.heap n0 O42 hz9.1 hz10.1 hz9.2 hz10.2 WW) hZ42 (hw _ (List.mem_of_getElem? (i := 10) rfl)) (hw _ (List.mem_of_getElem? (i := 2) rfl)) (by decide) (by decide)) (g := (mkF m 146 #[iv p1, iv p2, iv p3, iv p4, rv kd, iv 0, iv yy3, iv yy4, iv 2, iv z9, iv z10, iv 0, rv b42, .unset, .unset, .unset] [(.int z10), (.int z9), (.int 2)])) rfl (by rw [hml]; rfl) (argsL := [(.int (2 : Int32)), (.int z9), (.int z10)]) (rest := []) (lenOf pd__ICC_Ljava_lang_String_ rfl) rfl (by show 2 * 0 + _ ≤ _; exact Nat.le_of_eq rfl) (hb hby at_146) (fun _ _ => ⟨rfl, rfl, (by decide : 6 + 3 ≤ _), (by decide : 12 + 8 ≤ _)⟩)
          dsimp only [Pt.U, Pt.locs, Pt.cells, Pt.slots] at X43 lq43 yq43 zz43 st43 hQ43
          subst lq43 yq43 zz43
          obtain ⟨b43, rfl, Nq43, zb43, kq43, eq43, cq43, tt43, kt43, zq43, fq43, vq43⟩ := hQ43
          have N43 := Fr.app N42 Nq43
          have ne_b42_b43 : b42 ≠ b43 := Nat.ne_of_lt (Nat.lt_of_lt_of_le lt_b42 zb43)
          have ne_tt42_b43 : tt42 ≠ b43 := Nat.ne_of_lt (Nat.lt_of_lt_of_le lt_tt42 zb43)
          have ne_w_NUMBER_b43 : w_NUMBER ≠ b43 := Nat.ne_of_lt (Nat.lt_of_lt_of_le lt_w_NUMBER (Nat.le_trans O42.2.1 zb43))
          have ne_w_SYMBOL_b43 : w_SYMBOL ≠ b43 := Nat.ne_of_lt (Nat.lt_of_lt_of_le lt_w_SYMBOL (Nat.le_trans O42.2.1 zb43))
          have ne_w_NAME_b43 : w_NAME ≠ b43 := Nat.ne_of_lt (Nat.lt_of_lt_of_le lt_w_NAME (Nat.le_trans O42.2.1 zb43))
          have ne_w_END_b43 : w_END ≠ b43 := Nat.ne_of_lt (Nat.lt_of_lt_of_le lt_w_END (Nat.le_trans O42.2.1 zb43))
          have ne_w_STRING_b43 : w_STRING ≠ b43 := Nat.ne_of_lt (Nat.lt_of_lt_of_le lt_w_STRING (Nat.le_trans O42.2.1 zb43))
          have g_b43 : n0 ≤ b43 := Nat.le_trans (O42.1 ▸ O42.2.1) zb43
          have sn_b43 : Safe Z EL T42.vm T42.heap b43 := Safe.new zb43
          have ne_b42_tt43 : b42 ≠ tt43 := Nat.ne_of_lt (Nat.lt_of_lt_of_le lt_b42 zq43)
          have ne_tt42_tt43 : tt42 ≠ tt43 := Nat.ne_of_lt (Nat.lt_of_lt_of_le lt_tt42 zq43)
          have ne_w_NUMBER_tt43 : w_NUMBER ≠ tt43 := Nat.ne_of_lt (Nat.lt_of_lt_of_le lt_w_NUMBER (Nat.le_trans O42.2.1 zq43))
          have ne_w_SYMBOL_tt43 : w_SYMBOL ≠ tt43 := Nat.ne_of_lt (Nat.lt_of_lt_of_le lt_w_SYMBOL (Nat.le_trans O42.2.1 zq43))
          have ne_w_NAME_tt43 : w_NAME ≠ tt43 := Nat.ne_of_lt (Nat.lt_of_lt_of_le lt_w_NAME (Nat.le_trans O42.2.1 zq43))
          have ne_w_END_tt43 : w_END ≠ tt43 := Nat.ne_of_lt (Nat.lt_of_lt_of_le lt_w_END (Nat.le_trans O42.2.1 zq43))
          have ne_w_STRING_tt43 : w_STRING ≠ tt43 := Nat.ne_of_lt (Nat.lt_of_lt_of_le lt_w_STRING (Nat.le_trans O42.2.1 zq43))
          have g_tt43 : n0 ≤ tt43 := Nat.le_trans (O42.1 ▸ O42.2.1) zq43
          have sn_tt43 : Safe Z EL T42.vm T42.heap tt43 := Safe.new zq43
          have O43 : Old Z n0 T43.heap := O42.keep kq43 all0
          have CR43 : CHr Z EL s.vm h0 T42.vm T43.heap := CR42.trans (CHr.keep kq43 sf0 CR42.1)
          have lt_b43 := eq43.lt
          have lt_tt43 := vq43.lt
          refine Go.st (f' := (mkF m 149 #[iv p1, iv p2, iv p3, iv p4, rv kd, iv 0, iv yy3, iv yy4, iv 2, iv z9, iv z10, iv 0, rv b42, .unset, .unset, .unset] [(.ref b43)])) (fun _ k => st43 _ k) ?_
          refine Go.st (f' := (mkF m 151 #[iv p1, iv p2, iv p3, iv p4, rv kd, iv 0, iv yy3, iv yy4, iv 2, iv z9, iv z10, iv 0, rv b42, rv b43, .unset, .unset] [])) (fun _ k => XS.astore X43.here hx rfl (hb hby at_149) rfl rfl (l' := #[iv p1, iv p2, iv p3, iv p4, rv kd, iv 0, iv yy3, iv yy4, iv 2, iv z9, iv z10, iv 0, rv b42, rv b43, .unset, .unset]) rfl k) ?_
          refine Go.st (f' := (mkF m 153 #[iv p1, iv p2, iv p3, iv p4, rv kd, iv 0, iv yy3, iv yy4, iv 2, iv z9, iv z10, iv 0, rv b42, rv b43, .unset, .unset] [(.ref kd)])) (fun _ k => XS.aload X43.here hx rfl (hb hby at_151) rfl rfl k) ?_
          obtain ⟨T44, X44, e44, st44⟩ := getS2 X43 hx hZ42 hown42 (host := "") (Or.inl (hw _ (List.mem_of_getElem? (i := 44) rfl))) Via.refl rfl (S_w_SYMBOL.ext O43.2) (g := (mkF m 153 #[iv p1, iv p2, iv p3, iv p4, rv kd, iv 0, iv yy3, iv yy4, iv 2, iv z9, iv z10, iv 0, rv b42, rv b43, .unset, .unset] [(.ref kd)])) rfl (hb hby at_153)
          refine Go.st (f' := (mkF m 156 #[iv p1, iv p2, iv p3, iv p4, rv kd, iv 0, iv yy3, iv yy4, iv 2, iv z9, iv z10, iv 0, rv b42, rv b43, .unset, .unset] [(.ref w_SYMBOL), (.ref kd)])) (fun _ k => st44 _ k) ?_
          have J2 : ∀ (z14 : Int32), (z14 = (syI_0_2 kd w_SYMBOL (nar .byte ((nar .char z9).toInt8.toInt32)) (nar .byte ((nar .char z10).toInt8.toInt32)))) → Go p e below (DoneW s Z EL (QL n0) room_1.cells room_1.slots) T44 (mkF m 232 #[iv p1, iv p2, iv p3, iv p4, rv kd, iv 0, iv yy3, iv yy4, iv 2, iv z9, iv z10, iv 0, rv b42, rv b43, iv z14, .unset] []) := by
            intro z14 hz14
            obtain ⟨T45, h45, X45, e45, E45, A45, D45, -, st45⟩ := newO X44 hx hZ42 hown42 (hw _ (List.mem_of_getElem? (i := 46) rfl)) (hw _ (List.mem_of_getElem? (i := 47) rfl)) (hw _ (List.mem_of_getElem? (i := 48) rfl)) e44 (g := (mkF m 232 #[iv p1, iv p2, iv p3, iv p4, rv kd, iv 0, iv yy3, iv yy4, iv 2, iv z9, iv z10, iv 0, rv b42, rv b43, iv z14, .unset] [])) rfl (hb hby at_232) (by decide) (by decide)
            obtain ⟨b45, g45⟩ : ∃ z, z = T43.heap.size := ⟨_, rfl⟩
            rw [← g45] at A45 D45 st45
            have ft46 := (Nat.lt_of_lt_of_le lt_b42 kq43.1)
            have ne_b42_b45 : b42 ≠ b45 := Nat.ne_of_lt (Nat.lt_of_lt_of_eq ft46 g45.symm)
            have ft47 := (Nat.lt_of_lt_of_le lt_tt42 kq43.1)
            have ne_tt42_b45 : tt42 ≠ b45 := Nat.ne_of_lt (Nat.lt_of_lt_of_eq ft47 g45.symm)
            have ne_b43_b45 : b43 ≠ b45 := Nat.ne_of_lt (Nat.lt_of_lt_of_eq lt_b43 g45.symm)
            have ne_tt43_b45 : tt43 ≠ b45 := Nat.ne_of_lt (Nat.lt_of_lt_of_eq lt_tt43 g45.symm)
            have ne_w_NUMBER_b45 : w_NUMBER ≠ b45 := Nat.ne_of_lt (Nat.lt_of_lt_of_le lt_w_NUMBER (Nat.le_trans O43.2.1 (Nat.le_of_eq g45.symm)))
            have ne_w_SYMBOL_b45 : w_SYMBOL ≠ b45 := Nat.ne_of_lt (Nat.lt_of_lt_of_le lt_w_SYMBOL (Nat.le_trans O43.2.1 (Nat.le_of_eq g45.symm)))
            have ne_w_NAME_b45 : w_NAME ≠ b45 := Nat.ne_of_lt (Nat.lt_of_lt_of_le lt_w_NAME (Nat.le_trans O43.2.1 (Nat.le_of_eq g45.symm)))
            have ne_w_END_b45 : w_END ≠ b45 := Nat.ne_of_lt (Nat.lt_of_lt_of_le lt_w_END (Nat.le_trans O43.2.1 (Nat.le_of_eq g45.symm)))
            have ne_w_STRING_b45 : w_STRING ≠ b45 := Nat.ne_of_lt (Nat.lt_of_lt_of_le lt_w_STRING (Nat.le_trans O43.2.1 (Nat.le_of_eq g45.symm)))
            have g_b45 : n0 ≤ b45 := Nat.le_trans (O43.1 ▸ O43.2.1) (Nat.le_of_eq g45.symm)
            have O45 : Old Z n0 h45 := O43.ext E45
            have CR45 : CHr Z EL s.vm h0 T42.vm h45 := CR43.trans (CHr.ext E45 CR43.1)
            have sf_b45 : Safe Z EL T42.vm h45 b45 := (Safe.new (Nat.le_of_eq g45.symm)).ext E45 CR43.1
            have lt_b45 := A45.lt
            have F_kind_b45 : Fld Z h45 b45 "com/example/naysay/naysay/rules/Token" "kind" "Lcom/example/naysay/naysay/rules/Token$Kind;" .null := D45 (Or.inr (hw _ (List.mem_of_getElem? (i := 59) rfl))) (ty := (.object "com/example/naysay/naysay/rules/Token$Kind")) (by decide)
            have F_text_b45 : Fld Z h45 b45 "com/example/naysay/naysay/rules/Token" "text" "Ljava/lang/String;" .null := D45 (Or.inr (hw _ (List.mem_of_getElem? (i := 61) rfl))) (ty := (.object "java/lang/String")) (by decide)
            have F_column_b45 : Fld Z h45 b45 "com/example/naysay/naysay/rules/Token" "column" "I" (.int (0 : Int32)) := D45 (Or.inr (hw _ (List.mem_of_getElem? (i := 63) rfl))) (ty := .int) (by decide)
            refine Go.st (f' := (mkF m 235 #[iv p1, iv p2, iv p3, iv p4, rv kd, iv 0, iv yy3, iv yy4, iv 2, iv z9, iv z10, iv 0, rv b42, rv b43, iv z14, .unset] [(.ref b45)])) (fun _ k => st45 _ k) ?_
            refine Go.st (f' := (mkF m 236 #[iv p1, iv p2, iv p3, iv p4, rv kd, iv 0, iv yy3, iv yy4, iv 2, iv z9, iv z10, iv 0, rv b42, rv b43, iv z14, .unset] [(.ref b45), (.ref b45)])) (fun _ k => XS.dup X45.here hx rfl (hb hby at_235) rfl rfl k) ?_
            refine Go.st (f' := (mkF m 238 #[iv p1, iv p2, iv p3, iv p4, rv kd, iv 0, iv yy3, iv yy4, iv 2, iv z9, iv z10, iv 0, rv b42, rv b43, iv z14, .unset] [(.ref kd), (.ref b45), (.ref b45)])) (fun _ k => XS.aload X45.here hx rfl (hb hby at_236) rfl rfl k) ?_
            refine Go.st (f' := (mkF m 240 #[iv p1, iv p2, iv p3, iv p4, rv kd, iv 0, iv yy3, iv yy4, iv 2, iv z9, iv z10, iv 0, rv b42, rv b43, iv z14, .unset] [(.ref b42), (.ref kd), (.ref b45), (.ref b45)])) (fun _ k => XS.aload X45.here hx rfl (hb hby at_238) rfl rfl k) ?_
            refine Go.st (f' := (mkF m 241 #[iv p1, iv p2, iv p3, iv p4, rv kd, iv 0, iv yy3, iv yy4, iv 2, iv z9, iv z10, iv 0, rv b42, rv b43, iv z14, .unset] [(.int p4), (.ref b42), (.ref kd), (.ref b45), (.ref b45)])) (fun _ k => XS.iloadN X45.here hx rfl (hb hby at_240) rfl k) ?_
            obtain ⟨_, _, ⟨T48, L48, kk48, nn48⟩, -, X48, ⟨Lc48, hQ48, lq48, yq48, zz48⟩, st48⟩ := X45.specialBack hx (y := (⟨"com/example/naysay/naysay/rules/Token", "<init>", "(Lcom/example/naysay/naysay/rules/Token$Kind;Ljava/lang/String;I)V"⟩ : MethodName)) rfl hown42 (mvT hZ42 (hw _ (List.mem_of_getElem? (i := 49) rfl))) (mvT hZ42 (hw _ (List.mem_of_getElem? (i := 50) rfl))) (mvT hZ42 (hw _ (List.mem_of_getElem? (i := 51) rfl))) (by decide) (own_back (W := 1) (rmT l Z a0 hw [] b45 kd b42 p4 h45 n0 O45 g_b45 A45 F_kind_b45 F_text_b45 F_column_b45 ) hZ42 (hw _ (List.mem_of_getElem? (i := 51) rfl)) (hw _ (List.mem_of_getElem? (i := 48) rfl)) (by decide) (by decide)) (g := (mkF m 241 #[iv p1, iv p2, iv p3, iv p4, rv kd, iv 0, iv yy3, iv yy4, iv 2, iv z9, iv z10, iv 0, rv b42, rv b43, iv z14, .unset] [(.int p4), (.ref b42), (.ref kd), (.ref b45), (.ref b45)])) rfl (by rw [hml]; rfl) (Steps.refl _) (a := b45) (argsL := [(.ref kd), (.ref b42), (.int p4)]) (rest := [(.ref b45)]) (lenOf pd__Lcom_example_naysay_naysay_rules_Token_Kind_Ljava_lang_String_I_V rfl) rfl (by show 2 * 0 + _ ≤ _; exact Nat.le_of_eq rfl) (hb hby at_241) (fun _ _ => ⟨rfl, e45, (by decide : 10 + 0 ≤ _), (by decide : 23 + 0 ≤ _)⟩)
            dsimp only [Pt.U, Pt.locs, Pt.cells, Pt.slots] at X48 lq48 yq48 zz48 st48 hQ48
            subst lq48 yq48 zz48
            obtain ⟨rfl, Nq48, kq48, eq48, fq48_0, fq48_1, fq48_2⟩ := hQ48
            have N48 := Fr.app N43 Nq48
            have O48 : Old Z n0 T48.heap := O45.keep kq48 (allS g_b45 all0)
            have CR48 : CHr Z EL s.vm h0 T42.vm T48.heap := CR45.trans (CHr.keep kq48 (sfS sf_b45 sf0) CR45.1)
            refine Go.tr (f' := (mkF m 244 #[iv p1, iv p2, iv p3, iv p4, rv kd, iv 0, iv yy3, iv yy4, iv 2, iv z9, iv z10, iv 0, rv b42, rv b43, iv z14, .unset] [(.ref b45)])) st48 ?_
            refine Go.st (f' := (mkF m 246 #[iv p1, iv p2, iv p3, iv p4, rv kd, iv 0, iv yy3, iv yy4, iv 2, iv z9, iv z10, iv 0, rv b42, rv b43, iv z14, rv b45] [])) (fun _ k => XS.astore X48.here hx rfl (hb hby at_244) rfl rfl (l' := #[iv p1, iv p2, iv p3, iv p4, rv kd, iv 0, iv yy3, iv yy4, iv 2, iv z9, iv z10, iv 0, rv b42, rv b43, iv z14, rv b45]) rfl k) ?_
            refine Go.st (f' := (mkF m 248 #[iv p1, iv p2, iv p3, iv p4, rv kd, iv 0, iv yy3, iv yy4, iv 2, iv z9, iv z10, iv 0, rv b42, rv b43, iv z14, rv b45] [(.ref b45)])) (fun _ k => XS.aload X48.here hx rfl (hb hby at_246) rfl rfl k) ?_
            refine Go.st (f' := (mkF m 250 #[iv p1, iv p2, iv p3, iv p4, rv kd, iv 0, iv yy3, iv yy4, iv 2, iv z9, iv z10, iv 0, rv b42, rv b43, iv z14, rv b45] [(.ref b43), (.ref b45)])) (fun _ k => XS.aload X48.here hx rfl (hb hby at_248) rfl rfl k) ?_
            have ft50 := (((eq42.keep kq43).ext E45).keep kq48)
            have ft51 := (((cq42.keep kq43 nin0).ext E45).keep kq48 (ninS ne_b42_b45 nin0))
            have ft52 := (((fq42.keep kq43 nin0).ext E45).keep kq48 (ninS ne_b42_b45 nin0))
            have ft53 := (((vq42.keep kq43 nin0).ext E45).keep kq48 (ninS ne_tt42_b45 nin0))
            have ft54 := ((eq43.ext E45).keep kq48)
            have ft55 := ((cq43.ext E45).keep kq48 (ninS ne_b43_b45 nin0))
            have ft56 := ((fq43.ext E45).keep kq48 (ninS ne_b43_b45 nin0))
            have ft57 := ((vq43.ext E45).keep kq48 (ninS ne_tt43_b45 nin0))
            obtain ⟨cq49, kq49, q49a, q49b, q49c⟩ := isOf hZ42 rfl eq48
            obtain ⟨_, _, ⟨T49, L49, kk49, nn49⟩, -, X49, ⟨Lc49, hQ49, lq49, yq49, zz49⟩, st49⟩ := X48.virtualBack hx (y := (⟨"com/example/naysay/naysay/rules/Token", "isSymbol", "(Ljava/lang/String;)Z"⟩ : MethodName)) (z := (⟨"com/example/naysay/naysay/rules/Token", "isSymbol", "(Ljava/lang/String;)Z"⟩ : MethodName)) hown42 (mvT hZ42 (hw _ (List.mem_of_getElem? (i := 64) rfl))) (mvT hZ42 (hw _ (List.mem_of_getElem? (i := 65) rfl))) (notFace_of_selects (args := #[]) (mvT hZ42 (hw _ (List.mem_of_getElem? (i := 67) rfl)))) (mvT hZ42 (hw _ (List.mem_of_getElem? (i := 67) rfl))) (mvT hZ42 (hw _ (List.mem_of_getElem? (i := 66) rfl))) (by decide) (own_back (W := 0) (rmS_0_2 l Z a0 hw [] b45 kd b42 tt42 kt42 b43 tt43 kt43 (nar .byte ((nar .char z9).toInt8.toInt32)) (nar .byte ((nar .char z10).toInt8.toInt32)) w_NUMBER w_SYMBOL w_NAME w_END w_STRING i_COMPACT_STRINGS v_SIOOBE_FORMATTER T48.heap n0 O48 eq48 fq48_0 fq48_1 ft50 ft51 ft52 ft53 ne_b42_b43 ft54 ft55 ft56 ft57 WW) hZ42 (hw _ (List.mem_of_getElem? (i := 68) rfl)) (hw _ (List.mem_of_getElem? (i := 48) rfl)) (by decide) (by decide)) q49a q49c (g := (mkF m 250 #[iv p1, iv p2, iv p3, iv p4, rv kd, iv 0, iv yy3, iv yy4, iv 2, iv z9, iv z10, iv 0, rv b42, rv b43, iv z14, rv b45] [(.ref b43), (.ref b45)])) rfl (by rw [hml]; rfl) (Steps.refl _) (argsL := [(.ref b43)]) (rest := []) (lenOf pd__Ljava_lang_String__Z rfl) rfl (by show 2 * 0 + _ ≤ _; exact Nat.le_of_eq rfl) (hb hby at_250) (fun _ _ => ⟨rfl, rfl, (by decide : 10 + 0 ≤ _), (by decide : 23 + 0 ≤ _)⟩)
            dsimp only [Pt.U, Pt.locs, Pt.cells, Pt.slots] at X49 lq49 yq49 zz49 st49 hQ49
            subst lq49 yq49 zz49
            obtain ⟨rfl, Nq49, kq49⟩ := hQ49
            have N49 := Fr.app N48 Nq49
            refine Go.tr (f' := (mkF m 253 #[iv p1, iv p2, iv p3, iv p4, rv kd, iv 0, iv yy3, iv yy4, iv 2, iv z9, iv z10, iv 0, rv b42, rv b43, iv z14, rv b45] [(.int (syI_0_2 kd w_SYMBOL (nar .byte ((nar .char z9).toInt8.toInt32)) (nar .byte ((nar .char z10).toInt8.toInt32))))])) st49 ?_
            refine Go.st (f' := (mkF m 255 #[iv p1, iv p2, iv p3, iv p4, rv kd, iv 0, iv yy3, iv yy4, iv 2, iv z9, iv z10, iv 0, rv b42, rv b43, iv z14, rv b45] [(.int z14), (.int (syI_0_2 kd w_SYMBOL (nar .byte ((nar .char z9).toInt8.toInt32)) (nar .byte ((nar .char z10).toInt8.toInt32))))])) (fun _ k => XS.iload X49.here hx rfl (hb hby at_253) rfl k) ?_
            refine Go.st (f' := (mkF m 258 #[iv p1, iv p2, iv p3, iv p4, rv kd, iv 0, iv yy3, iv yy4, iv 2, iv z9, iv z10, iv 0, rv b42, rv b43, iv z14, rv b45] [])) (fun _ k => XS.icmpNo X49.here hx rfl (hb hby at_255) rfl (teq hz14.symm).2 k) ?_
            refine Go.st (f' := (mkF m 259 #[iv p1, iv p2, iv p3, iv p4, rv kd, iv 0, iv yy3, iv yy4, iv 2, iv z9, iv z10, iv 0, rv b42, rv b43, iv z14, rv b45] [(.int 1)])) (fun _ k => XS.iconst X49.here hx rfl (hb hby at_258) k) ?_
            refine Go.st (f' := (mkF m 263 #[iv p1, iv p2, iv p3, iv p4, rv kd, iv 0, iv yy3, iv yy4, iv 2, iv z9, iv z10, iv 0, rv b42, rv b43, iv z14, rv b45] [(.int 1)])) (fun _ k => XS.goto X49.here hx rfl (pc0 := 259) (pc' := 263) rfl (hb hby at_259) (by decide) (by decide) k) ?_
            have ft58 := (Nat.le_trans (Nat.le_trans (Nat.le_trans hk42 kq43.1) E45.1) kq48.1)
            refine GoW.retB X49 hlk hx (t := .boolean) hret (by simp) (hb hby at_263) kq49 hS42 ft58 hZ42 hEL CR48 hh ?_ (by decide) (by decide)
            exact ⟨rfl, N49⟩
          by_cases cd59 : kd = w_SYMBOL
          · refine Go.st (f' := (mkF m 159 #[iv p1, iv p2, iv p3, iv p4, rv kd, iv 0, iv yy3, iv yy4, iv 2, iv z9, iv z10, iv 0, rv b42, rv b43, .unset, .unset] [])) (fun _ k => Jvm.RoadKit.acmp (g := (mkF m 156 #[iv p1, iv p2, iv p3, iv p4, rv kd, iv 0, iv yy3, iv yy4, iv 2, iv z9, iv z10, iv 0, rv b42, rv b43, .unset, .unset] [(.ref w_SYMBOL), (.ref kd)])) X44 hx rfl rfl rfl (pc0 := 156) (pc' := 159) (same := true) rfl (hb hby at_156) rfl (decide_eq_true (congrArg Value.ref cd59)) (by decide) (by decide) k) ?_
            refine Go.st (f' := (mkF m 161 #[iv p1, iv p2, iv p3, iv p4, rv kd, iv 0, iv yy3, iv yy4, iv 2, iv z9, iv z10, iv 0, rv b42, rv b43, .unset, .unset] [(.int 0)])) (fun _ k => XS.iload X44.here hx rfl (hb hby at_159) rfl k) ?_
            refine Go.st (f' := (mkF m 164 #[iv p1, iv p2, iv p3, iv p4, rv kd, iv 0, iv yy3, iv yy4, iv 2, iv z9, iv z10, iv 0, rv b42, rv b43, .unset, .unset] [])) (fun _ k => XS.ifNo X44.here hx rfl (hb hby at_161) rfl (by decide) k) ?_
            refine Go.st (f' := (mkF m 166 #[iv p1, iv p2, iv p3, iv p4, rv kd, iv 0, iv yy3, iv yy4, iv 2, iv z9, iv z10, iv 0, rv b42, rv b43, .unset, .unset] [(.int 0)])) (fun _ k => XS.iload X44.here hx rfl (hb hby at_164) rfl k) ?_
            refine Go.st (f' := (mkF m 168 #[iv p1, iv p2, iv p3, iv p4, rv kd, iv 0, iv yy3, iv yy4, iv 2, iv z9, iv z10, iv 0, rv b42, rv b43, .unset, .unset] [(.int 2), (.int 0)])) (fun _ k => XS.iload X44.here hx rfl (hb hby at_166) rfl k) ?_
            refine Go.st (f' := (mkF m 171 #[iv p1, iv p2, iv p3, iv p4, rv kd, iv 0, iv yy3, iv yy4, iv 2, iv z9, iv z10, iv 0, rv b42, rv b43, .unset, .unset] [])) (fun _ k => XS.icmpNo X44.here hx rfl (hb hby at_168) rfl (by decide) k) ?_
            refine Go.st (f' := (mkF m 172 #[iv p1, iv p2, iv p3, iv p4, rv kd, iv 0, iv yy3, iv yy4, iv 2, iv z9, iv z10, iv 0, rv b42, rv b43, .unset, .unset] [(.int 0)])) (fun _ k => XS.iconst X44.here hx rfl (hb hby at_171) k) ?_
            refine Go.st (f' := (mkF m 174 #[iv p1, iv p2, iv p3, iv p4, rv kd, iv 0, iv yy3, iv yy4, iv 2, iv z9, iv z10, iv 0, rv b42, rv b43, iv 0, .unset] [])) (fun _ k => XS.istore X44.here hx rfl (hb hby at_172) rfl (l' := #[iv p1, iv p2, iv p3, iv p4, rv kd, iv 0, iv yy3, iv yy4, iv 2, iv z9, iv z10, iv 0, rv b42, rv b43, iv 0, .unset]) rfl k) ?_
            refine Go.st (f' := (mkF m 232 #[iv p1, iv p2, iv p3, iv p4, rv kd, iv 0, iv yy3, iv yy4, iv 2, iv z9, iv z10, iv 0, rv b42, rv b43, iv 0, .unset] [])) (fun _ k => XS.goto X44.here hx rfl (pc0 := 174) (pc' := 232) rfl (hb hby at_174) (by decide) (by decide) k) ?_
            exact J2 (0 : Int32) (by rw [syI_0_2, if_pos cd59] <;> rfl)
          · refine Go.st (f' := (mkF m 171 #[iv p1, iv p2, iv p3, iv p4, rv kd, iv 0, iv yy3, iv yy4, iv 2, iv z9, iv z10, iv 0, rv b42, rv b43, .unset, .unset] [])) (fun _ k => Jvm.RoadKit.acmp (g := (mkF m 156 #[iv p1, iv p2, iv p3, iv p4, rv kd, iv 0, iv yy3, iv yy4, iv 2, iv z9, iv z10, iv 0, rv b42, rv b43, .unset, .unset] [(.ref w_SYMBOL), (.ref kd)])) X44 hx rfl rfl rfl (pc0 := 156) (pc' := 171) (same := false) rfl (hb hby at_156) rfl (decide_eq_false fun q => cd59 (Value.ref.inj q)) (by decide) (by decide) k) ?_
            refine Go.st (f' := (mkF m 172 #[iv p1, iv p2, iv p3, iv p4, rv kd, iv 0, iv yy3, iv yy4, iv 2, iv z9, iv z10, iv 0, rv b42, rv b43, .unset, .unset] [(.int 0)])) (fun _ k => XS.iconst X44.here hx rfl (hb hby at_171) k) ?_
            refine Go.st (f' := (mkF m 174 #[iv p1, iv p2, iv p3, iv p4, rv kd, iv 0, iv yy3, iv yy4, iv 2, iv z9, iv z10, iv 0, rv b42, rv b43, iv 0, .unset] [])) (fun _ k => XS.istore X44.here hx rfl (hb hby at_172) rfl (l' := #[iv p1, iv p2, iv p3, iv p4, rv kd, iv 0, iv yy3, iv yy4, iv 2, iv z9, iv z10, iv 0, rv b42, rv b43, iv 0, .unset]) rfl k) ?_
            refine Go.st (f' := (mkF m 232 #[iv p1, iv p2, iv p3, iv p4, rv kd, iv 0, iv yy3, iv yy4, iv 2, iv z9, iv z10, iv 0, rv b42, rv b43, iv 0, .unset] [])) (fun _ k => XS.goto X44.here hx rfl (pc0 := 174) (pc' := 232) rfl (hb hby at_174) (by decide) (by decide) k) ?_
            exact J2 (0 : Int32) (by rw [syI_0_2, if_neg cd59])
      · refine Go.st (f' := (mkF m 122 #[iv p1, iv p2, iv p3, iv p4, rv kd, iv 0, iv yy3, iv yy4, iv z8, iv z9, iv z10, iv 1, .unset, .unset, .unset, .unset] [(.int 0)])) (fun _ k => XS.iload X1.here hx rfl (hb hby at_120) rfl k) ?_
        refine Go.st (f' := (mkF m 124 #[iv p1, iv p2, iv p3, iv p4, rv kd, iv 0, iv yy3, iv yy4, iv z8, iv z9, iv z10, iv 1, .unset, .unset, .unset, .unset] [(.int yy3), (.int 0)])) (fun _ k => XS.iload X1.here hx rfl (hb hby at_122) rfl k) ?_
        refine Go.st (f' := (mkF m 126 #[iv p1, iv p2, iv p3, iv p4, rv kd, iv 0, iv yy3, iv yy4, iv z8, iv z9, iv z10, iv 1, .unset, .unset, .unset, .unset] [(.int yy4), (.int yy3), (.int 0)])) (fun _ k => XS.iload X1.here hx rfl (hb hby at_124) rfl k) ?_
        obtain ⟨_, _, ⟨T60, L60, kk60, nn60⟩, -, Xw60, hSw60, hgw60, ⟨Lc60, hQ60, lq60, yq60, zz60, crw60⟩, st60⟩ := callSS X1 hx (y := (⟨"com/example/naysay/naysay/rules/TokenIsSymbolPinLaw", "mk", "(ICC)Ljava/lang/String;"⟩ : MethodName)) hown (mvT hZ (hw _ (List.mem_of_getElem? (i := 8) rfl))) (mvT hZ (hw _ (List.mem_of_getElem? (i := 9) rfl))) (mvT hZ (hw _ (List.mem_of_getElem? (i := 2) rfl))) (mvT hZ (hw _ (List.mem_of_getElem? (i := 10) rfl))) (by decide) (own_backW (W := 0) (rmM_0 l Z a0 hw [] yy3 yy4 w_NUMBER w_SYMBOL w_NAME w_END w_STRING i_COMPACT_STRINGS v_SIOOBE_FORMATTER h0 n0 O0 (hyy3 ▸ own_b _).1 (hyy4 ▸ own_b _).1 (hyy3 ▸ own_b _).2 (hyy4 ▸ own_b _).2 WW) hZ (hw _ (List.mem_of_getElem? (i := 10) rfl)) (hw _ (List.mem_of_getElem? (i := 2) rfl)) (by decide) (by decide) hEL CR0.1) (g := (mkF m 126 #[iv p1, iv p2, iv p3, iv p4, rv kd, iv 0, iv yy3, iv yy4, iv z8, iv z9, iv z10, iv 1, .unset, .unset, .unset, .unset] [(.int yy4), (.int yy3), (.int 0)])) rfl (by rw [hml]; rfl) (argsL := [(.int (0 : Int32)), (.int yy3), (.int yy4)]) (rest := []) (lenOf pd__ICC_Ljava_lang_String_ rfl) rfl (by show 2 * 0 + _ ≤ _; exact Nat.le_of_eq rfl) (hb hby at_126) (fun _ _ => ⟨rfl, kq1, (by decide : 0 + 6 ≤ _), (by decide : 0 + 12 ≤ _)⟩)
        dsimp only [Pt.U, Pt.locs, Pt.cells, Pt.slots] at Xw60 lq60 yq60 zz60 st60 hQ60 hSw60 hgw60 crw60
        subst lq60 yq60 zz60
        obtain ⟨X60, hS60, hZ60, hown60⟩ := rebS hS (by rw [kq1]; exact (Nat.zero_le _)) Xw60 hSw60 hgw60 hZ hown
        obtain ⟨b60, rfl, Nq60, zb60, kq60, eq60, cq60, tt60, kt60, fq60, vq60⟩ := hQ60
        have N60 := Fr.app N1 Nq60
        have ne_w_NUMBER_b60 : w_NUMBER ≠ b60 := Nat.ne_of_lt (Nat.lt_of_lt_of_le lt_w_NUMBER (Nat.le_trans O0.2.1 zb60))
        have ne_w_SYMBOL_b60 : w_SYMBOL ≠ b60 := Nat.ne_of_lt (Nat.lt_of_lt_of_le lt_w_SYMBOL (Nat.le_trans O0.2.1 zb60))
        have ne_w_NAME_b60 : w_NAME ≠ b60 := Nat.ne_of_lt (Nat.lt_of_lt_of_le lt_w_NAME (Nat.le_trans O0.2.1 zb60))
        have ne_w_END_b60 : w_END ≠ b60 := Nat.ne_of_lt (Nat.lt_of_lt_of_le lt_w_END (Nat.le_trans O0.2.1 zb60))
        have ne_w_STRING_b60 : w_STRING ≠ b60 := Nat.ne_of_lt (Nat.lt_of_lt_of_le lt_w_STRING (Nat.le_trans O0.2.1 zb60))
        have g_b60 : n0 ≤ b60 := Nat.le_trans (O0.1 ▸ O0.2.1) zb60
        have O60 : Old Z n0 T60.heap := O0.keep kq60 all0
        have lt_b60 := eq60.lt
        have lt_tt60 := vq60.lt
        have nt_b60_tt60 : b60 ≠ tt60 := Exa.neArv eq60 vq60 (hw _ (List.mem_of_getElem? (i := 12) rfl))
        have hk60 : T60.heap.size ≤ T60.heap.size := Nat.le_refl _
        have CR60 := CR0.trans crw60
        refine Go.tr (f' := (mkF m 129 #[iv p1, iv p2, iv p3, iv p4, rv kd, iv 0, iv yy3, iv yy4, iv z8, iv z9, iv z10, iv 1, .unset, .unset, .unset, .unset] [(.ref b60)])) st60 ?_
        refine Go.st (f' := (mkF m 131 #[iv p1, iv p2, iv p3, iv p4, rv kd, iv 0, iv yy3, iv yy4, iv z8, iv z9, iv z10, iv 1, rv b60, .unset, .unset, .unset] [])) (fun _ k => XS.astore X60.here hx rfl (hb hby at_129) rfl rfl (l' := #[iv p1, iv p2, iv p3, iv p4, rv kd, iv 0, iv yy3, iv yy4, iv z8, iv z9, iv z10, iv 1, rv b60, .unset, .unset, .unset]) rfl k) ?_
        refine Go.st (f' := (mkF m 133 #[iv p1, iv p2, iv p3, iv p4, rv kd, iv 0, iv yy3, iv yy4, iv z8, iv z9, iv z10, iv 1, rv b60, .unset, .unset, .unset] [(.int 1)])) (fun _ k => XS.iload X60.here hx rfl (hb hby at_131) rfl k) ?_
        refine Go.st (f' := (mkF m 136 #[iv p1, iv p2, iv p3, iv p4, rv kd, iv 0, iv yy3, iv yy4, iv z8, iv z9, iv z10, iv 1, rv b60, .unset, .unset, .unset] [])) (fun _ k => XS.ifNo X60.here hx rfl (hb hby at_133) rfl (by decide) k) ?_
        refine Go.st (f' := (mkF m 137 #[iv p1, iv p2, iv p3, iv p4, rv kd, iv 0, iv yy3, iv yy4, iv z8, iv z9, iv z10, iv 1, rv b60, .unset, .unset, .unset] [.null])) (fun _ k => XS.aconstNull X60.here hx rfl (hb hby at_136) k) ?_
        refine Go.st (f' := (mkF m 149 #[iv p1, iv p2, iv p3, iv p4, rv kd, iv 0, iv yy3, iv yy4, iv z8, iv z9, iv z10, iv 1, rv b60, .unset, .unset, .unset] [.null])) (fun _ k => XS.goto X60.here hx rfl (pc0 := 137) (pc' := 149) rfl (hb hby at_137) (by decide) (by decide) k) ?_
        refine Go.st (f' := (mkF m 151 #[iv p1, iv p2, iv p3, iv p4, rv kd, iv 0, iv yy3, iv yy4, iv z8, iv z9, iv z10, iv 1, rv b60, .val .null, .unset, .unset] [])) (fun _ k => XS.astore X60.here hx rfl (hb hby at_149) rfl rfl (l' := #[iv p1, iv p2, iv p3, iv p4, rv kd, iv 0, iv yy3, iv yy4, iv z8, iv z9, iv z10, iv 1, rv b60, .val .null, .unset, .unset]) rfl k) ?_
        refine Go.st (f' := (mkF m 153 #[iv p1, iv p2, iv p3, iv p4, rv kd, iv 0, iv yy3, iv yy4, iv z8, iv z9, iv z10, iv 1, rv b60, .val .null, .unset, .unset] [(.ref kd)])) (fun _ k => XS.aload X60.here hx rfl (hb hby at_151) rfl rfl k) ?_
        obtain ⟨T61, X61, e61, st61⟩ := getS2 X60 hx hZ60 hown60 (host := "") (Or.inl (hw _ (List.mem_of_getElem? (i := 44) rfl))) Via.refl rfl (S_w_SYMBOL.ext O60.2) (g := (mkF m 153 #[iv p1, iv p2, iv p3, iv p4, rv kd, iv 0, iv yy3, iv yy4, iv z8, iv z9, iv z10, iv 1, rv b60, .val .null, .unset, .unset] [(.ref kd)])) rfl (hb hby at_153)
        refine Go.st (f' := (mkF m 156 #[iv p1, iv p2, iv p3, iv p4, rv kd, iv 0, iv yy3, iv yy4, iv z8, iv z9, iv z10, iv 1, rv b60, .val .null, .unset, .unset] [(.ref w_SYMBOL), (.ref kd)])) (fun _ k => st61 _ k) ?_
        have J2 : ∀ (z14 : Int32), (z14 = (syI_0_N kd w_SYMBOL)) → Go p e below (DoneW s Z EL (QL n0) room_1.cells room_1.slots) T61 (mkF m 232 #[iv p1, iv p2, iv p3, iv p4, rv kd, iv 0, iv yy3, iv yy4, iv z8, iv z9, iv z10, iv 1, rv b60, .val .null, iv z14, .unset] []) := by
          intro z14 hz14
          obtain ⟨T62, h62, X62, e62, E62, A62, D62, -, st62⟩ := newO X61 hx hZ60 hown60 (hw _ (List.mem_of_getElem? (i := 46) rfl)) (hw _ (List.mem_of_getElem? (i := 47) rfl)) (hw _ (List.mem_of_getElem? (i := 48) rfl)) e61 (g := (mkF m 232 #[iv p1, iv p2, iv p3, iv p4, rv kd, iv 0, iv yy3, iv yy4, iv z8, iv z9, iv z10, iv 1, rv b60, .val .null, iv z14, .unset] [])) rfl (hb hby at_232) (by decide) (by decide)
          obtain ⟨b62, g62⟩ : ∃ z, z = T60.heap.size := ⟨_, rfl⟩
          rw [← g62] at A62 D62 st62
          have ne_b60_b62 : b60 ≠ b62 := Nat.ne_of_lt (Nat.lt_of_lt_of_eq lt_b60 g62.symm)
          have ne_tt60_b62 : tt60 ≠ b62 := Nat.ne_of_lt (Nat.lt_of_lt_of_eq lt_tt60 g62.symm)
          have ne_w_NUMBER_b62 : w_NUMBER ≠ b62 := Nat.ne_of_lt (Nat.lt_of_lt_of_le lt_w_NUMBER (Nat.le_trans O60.2.1 (Nat.le_of_eq g62.symm)))
          have ne_w_SYMBOL_b62 : w_SYMBOL ≠ b62 := Nat.ne_of_lt (Nat.lt_of_lt_of_le lt_w_SYMBOL (Nat.le_trans O60.2.1 (Nat.le_of_eq g62.symm)))
          have ne_w_NAME_b62 : w_NAME ≠ b62 := Nat.ne_of_lt (Nat.lt_of_lt_of_le lt_w_NAME (Nat.le_trans O60.2.1 (Nat.le_of_eq g62.symm)))
          have ne_w_END_b62 : w_END ≠ b62 := Nat.ne_of_lt (Nat.lt_of_lt_of_le lt_w_END (Nat.le_trans O60.2.1 (Nat.le_of_eq g62.symm)))
          have ne_w_STRING_b62 : w_STRING ≠ b62 := Nat.ne_of_lt (Nat.lt_of_lt_of_le lt_w_STRING (Nat.le_trans O60.2.1 (Nat.le_of_eq g62.symm)))
          have g_b62 : n0 ≤ b62 := Nat.le_trans (O60.1 ▸ O60.2.1) (Nat.le_of_eq g62.symm)
          have O62 : Old Z n0 h62 := O60.ext E62
          have CR62 : CHr Z EL s.vm h0 T60.vm h62 := CR60.trans (CHr.ext E62 CR60.1)
          have sf_b62 : Safe Z EL T60.vm h62 b62 := (Safe.new (Nat.le_of_eq g62.symm)).ext E62 CR60.1
          have lt_b62 := A62.lt
          have F_kind_b62 : Fld Z h62 b62 "com/example/naysay/naysay/rules/Token" "kind" "Lcom/example/naysay/naysay/rules/Token$Kind;" .null := D62 (Or.inr (hw _ (List.mem_of_getElem? (i := 59) rfl))) (ty := (.object "com/example/naysay/naysay/rules/Token$Kind")) (by decide)
          have F_text_b62 : Fld Z h62 b62 "com/example/naysay/naysay/rules/Token" "text" "Ljava/lang/String;" .null := D62 (Or.inr (hw _ (List.mem_of_getElem? (i := 61) rfl))) (ty := (.object "java/lang/String")) (by decide)
          have F_column_b62 : Fld Z h62 b62 "com/example/naysay/naysay/rules/Token" "column" "I" (.int (0 : Int32)) := D62 (Or.inr (hw _ (List.mem_of_getElem? (i := 63) rfl))) (ty := .int) (by decide)
          refine Go.st (f' := (mkF m 235 #[iv p1, iv p2, iv p3, iv p4, rv kd, iv 0, iv yy3, iv yy4, iv z8, iv z9, iv z10, iv 1, rv b60, .val .null, iv z14, .unset] [(.ref b62)])) (fun _ k => st62 _ k) ?_
          refine Go.st (f' := (mkF m 236 #[iv p1, iv p2, iv p3, iv p4, rv kd, iv 0, iv yy3, iv yy4, iv z8, iv z9, iv z10, iv 1, rv b60, .val .null, iv z14, .unset] [(.ref b62), (.ref b62)])) (fun _ k => XS.dup X62.here hx rfl (hb hby at_235) rfl rfl k) ?_
          refine Go.st (f' := (mkF m 238 #[iv p1, iv p2, iv p3, iv p4, rv kd, iv 0, iv yy3, iv yy4, iv z8, iv z9, iv z10, iv 1, rv b60, .val .null, iv z14, .unset] [(.ref kd), (.ref b62), (.ref b62)])) (fun _ k => XS.aload X62.here hx rfl (hb hby at_236) rfl rfl k) ?_
          refine Go.st (f' := (mkF m 240 #[iv p1, iv p2, iv p3, iv p4, rv kd, iv 0, iv yy3, iv yy4, iv z8, iv z9, iv z10, iv 1, rv b60, .val .null, iv z14, .unset] [(.ref b60), (.ref kd), (.ref b62), (.ref b62)])) (fun _ k => XS.aload X62.here hx rfl (hb hby at_238) rfl rfl k) ?_
          refine Go.st (f' := (mkF m 241 #[iv p1, iv p2, iv p3, iv p4, rv kd, iv 0, iv yy3, iv yy4, iv z8, iv z9, iv z10, iv 1, rv b60, .val .null, iv z14, .unset] [(.int p4), (.ref b60), (.ref kd), (.ref b62), (.ref b62)])) (fun _ k => XS.iloadN X62.here hx rfl (hb hby at_240) rfl k) ?_
          obtain ⟨_, _, ⟨T63, L63, kk63, nn63⟩, -, X63, ⟨Lc63, hQ63, lq63, yq63, zz63⟩, st63⟩ := X62.specialBack hx (y := (⟨"com/example/naysay/naysay/rules/Token", "<init>", "(Lcom/example/naysay/naysay/rules/Token$Kind;Ljava/lang/String;I)V"⟩ : MethodName)) rfl hown60 (mvT hZ60 (hw _ (List.mem_of_getElem? (i := 49) rfl))) (mvT hZ60 (hw _ (List.mem_of_getElem? (i := 50) rfl))) (mvT hZ60 (hw _ (List.mem_of_getElem? (i := 51) rfl))) (by decide) (own_back (W := 1) (rmT l Z a0 hw [] b62 kd b60 p4 h62 n0 O62 g_b62 A62 F_kind_b62 F_text_b62 F_column_b62 ) hZ60 (hw _ (List.mem_of_getElem? (i := 51) rfl)) (hw _ (List.mem_of_getElem? (i := 48) rfl)) (by decide) (by decide)) (g := (mkF m 241 #[iv p1, iv p2, iv p3, iv p4, rv kd, iv 0, iv yy3, iv yy4, iv z8, iv z9, iv z10, iv 1, rv b60, .val .null, iv z14, .unset] [(.int p4), (.ref b60), (.ref kd), (.ref b62), (.ref b62)])) rfl (by rw [hml]; rfl) (Steps.refl _) (a := b62) (argsL := [(.ref kd), (.ref b60), (.int p4)]) (rest := [(.ref b62)]) (lenOf pd__Lcom_example_naysay_naysay_rules_Token_Kind_Ljava_lang_String_I_V rfl) rfl (by show 2 * 0 + _ ≤ _; exact Nat.le_of_eq rfl) (hb hby at_241) (fun _ _ => ⟨rfl, e62, (by decide : 7 + 0 ≤ _), (by decide : 15 + 0 ≤ _)⟩)
          dsimp only [Pt.U, Pt.locs, Pt.cells, Pt.slots] at X63 lq63 yq63 zz63 st63 hQ63
          subst lq63 yq63 zz63
          obtain ⟨rfl, Nq63, kq63, eq63, fq63_0, fq63_1, fq63_2⟩ := hQ63
          have N63 := Fr.app N60 Nq63
          have O63 : Old Z n0 T63.heap := O62.keep kq63 (allS g_b62 all0)
          have CR63 : CHr Z EL s.vm h0 T60.vm T63.heap := CR62.trans (CHr.keep kq63 (sfS sf_b62 sf0) CR62.1)
          refine Go.tr (f' := (mkF m 244 #[iv p1, iv p2, iv p3, iv p4, rv kd, iv 0, iv yy3, iv yy4, iv z8, iv z9, iv z10, iv 1, rv b60, .val .null, iv z14, .unset] [(.ref b62)])) st63 ?_
          refine Go.st (f' := (mkF m 246 #[iv p1, iv p2, iv p3, iv p4, rv kd, iv 0, iv yy3, iv yy4, iv z8, iv z9, iv z10, iv 1, rv b60, .val .null, iv z14, rv b62] [])) (fun _ k => XS.astore X63.here hx rfl (hb hby at_244) rfl rfl (l' := #[iv p1, iv p2, iv p3, iv p4, rv kd, iv 0, iv yy3, iv yy4, iv z8, iv z9, iv z10, iv 1, rv b60, .val .null, iv z14, rv b62]) rfl k) ?_
          refine Go.st (f' := (mkF m 248 #[iv p1, iv p2, iv p3, iv p4, rv kd, iv 0, iv yy3, iv yy4, iv z8, iv z9, iv z10, iv 1, rv b60, .val .null, iv z14, rv b62] [(.ref b62)])) (fun _ k => XS.aload X63.here hx rfl (hb hby at_246) rfl rfl k) ?_
          refine Go.st (f' := (mkF m 250 #[iv p1, iv p2, iv p3, iv p4, rv kd, iv 0, iv yy3, iv yy4, iv z8, iv z9, iv z10, iv 1, rv b60, .val .null, iv z14, rv b62] [.null, (.ref b62)])) (fun _ k => XS.aload X63.here hx rfl (hb hby at_248) rfl rfl k) ?_
          have ft65 := ((eq60.ext E62).keep kq63)
          have ft66 := ((cq60.ext E62).keep kq63 (ninS ne_b60_b62 nin0))
          have ft67 := ((fq60.ext E62).keep kq63 (ninS ne_b60_b62 nin0))
          have ft68 := ((vq60.ext E62).keep kq63 (ninS ne_tt60_b62 nin0))
          obtain ⟨cq64, kq64, q64a, q64b, q64c⟩ := isOf hZ60 rfl eq63
          obtain ⟨_, _, ⟨T64, L64, kk64, nn64⟩, -, X64, ⟨Lc64, hQ64, lq64, yq64, zz64⟩, st64⟩ := X63.virtualBack hx (y := (⟨"com/example/naysay/naysay/rules/Token", "isSymbol", "(Ljava/lang/String;)Z"⟩ : MethodName)) (z := (⟨"com/example/naysay/naysay/rules/Token", "isSymbol", "(Ljava/lang/String;)Z"⟩ : MethodName)) hown60 (mvT hZ60 (hw _ (List.mem_of_getElem? (i := 64) rfl))) (mvT hZ60 (hw _ (List.mem_of_getElem? (i := 65) rfl))) (notFace_of_selects (args := #[]) (mvT hZ60 (hw _ (List.mem_of_getElem? (i := 67) rfl)))) (mvT hZ60 (hw _ (List.mem_of_getElem? (i := 67) rfl))) (mvT hZ60 (hw _ (List.mem_of_getElem? (i := 66) rfl))) (by decide) (own_back (W := 0) (rmS_0_N l Z a0 hw [] b62 kd b60 tt60 kt60  w_NUMBER w_SYMBOL w_NAME w_END w_STRING i_COMPACT_STRINGS v_SIOOBE_FORMATTER T63.heap n0 O63 eq63 fq63_0 fq63_1 ft65 ft66 ft67 ft68 WW) hZ60 (hw _ (List.mem_of_getElem? (i := 68) rfl)) (hw _ (List.mem_of_getElem? (i := 48) rfl)) (by decide) (by decide)) q64a q64c (g := (mkF m 250 #[iv p1, iv p2, iv p3, iv p4, rv kd, iv 0, iv yy3, iv yy4, iv z8, iv z9, iv z10, iv 1, rv b60, .val .null, iv z14, rv b62] [.null, (.ref b62)])) rfl (by rw [hml]; rfl) (Steps.refl _) (argsL := [.null]) (rest := []) (lenOf pd__Ljava_lang_String__Z rfl) rfl (by show 2 * 0 + _ ≤ _; exact Nat.le_of_eq rfl) (hb hby at_250) (fun _ _ => ⟨rfl, rfl, (by decide : 7 + 0 ≤ _), (by decide : 15 + 0 ≤ _)⟩)
          dsimp only [Pt.U, Pt.locs, Pt.cells, Pt.slots] at X64 lq64 yq64 zz64 st64 hQ64
          subst lq64 yq64 zz64
          obtain ⟨rfl, Nq64, kq64⟩ := hQ64
          have N64 := Fr.app N63 Nq64
          refine Go.tr (f' := (mkF m 253 #[iv p1, iv p2, iv p3, iv p4, rv kd, iv 0, iv yy3, iv yy4, iv z8, iv z9, iv z10, iv 1, rv b60, .val .null, iv z14, rv b62] [(.int (syI_0_N kd w_SYMBOL))])) st64 ?_
          refine Go.st (f' := (mkF m 255 #[iv p1, iv p2, iv p3, iv p4, rv kd, iv 0, iv yy3, iv yy4, iv z8, iv z9, iv z10, iv 1, rv b60, .val .null, iv z14, rv b62] [(.int z14), (.int (syI_0_N kd w_SYMBOL))])) (fun _ k => XS.iload X64.here hx rfl (hb hby at_253) rfl k) ?_
          refine Go.st (f' := (mkF m 258 #[iv p1, iv p2, iv p3, iv p4, rv kd, iv 0, iv yy3, iv yy4, iv z8, iv z9, iv z10, iv 1, rv b60, .val .null, iv z14, rv b62] [])) (fun _ k => XS.icmpNo X64.here hx rfl (hb hby at_255) rfl (teq hz14.symm).2 k) ?_
          refine Go.st (f' := (mkF m 259 #[iv p1, iv p2, iv p3, iv p4, rv kd, iv 0, iv yy3, iv yy4, iv z8, iv z9, iv z10, iv 1, rv b60, .val .null, iv z14, rv b62] [(.int 1)])) (fun _ k => XS.iconst X64.here hx rfl (hb hby at_258) k) ?_
          refine Go.st (f' := (mkF m 263 #[iv p1, iv p2, iv p3, iv p4, rv kd, iv 0, iv yy3, iv yy4, iv z8, iv z9, iv z10, iv 1, rv b60, .val .null, iv z14, rv b62] [(.int 1)])) (fun _ k => XS.goto X64.here hx rfl (pc0 := 259) (pc' := 263) rfl (hb hby at_259) (by decide) (by decide) k) ?_
          have ft69 := (Nat.le_trans (Nat.le_trans hk60 E62.1) kq63.1)
          refine GoW.retB X64 hlk hx (t := .boolean) hret (by simp) (hb hby at_263) kq64 hS60 ft69 hZ60 hEL CR63 hh ?_ (by decide) (by decide)
          exact ⟨rfl, N64⟩
        by_cases cd70 : kd = w_SYMBOL
        · refine Go.st (f' := (mkF m 159 #[iv p1, iv p2, iv p3, iv p4, rv kd, iv 0, iv yy3, iv yy4, iv z8, iv z9, iv z10, iv 1, rv b60, .val .null, .unset, .unset] [])) (fun _ k => Jvm.RoadKit.acmp (g := (mkF m 156 #[iv p1, iv p2, iv p3, iv p4, rv kd, iv 0, iv yy3, iv yy4, iv z8, iv z9, iv z10, iv 1, rv b60, .val .null, .unset, .unset] [(.ref w_SYMBOL), (.ref kd)])) X61 hx rfl rfl rfl (pc0 := 156) (pc' := 159) (same := true) rfl (hb hby at_156) rfl (decide_eq_true (congrArg Value.ref cd70)) (by decide) (by decide) k) ?_
          refine Go.st (f' := (mkF m 161 #[iv p1, iv p2, iv p3, iv p4, rv kd, iv 0, iv yy3, iv yy4, iv z8, iv z9, iv z10, iv 1, rv b60, .val .null, .unset, .unset] [(.int 1)])) (fun _ k => XS.iload X61.here hx rfl (hb hby at_159) rfl k) ?_
          refine Go.st (f' := (mkF m 171 #[iv p1, iv p2, iv p3, iv p4, rv kd, iv 0, iv yy3, iv yy4, iv z8, iv z9, iv z10, iv 1, rv b60, .val .null, .unset, .unset] [])) (fun _ k => XS.ifYes X61.here hx rfl (pc0 := 161) (pc' := 171) rfl (hb hby at_161) rfl (by decide) (by decide) (by decide) k) ?_
          refine Go.st (f' := (mkF m 172 #[iv p1, iv p2, iv p3, iv p4, rv kd, iv 0, iv yy3, iv yy4, iv z8, iv z9, iv z10, iv 1, rv b60, .val .null, .unset, .unset] [(.int 0)])) (fun _ k => XS.iconst X61.here hx rfl (hb hby at_171) k) ?_
          refine Go.st (f' := (mkF m 174 #[iv p1, iv p2, iv p3, iv p4, rv kd, iv 0, iv yy3, iv yy4, iv z8, iv z9, iv z10, iv 1, rv b60, .val .null, iv 0, .unset] [])) (fun _ k => XS.istore X61.here hx rfl (hb hby at_172) rfl (l' := #[iv p1, iv p2, iv p3, iv p4, rv kd, iv 0, iv yy3, iv yy4, iv z8, iv z9, iv z10, iv 1, rv b60, .val .null, iv 0, .unset]) rfl k) ?_
          refine Go.st (f' := (mkF m 232 #[iv p1, iv p2, iv p3, iv p4, rv kd, iv 0, iv yy3, iv yy4, iv z8, iv z9, iv z10, iv 1, rv b60, .val .null, iv 0, .unset] [])) (fun _ k => XS.goto X61.here hx rfl (pc0 := 174) (pc' := 232) rfl (hb hby at_174) (by decide) (by decide) k) ?_
          exact J2 (0 : Int32) (by rw [syI_0_N, if_pos cd70] <;> rfl)
        · refine Go.st (f' := (mkF m 171 #[iv p1, iv p2, iv p3, iv p4, rv kd, iv 0, iv yy3, iv yy4, iv z8, iv z9, iv z10, iv 1, rv b60, .val .null, .unset, .unset] [])) (fun _ k => Jvm.RoadKit.acmp (g := (mkF m 156 #[iv p1, iv p2, iv p3, iv p4, rv kd, iv 0, iv yy3, iv yy4, iv z8, iv z9, iv z10, iv 1, rv b60, .val .null, .unset, .unset] [(.ref w_SYMBOL), (.ref kd)])) X61 hx rfl rfl rfl (pc0 := 156) (pc' := 171) (same := false) rfl (hb hby at_156) rfl (decide_eq_false fun q => cd70 (Value.ref.inj q)) (by decide) (by decide) k) ?_
          refine Go.st (f' := (mkF m 172 #[iv p1, iv p2, iv p3, iv p4, rv kd, iv 0, iv yy3, iv yy4, iv z8, iv z9, iv z10, iv 1, rv b60, .val .null, .unset, .unset] [(.int 0)])) (fun _ k => XS.iconst X61.here hx rfl (hb hby at_171) k) ?_
          refine Go.st (f' := (mkF m 174 #[iv p1, iv p2, iv p3, iv p4, rv kd, iv 0, iv yy3, iv yy4, iv z8, iv z9, iv z10, iv 1, rv b60, .val .null, iv 0, .unset] [])) (fun _ k => XS.istore X61.here hx rfl (hb hby at_172) rfl (l' := #[iv p1, iv p2, iv p3, iv p4, rv kd, iv 0, iv yy3, iv yy4, iv z8, iv z9, iv z10, iv 1, rv b60, .val .null, iv 0, .unset]) rfl k) ?_
          refine Go.st (f' := (mkF m 232 #[iv p1, iv p2, iv p3, iv p4, rv kd, iv 0, iv yy3, iv yy4, iv z8, iv z9, iv z10, iv 1, rv b60, .val .null, iv 0, .unset] [])) (fun _ k => XS.goto X61.here hx rfl (pc0 := 174) (pc' := 232) rfl (hb hby at_174) (by decide) (by decide) k) ?_
          exact J2 (0 : Int32) (by rw [syI_0_N, if_neg cd70])
    · rcases hz11 with rfl | rfl
      · rcases hz8 with rfl | rfl | rfl
        · refine Go.st (f' := (mkF m 122 #[iv p1, iv p2, iv p3, iv p4, rv kd, iv 1, iv yy3, iv yy4, iv 0, iv z9, iv z10, iv 0, .unset, .unset, .unset, .unset] [(.int 1)])) (fun _ k => XS.iload X1.here hx rfl (hb hby at_120) rfl k) ?_
          refine Go.st (f' := (mkF m 124 #[iv p1, iv p2, iv p3, iv p4, rv kd, iv 1, iv yy3, iv yy4, iv 0, iv z9, iv z10, iv 0, .unset, .unset, .unset, .unset] [(.int yy3), (.int 1)])) (fun _ k => XS.iload X1.here hx rfl (hb hby at_122) rfl k) ?_
          refine Go.st (f' := (mkF m 126 #[iv p1, iv p2, iv p3, iv p4, rv kd, iv 1, iv yy3, iv yy4, iv 0, iv z9, iv z10, iv 0, .unset, .unset, .unset, .unset] [(.int yy4), (.int yy3), (.int 1)])) (fun _ k => XS.iload X1.here hx rfl (hb hby at_124) rfl k) ?_
          obtain ⟨_, _, ⟨T71, L71, kk71, nn71⟩, -, X71, ⟨Lc71, hQ71, lq71, yq71, zz71⟩, st71⟩ := Jvm.LawKit.callS X1 hx (y := (⟨"com/example/naysay/naysay/rules/TokenIsSymbolPinLaw", "mk", "(ICC)Ljava/lang/String;"⟩ : MethodName)) hown (mvT hZ (hw _ (List.mem_of_getElem? (i := 8) rfl))) (mvT hZ (hw _ (List.mem_of_getElem? (i := 9) rfl))) (mvT hZ (hw _ (List.mem_of_getElem? (i := 2) rfl))) (mvT hZ (hw _ (List.mem_of_getElem? (i := 10) rfl))) (by decide) (own_back (W := 0) (rmM_1 l Z a0 hw [] yy3 yy4 w_NUMBER w_SYMBOL w_NAME w_END w_STRING i_COMPACT_STRINGS v_SIOOBE_FORMATTER h0 n0 O0 (hyy3 ▸ own_b _).1 (hyy4 ▸ own_b _).1 (hyy3 ▸ own_b _).2 (hyy4 ▸ own_b _).2 WW) hZ (hw _ (List.mem_of_getElem? (i := 10) rfl)) (hw _ (List.mem_of_getElem? (i := 2) rfl)) (by decide) (by decide)) (g := (mkF m 126 #[iv p1, iv p2, iv p3, iv p4, rv kd, iv 1, iv yy3, iv yy4, iv 0, iv z9, iv z10, iv 0, .unset, .unset, .unset, .unset] [(.int yy4), (.int yy3), (.int 1)])) rfl (by rw [hml]; rfl) (argsL := [(.int (1 : Int32)), (.int yy3), (.int yy4)]) (rest := []) (lenOf pd__ICC_Ljava_lang_String_ rfl) rfl (by show 2 * 0 + _ ≤ _; exact Nat.le_of_eq rfl) (hb hby at_126) (fun _ _ => ⟨rfl, kq1, (by decide : 0 + 3 ≤ _), (by decide : 0 + 6 ≤ _)⟩)
          dsimp only [Pt.U, Pt.locs, Pt.cells, Pt.slots] at X71 lq71 yq71 zz71 st71 hQ71
          subst lq71 yq71 zz71
          obtain ⟨b71, rfl, Nq71, zb71, kq71, eq71, cq71, tt71, kt71, zq71, fq71, vq71⟩ := hQ71
          have N71 := Fr.app N1 Nq71
          have ne_w_NUMBER_b71 : w_NUMBER ≠ b71 := Nat.ne_of_lt (Nat.lt_of_lt_of_le lt_w_NUMBER (Nat.le_trans O0.2.1 zb71))
          have ne_w_SYMBOL_b71 : w_SYMBOL ≠ b71 := Nat.ne_of_lt (Nat.lt_of_lt_of_le lt_w_SYMBOL (Nat.le_trans O0.2.1 zb71))
          have ne_w_NAME_b71 : w_NAME ≠ b71 := Nat.ne_of_lt (Nat.lt_of_lt_of_le lt_w_NAME (Nat.le_trans O0.2.1 zb71))
          have ne_w_END_b71 : w_END ≠ b71 := Nat.ne_of_lt (Nat.lt_of_lt_of_le lt_w_END (Nat.le_trans O0.2.1 zb71))
          have ne_w_STRING_b71 : w_STRING ≠ b71 := Nat.ne_of_lt (Nat.lt_of_lt_of_le lt_w_STRING (Nat.le_trans O0.2.1 zb71))
          have g_b71 : n0 ≤ b71 := Nat.le_trans (O0.1 ▸ O0.2.1) zb71
          have sn_b71 : Safe Z EL s.vm h0 b71 := Safe.new zb71
          have ne_w_NUMBER_tt71 : w_NUMBER ≠ tt71 := Nat.ne_of_lt (Nat.lt_of_lt_of_le lt_w_NUMBER (Nat.le_trans O0.2.1 zq71))
          have ne_w_SYMBOL_tt71 : w_SYMBOL ≠ tt71 := Nat.ne_of_lt (Nat.lt_of_lt_of_le lt_w_SYMBOL (Nat.le_trans O0.2.1 zq71))
          have ne_w_NAME_tt71 : w_NAME ≠ tt71 := Nat.ne_of_lt (Nat.lt_of_lt_of_le lt_w_NAME (Nat.le_trans O0.2.1 zq71))
          have ne_w_END_tt71 : w_END ≠ tt71 := Nat.ne_of_lt (Nat.lt_of_lt_of_le lt_w_END (Nat.le_trans O0.2.1 zq71))
          have ne_w_STRING_tt71 : w_STRING ≠ tt71 := Nat.ne_of_lt (Nat.lt_of_lt_of_le lt_w_STRING (Nat.le_trans O0.2.1 zq71))
          have g_tt71 : n0 ≤ tt71 := Nat.le_trans (O0.1 ▸ O0.2.1) zq71
          have sn_tt71 : Safe Z EL s.vm h0 tt71 := Safe.new zq71
          have O71 : Old Z n0 T71.heap := O0.keep kq71 all0
          have CR71 : CHr Z EL s.vm h0 s.vm T71.heap := CR0.trans (CHr.keep kq71 sf0 CR0.1)
          have lt_b71 := eq71.lt
          have lt_tt71 := vq71.lt
          refine Go.st (f' := (mkF m 129 #[iv p1, iv p2, iv p3, iv p4, rv kd, iv 1, iv yy3, iv yy4, iv 0, iv z9, iv z10, iv 0, .unset, .unset, .unset, .unset] [(.ref b71)])) (fun _ k => st71 _ k) ?_
          refine Go.st (f' := (mkF m 131 #[iv p1, iv p2, iv p3, iv p4, rv kd, iv 1, iv yy3, iv yy4, iv 0, iv z9, iv z10, iv 0, rv b71, .unset, .unset, .unset] [])) (fun _ k => XS.astore X71.here hx rfl (hb hby at_129) rfl rfl (l' := #[iv p1, iv p2, iv p3, iv p4, rv kd, iv 1, iv yy3, iv yy4, iv 0, iv z9, iv z10, iv 0, rv b71, .unset, .unset, .unset]) rfl k) ?_
          refine Go.st (f' := (mkF m 133 #[iv p1, iv p2, iv p3, iv p4, rv kd, iv 1, iv yy3, iv yy4, iv 0, iv z9, iv z10, iv 0, rv b71, .unset, .unset, .unset] [(.int 0)])) (fun _ k => XS.iload X71.here hx rfl (hb hby at_131) rfl k) ?_
          refine Go.st (f' := (mkF m 140 #[iv p1, iv p2, iv p3, iv p4, rv kd, iv 1, iv yy3, iv yy4, iv 0, iv z9, iv z10, iv 0, rv b71, .unset, .unset, .unset] [])) (fun _ k => XS.ifYes X71.here hx rfl (pc0 := 133) (pc' := 140) rfl (hb hby at_133) rfl (by decide) (by decide) (by decide) k) ?_
          refine Go.st (f' := (mkF m 142 #[iv p1, iv p2, iv p3, iv p4, rv kd, iv 1, iv yy3, iv yy4, iv 0, iv z9, iv z10, iv 0, rv b71, .unset, .unset, .unset] [(.int 0)])) (fun _ k => XS.iload X71.here hx rfl (hb hby at_140) rfl k) ?_
          refine Go.st (f' := (mkF m 144 #[iv p1, iv p2, iv p3, iv p4, rv kd, iv 1, iv yy3, iv yy4, iv 0, iv z9, iv z10, iv 0, rv b71, .unset, .unset, .unset] [(.int z9), (.int 0)])) (fun _ k => XS.iload X71.here hx rfl (hb hby at_142) rfl k) ?_
          refine Go.st (f' := (mkF m 146 #[iv p1, iv p2, iv p3, iv p4, rv kd, iv 1, iv yy3, iv yy4, iv 0, iv z9, iv z10, iv 0, rv b71, .unset, .unset, .unset] [(.int z10), (.int z9), (.int 0)])) (fun _ k => XS.iload X71.here hx rfl (hb hby at_144) rfl k) ?_
          obtain ⟨_, _, ⟨T72, L72, kk72, nn72⟩, -, Xw72, hSw72, hgw72, ⟨Lc72, hQ72, lq72, yq72, zz72, crw72⟩, st72⟩ := callSS X71 hx (y := (⟨"com/example/naysay/naysay/rules/TokenIsSymbolPinLaw", "mk", "(ICC)Ljava/lang/String;"⟩ : MethodName)) hown (mvT hZ (hw _ (List.mem_of_getElem? (i := 8) rfl))) (mvT hZ (hw _ (List.mem_of_getElem? (i := 9) rfl))) (mvT hZ (hw _ (List.mem_of_getElem? (i := 2) rfl))) (mvT hZ (hw _ (List.mem_of_getElem? (i := 10) rfl))) (by decide) (own_backW (W := 0) (rmM_0 l Z a0 hw [] z9 z10 w_NUMBER w_SYMBOL w_NAME w_END w_STRING i_COMPACT_STRINGS v_SIOOBE_FORMATTER T71.heap n0 O71 hz9.1 hz10.1 hz9.2 hz10.2 WW) hZ (hw _ (List.mem_of_getElem? (i := 10) rfl)) (hw _ (List.mem_of_getElem? (i := 2) rfl)) (by decide) (by decide) hEL CR71.1) (g := (mkF m 146 #[iv p1, iv p2, iv p3, iv p4, rv kd, iv 1, iv yy3, iv yy4, iv 0, iv z9, iv z10, iv 0, rv b71, .unset, .unset, .unset] [(.int z10), (.int z9), (.int 0)])) rfl (by rw [hml]; rfl) (argsL := [(.int (0 : Int32)), (.int z9), (.int z10)]) (rest := []) (lenOf pd__ICC_Ljava_lang_String_ rfl) rfl (by show 2 * 0 + _ ≤ _; exact Nat.le_of_eq rfl) (hb hby at_146) (fun _ _ => ⟨rfl, rfl, (by decide : 3 + 6 ≤ _), (by decide : 6 + 12 ≤ _)⟩)
          dsimp only [Pt.U, Pt.locs, Pt.cells, Pt.slots] at Xw72 lq72 yq72 zz72 st72 hQ72 hSw72 hgw72 crw72
          subst lq72 yq72 zz72
          obtain ⟨X72, hS72, hZ72, hown72⟩ := rebS hS (Nat.zero_le _) Xw72 hSw72 hgw72 hZ hown
          obtain ⟨b72, rfl, Nq72, zb72, kq72, eq72, cq72, tt72, kt72, fq72, vq72⟩ := hQ72
          have N72 := Fr.app N71 Nq72
          have ft73 := (Safe.keep kq71 sf0 CR0.1 sn_b71)
          have ft74 := (Safe.keep kq71 sf0 CR0.1 sn_tt71)
          have ne_b71_b72 : b71 ≠ b72 := Nat.ne_of_lt (Nat.lt_of_lt_of_le lt_b71 zb72)
          have ne_tt71_b72 : tt71 ≠ b72 := Nat.ne_of_lt (Nat.lt_of_lt_of_le lt_tt71 zb72)
          have ne_w_NUMBER_b72 : w_NUMBER ≠ b72 := Nat.ne_of_lt (Nat.lt_of_lt_of_le lt_w_NUMBER (Nat.le_trans O71.2.1 zb72))
          have ne_w_SYMBOL_b72 : w_SYMBOL ≠ b72 := Nat.ne_of_lt (Nat.lt_of_lt_of_le lt_w_SYMBOL (Nat.le_trans O71.2.1 zb72))
          have ne_w_NAME_b72 : w_NAME ≠ b72 := Nat.ne_of_lt (Nat.lt_of_lt_of_le lt_w_NAME (Nat.le_trans O71.2.1 zb72))
          have ne_w_END_b72 : w_END ≠ b72 := Nat.ne_of_lt (Nat.lt_of_lt_of_le lt_w_END (Nat.le_trans O71.2.1 zb72))
          have ne_w_STRING_b72 : w_STRING ≠ b72 := Nat.ne_of_lt (Nat.lt_of_lt_of_le lt_w_STRING (Nat.le_trans O71.2.1 zb72))
          have g_b72 : n0 ≤ b72 := Nat.le_trans (O71.1 ▸ O71.2.1) zb72
          have O72 : Old Z n0 T72.heap := O71.keep kq72 all0
          have lt_b72 := eq72.lt
          have lt_tt72 := vq72.lt
          have ft75 := (eq71.keep kq72)
          have nt_b71_tt72 : b71 ≠ tt72 := Exa.neArv ft75 vq72 (hw _ (List.mem_of_getElem? (i := 12) rfl))
          have nt_b72_tt72 : b72 ≠ tt72 := Exa.neArv eq72 vq72 (hw _ (List.mem_of_getElem? (i := 12) rfl))
          have hk72 : T72.heap.size ≤ T72.heap.size := Nat.le_refl _
          have sf76 := crw72.safe lt_b71 ft73
          have sf77 := crw72.safe lt_tt71 ft74
          have CR72 := CR71.trans crw72
          refine Go.tr (f' := (mkF m 149 #[iv p1, iv p2, iv p3, iv p4, rv kd, iv 1, iv yy3, iv yy4, iv 0, iv z9, iv z10, iv 0, rv b71, .unset, .unset, .unset] [(.ref b72)])) st72 ?_
          refine Go.st (f' := (mkF m 151 #[iv p1, iv p2, iv p3, iv p4, rv kd, iv 1, iv yy3, iv yy4, iv 0, iv z9, iv z10, iv 0, rv b71, rv b72, .unset, .unset] [])) (fun _ k => XS.astore X72.here hx rfl (hb hby at_149) rfl rfl (l' := #[iv p1, iv p2, iv p3, iv p4, rv kd, iv 1, iv yy3, iv yy4, iv 0, iv z9, iv z10, iv 0, rv b71, rv b72, .unset, .unset]) rfl k) ?_
          refine Go.st (f' := (mkF m 153 #[iv p1, iv p2, iv p3, iv p4, rv kd, iv 1, iv yy3, iv yy4, iv 0, iv z9, iv z10, iv 0, rv b71, rv b72, .unset, .unset] [(.ref kd)])) (fun _ k => XS.aload X72.here hx rfl (hb hby at_151) rfl rfl k) ?_
          obtain ⟨T78, X78, e78, st78⟩ := getS2 X72 hx hZ72 hown72 (host := "") (Or.inl (hw _ (List.mem_of_getElem? (i := 44) rfl))) Via.refl rfl (S_w_SYMBOL.ext O72.2) (g := (mkF m 153 #[iv p1, iv p2, iv p3, iv p4, rv kd, iv 1, iv yy3, iv yy4, iv 0, iv z9, iv z10, iv 0, rv b71, rv b72, .unset, .unset] [(.ref kd)])) rfl (hb hby at_153)
          refine Go.st (f' := (mkF m 156 #[iv p1, iv p2, iv p3, iv p4, rv kd, iv 1, iv yy3, iv yy4, iv 0, iv z9, iv z10, iv 0, rv b71, rv b72, .unset, .unset] [(.ref w_SYMBOL), (.ref kd)])) (fun _ k => st78 _ k) ?_
          have J2 : ∀ (z14 : Int32), (z14 = (syI_1_0 kd w_SYMBOL (nar .byte ((nar .char yy3).toInt8.toInt32)))) → Go p e below (DoneW s Z EL (QL n0) room_1.cells room_1.slots) T78 (mkF m 232 #[iv p1, iv p2, iv p3, iv p4, rv kd, iv 1, iv yy3, iv yy4, iv 0, iv z9, iv z10, iv 0, rv b71, rv b72, iv z14, .unset] []) := by
            intro z14 hz14
            obtain ⟨T79, h79, X79, e79, E79, A79, D79, -, st79⟩ := newO X78 hx hZ72 hown72 (hw _ (List.mem_of_getElem? (i := 46) rfl)) (hw _ (List.mem_of_getElem? (i := 47) rfl)) (hw _ (List.mem_of_getElem? (i := 48) rfl)) e78 (g := (mkF m 232 #[iv p1, iv p2, iv p3, iv p4, rv kd, iv 1, iv yy3, iv yy4, iv 0, iv z9, iv z10, iv 0, rv b71, rv b72, iv z14, .unset] [])) rfl (hb hby at_232) (by decide) (by decide)
            obtain ⟨b79, g79⟩ : ∃ z, z = T72.heap.size := ⟨_, rfl⟩
            rw [← g79] at A79 D79 st79
            have ft80 := (Nat.lt_of_lt_of_le lt_b71 kq72.1)
            have ne_b71_b79 : b71 ≠ b79 := Nat.ne_of_lt (Nat.lt_of_lt_of_eq ft80 g79.symm)
            have ft81 := (Nat.lt_of_lt_of_le lt_tt71 kq72.1)
            have ne_tt71_b79 : tt71 ≠ b79 := Nat.ne_of_lt (Nat.lt_of_lt_of_eq ft81 g79.symm)
            have ne_b72_b79 : b72 ≠ b79 := Nat.ne_of_lt (Nat.lt_of_lt_of_eq lt_b72 g79.symm)
            have ne_tt72_b79 : tt72 ≠ b79 := Nat.ne_of_lt (Nat.lt_of_lt_of_eq lt_tt72 g79.symm)
            have ne_w_NUMBER_b79 : w_NUMBER ≠ b79 := Nat.ne_of_lt (Nat.lt_of_lt_of_le lt_w_NUMBER (Nat.le_trans O72.2.1 (Nat.le_of_eq g79.symm)))
            have ne_w_SYMBOL_b79 : w_SYMBOL ≠ b79 := Nat.ne_of_lt (Nat.lt_of_lt_of_le lt_w_SYMBOL (Nat.le_trans O72.2.1 (Nat.le_of_eq g79.symm)))
            have ne_w_NAME_b79 : w_NAME ≠ b79 := Nat.ne_of_lt (Nat.lt_of_lt_of_le lt_w_NAME (Nat.le_trans O72.2.1 (Nat.le_of_eq g79.symm)))
            have ne_w_END_b79 : w_END ≠ b79 := Nat.ne_of_lt (Nat.lt_of_lt_of_le lt_w_END (Nat.le_trans O72.2.1 (Nat.le_of_eq g79.symm)))
            have ne_w_STRING_b79 : w_STRING ≠ b79 := Nat.ne_of_lt (Nat.lt_of_lt_of_le lt_w_STRING (Nat.le_trans O72.2.1 (Nat.le_of_eq g79.symm)))
            have g_b79 : n0 ≤ b79 := Nat.le_trans (O72.1 ▸ O72.2.1) (Nat.le_of_eq g79.symm)
            have O79 : Old Z n0 h79 := O72.ext E79
            have CR79 : CHr Z EL s.vm h0 T72.vm h79 := CR72.trans (CHr.ext E79 CR72.1)
            have sf_b79 : Safe Z EL T72.vm h79 b79 := (Safe.new (Nat.le_of_eq g79.symm)).ext E79 CR72.1
            have lt_b79 := A79.lt
            have F_kind_b79 : Fld Z h79 b79 "com/example/naysay/naysay/rules/Token" "kind" "Lcom/example/naysay/naysay/rules/Token$Kind;" .null := D79 (Or.inr (hw _ (List.mem_of_getElem? (i := 59) rfl))) (ty := (.object "com/example/naysay/naysay/rules/Token$Kind")) (by decide)
            have F_text_b79 : Fld Z h79 b79 "com/example/naysay/naysay/rules/Token" "text" "Ljava/lang/String;" .null := D79 (Or.inr (hw _ (List.mem_of_getElem? (i := 61) rfl))) (ty := (.object "java/lang/String")) (by decide)
            have F_column_b79 : Fld Z h79 b79 "com/example/naysay/naysay/rules/Token" "column" "I" (.int (0 : Int32)) := D79 (Or.inr (hw _ (List.mem_of_getElem? (i := 63) rfl))) (ty := .int) (by decide)
            refine Go.st (f' := (mkF m 235 #[iv p1, iv p2, iv p3, iv p4, rv kd, iv 1, iv yy3, iv yy4, iv 0, iv z9, iv z10, iv 0, rv b71, rv b72, iv z14, .unset] [(.ref b79)])) (fun _ k => st79 _ k) ?_
            refine Go.st (f' := (mkF m 236 #[iv p1, iv p2, iv p3, iv p4, rv kd, iv 1, iv yy3, iv yy4, iv 0, iv z9, iv z10, iv 0, rv b71, rv b72, iv z14, .unset] [(.ref b79), (.ref b79)])) (fun _ k => XS.dup X79.here hx rfl (hb hby at_235) rfl rfl k) ?_
            refine Go.st (f' := (mkF m 238 #[iv p1, iv p2, iv p3, iv p4, rv kd, iv 1, iv yy3, iv yy4, iv 0, iv z9, iv z10, iv 0, rv b71, rv b72, iv z14, .unset] [(.ref kd), (.ref b79), (.ref b79)])) (fun _ k => XS.aload X79.here hx rfl (hb hby at_236) rfl rfl k) ?_
            refine Go.st (f' := (mkF m 240 #[iv p1, iv p2, iv p3, iv p4, rv kd, iv 1, iv yy3, iv yy4, iv 0, iv z9, iv z10, iv 0, rv b71, rv b72, iv z14, .unset] [(.ref b71), (.ref kd), (.ref b79), (.ref b79)])) (fun _ k => XS.aload X79.here hx rfl (hb hby at_238) rfl rfl k) ?_
            refine Go.st (f' := (mkF m 241 #[iv p1, iv p2, iv p3, iv p4, rv kd, iv 1, iv yy3, iv yy4, iv 0, iv z9, iv z10, iv 0, rv b71, rv b72, iv z14, .unset] [(.int p4), (.ref b71), (.ref kd), (.ref b79), (.ref b79)])) (fun _ k => XS.iloadN X79.here hx rfl (hb hby at_240) rfl k) ?_
            obtain ⟨_, _, ⟨T82, L82, kk82, nn82⟩, -, X82, ⟨Lc82, hQ82, lq82, yq82, zz82⟩, st82⟩ := X79.specialBack hx (y := (⟨"com/example/naysay/naysay/rules/Token", "<init>", "(Lcom/example/naysay/naysay/rules/Token$Kind;Ljava/lang/String;I)V"⟩ : MethodName)) rfl hown72 (mvT hZ72 (hw _ (List.mem_of_getElem? (i := 49) rfl))) (mvT hZ72 (hw _ (List.mem_of_getElem? (i := 50) rfl))) (mvT hZ72 (hw _ (List.mem_of_getElem? (i := 51) rfl))) (by decide) (own_back (W := 1) (rmT l Z a0 hw [] b79 kd b71 p4 h79 n0 O79 g_b79 A79 F_kind_b79 F_text_b79 F_column_b79 ) hZ72 (hw _ (List.mem_of_getElem? (i := 51) rfl)) (hw _ (List.mem_of_getElem? (i := 48) rfl)) (by decide) (by decide)) (g := (mkF m 241 #[iv p1, iv p2, iv p3, iv p4, rv kd, iv 1, iv yy3, iv yy4, iv 0, iv z9, iv z10, iv 0, rv b71, rv b72, iv z14, .unset] [(.int p4), (.ref b71), (.ref kd), (.ref b79), (.ref b79)])) rfl (by rw [hml]; rfl) (Steps.refl _) (a := b79) (argsL := [(.ref kd), (.ref b71), (.int p4)]) (rest := [(.ref b79)]) (lenOf pd__Lcom_example_naysay_naysay_rules_Token_Kind_Ljava_lang_String_I_V rfl) rfl (by show 2 * 0 + _ ≤ _; exact Nat.le_of_eq rfl) (hb hby at_241) (fun _ _ => ⟨rfl, e79, (by decide : 10 + 0 ≤ _), (by decide : 21 + 0 ≤ _)⟩)
            dsimp only [Pt.U, Pt.locs, Pt.cells, Pt.slots] at X82 lq82 yq82 zz82 st82 hQ82
            subst lq82 yq82 zz82
            obtain ⟨rfl, Nq82, kq82, eq82, fq82_0, fq82_1, fq82_2⟩ := hQ82
            have N82 := Fr.app N72 Nq82
            have O82 : Old Z n0 T82.heap := O79.keep kq82 (allS g_b79 all0)
            have CR82 : CHr Z EL s.vm h0 T72.vm T82.heap := CR79.trans (CHr.keep kq82 (sfS sf_b79 sf0) CR79.1)
            refine Go.tr (f' := (mkF m 244 #[iv p1, iv p2, iv p3, iv p4, rv kd, iv 1, iv yy3, iv yy4, iv 0, iv z9, iv z10, iv 0, rv b71, rv b72, iv z14, .unset] [(.ref b79)])) st82 ?_
            refine Go.st (f' := (mkF m 246 #[iv p1, iv p2, iv p3, iv p4, rv kd, iv 1, iv yy3, iv yy4, iv 0, iv z9, iv z10, iv 0, rv b71, rv b72, iv z14, rv b79] [])) (fun _ k => XS.astore X82.here hx rfl (hb hby at_244) rfl rfl (l' := #[iv p1, iv p2, iv p3, iv p4, rv kd, iv 1, iv yy3, iv yy4, iv 0, iv z9, iv z10, iv 0, rv b71, rv b72, iv z14, rv b79]) rfl k) ?_
            refine Go.st (f' := (mkF m 248 #[iv p1, iv p2, iv p3, iv p4, rv kd, iv 1, iv yy3, iv yy4, iv 0, iv z9, iv z10, iv 0, rv b71, rv b72, iv z14, rv b79] [(.ref b79)])) (fun _ k => XS.aload X82.here hx rfl (hb hby at_246) rfl rfl k) ?_
            refine Go.st (f' := (mkF m 250 #[iv p1, iv p2, iv p3, iv p4, rv kd, iv 1, iv yy3, iv yy4, iv 0, iv z9, iv z10, iv 0, rv b71, rv b72, iv z14, rv b79] [(.ref b72), (.ref b79)])) (fun _ k => XS.aload X82.here hx rfl (hb hby at_248) rfl rfl k) ?_
            have ft84 := ((ft75.ext E79).keep kq82)
            have ft85 := (((cq71.keep kq72 nin0).ext E79).keep kq82 (ninS ne_b71_b79 nin0))
            have ft86 := (((fq71.keep kq72 nin0).ext E79).keep kq82 (ninS ne_b71_b79 nin0))
            have ft87 := (((vq71.keep kq72 nin0).ext E79).keep kq82 (ninS ne_tt71_b79 nin0))
            have ft88 := ((eq72.ext E79).keep kq82)
            have ft89 := ((cq72.ext E79).keep kq82 (ninS ne_b72_b79 nin0))
            have ft90 := ((fq72.ext E79).keep kq82 (ninS ne_b72_b79 nin0))
            have ft91 := ((vq72.ext E79).keep kq82 (ninS ne_tt72_b79 nin0))
            obtain ⟨cq83, kq83, q83a, q83b, q83c⟩ := isOf hZ72 rfl eq82
            obtain ⟨_, _, ⟨T83, L83, kk83, nn83⟩, -, X83, ⟨Lc83, hQ83, lq83, yq83, zz83⟩, st83⟩ := X82.virtualBack hx (y := (⟨"com/example/naysay/naysay/rules/Token", "isSymbol", "(Ljava/lang/String;)Z"⟩ : MethodName)) (z := (⟨"com/example/naysay/naysay/rules/Token", "isSymbol", "(Ljava/lang/String;)Z"⟩ : MethodName)) hown72 (mvT hZ72 (hw _ (List.mem_of_getElem? (i := 64) rfl))) (mvT hZ72 (hw _ (List.mem_of_getElem? (i := 65) rfl))) (notFace_of_selects (args := #[]) (mvT hZ72 (hw _ (List.mem_of_getElem? (i := 67) rfl)))) (mvT hZ72 (hw _ (List.mem_of_getElem? (i := 67) rfl))) (mvT hZ72 (hw _ (List.mem_of_getElem? (i := 66) rfl))) (by decide) (own_back (W := 0) (rmS_1_0 l Z a0 hw [] b79 kd b71 tt71 kt71 b72 tt72 kt72 (nar .byte ((nar .char yy3).toInt8.toInt32)) w_NUMBER w_SYMBOL w_NAME w_END w_STRING i_COMPACT_STRINGS v_SIOOBE_FORMATTER T82.heap n0 O82 eq82 fq82_0 fq82_1 ft84 ft85 ft86 ft87 ne_b71_b72 ft88 ft89 ft90 ft91 WW) hZ72 (hw _ (List.mem_of_getElem? (i := 68) rfl)) (hw _ (List.mem_of_getElem? (i := 48) rfl)) (by decide) (by decide)) q83a q83c (g := (mkF m 250 #[iv p1, iv p2, iv p3, iv p4, rv kd, iv 1, iv yy3, iv yy4, iv 0, iv z9, iv z10, iv 0, rv b71, rv b72, iv z14, rv b79] [(.ref b72), (.ref b79)])) rfl (by rw [hml]; rfl) (Steps.refl _) (argsL := [(.ref b72)]) (rest := []) (lenOf pd__Ljava_lang_String__Z rfl) rfl (by show 2 * 0 + _ ≤ _; exact Nat.le_of_eq rfl) (hb hby at_250) (fun _ _ => ⟨rfl, rfl, (by decide : 10 + 0 ≤ _), (by decide : 21 + 0 ≤ _)⟩)
            dsimp only [Pt.U, Pt.locs, Pt.cells, Pt.slots] at X83 lq83 yq83 zz83 st83 hQ83
            subst lq83 yq83 zz83
            obtain ⟨rfl, Nq83, kq83⟩ := hQ83
            have N83 := Fr.app N82 Nq83
            refine Go.tr (f' := (mkF m 253 #[iv p1, iv p2, iv p3, iv p4, rv kd, iv 1, iv yy3, iv yy4, iv 0, iv z9, iv z10, iv 0, rv b71, rv b72, iv z14, rv b79] [(.int (syI_1_0 kd w_SYMBOL (nar .byte ((nar .char yy3).toInt8.toInt32))))])) st83 ?_
            refine Go.st (f' := (mkF m 255 #[iv p1, iv p2, iv p3, iv p4, rv kd, iv 1, iv yy3, iv yy4, iv 0, iv z9, iv z10, iv 0, rv b71, rv b72, iv z14, rv b79] [(.int z14), (.int (syI_1_0 kd w_SYMBOL (nar .byte ((nar .char yy3).toInt8.toInt32))))])) (fun _ k => XS.iload X83.here hx rfl (hb hby at_253) rfl k) ?_
            refine Go.st (f' := (mkF m 258 #[iv p1, iv p2, iv p3, iv p4, rv kd, iv 1, iv yy3, iv yy4, iv 0, iv z9, iv z10, iv 0, rv b71, rv b72, iv z14, rv b79] [])) (fun _ k => XS.icmpNo X83.here hx rfl (hb hby at_255) rfl (teq hz14.symm).2 k) ?_
            refine Go.st (f' := (mkF m 259 #[iv p1, iv p2, iv p3, iv p4, rv kd, iv 1, iv yy3, iv yy4, iv 0, iv z9, iv z10, iv 0, rv b71, rv b72, iv z14, rv b79] [(.int 1)])) (fun _ k => XS.iconst X83.here hx rfl (hb hby at_258) k) ?_
            refine Go.st (f' := (mkF m 263 #[iv p1, iv p2, iv p3, iv p4, rv kd, iv 1, iv yy3, iv yy4, iv 0, iv z9, iv z10, iv 0, rv b71, rv b72, iv z14, rv b79] [(.int 1)])) (fun _ k => XS.goto X83.here hx rfl (pc0 := 259) (pc' := 263) rfl (hb hby at_259) (by decide) (by decide) k) ?_
            have ft92 := (Nat.le_trans (Nat.le_trans hk72 E79.1) kq82.1)
            refine GoW.retB X83 hlk hx (t := .boolean) hret (by simp) (hb hby at_263) kq83 hS72 ft92 hZ72 hEL CR82 hh ?_ (by decide) (by decide)
            exact ⟨rfl, N83⟩
          by_cases cd93 : kd = w_SYMBOL
          · refine Go.st (f' := (mkF m 159 #[iv p1, iv p2, iv p3, iv p4, rv kd, iv 1, iv yy3, iv yy4, iv 0, iv z9, iv z10, iv 0, rv b71, rv b72, .unset, .unset] [])) (fun _ k => Jvm.RoadKit.acmp (g := (mkF m 156 #[iv p1, iv p2, iv p3, iv p4, rv kd, iv 1, iv yy3, iv yy4, iv 0, iv z9, iv z10, iv 0, rv b71, rv b72, .unset, .unset] [(.ref w_SYMBOL), (.ref kd)])) X78 hx rfl rfl rfl (pc0 := 156) (pc' := 159) (same := true) rfl (hb hby at_156) rfl (decide_eq_true (congrArg Value.ref cd93)) (by decide) (by decide) k) ?_
            refine Go.st (f' := (mkF m 161 #[iv p1, iv p2, iv p3, iv p4, rv kd, iv 1, iv yy3, iv yy4, iv 0, iv z9, iv z10, iv 0, rv b71, rv b72, .unset, .unset] [(.int 0)])) (fun _ k => XS.iload X78.here hx rfl (hb hby at_159) rfl k) ?_
            refine Go.st (f' := (mkF m 164 #[iv p1, iv p2, iv p3, iv p4, rv kd, iv 1, iv yy3, iv yy4, iv 0, iv z9, iv z10, iv 0, rv b71, rv b72, .unset, .unset] [])) (fun _ k => XS.ifNo X78.here hx rfl (hb hby at_161) rfl (by decide) k) ?_
            refine Go.st (f' := (mkF m 166 #[iv p1, iv p2, iv p3, iv p4, rv kd, iv 1, iv yy3, iv yy4, iv 0, iv z9, iv z10, iv 0, rv b71, rv b72, .unset, .unset] [(.int 1)])) (fun _ k => XS.iload X78.here hx rfl (hb hby at_164) rfl k) ?_
            refine Go.st (f' := (mkF m 168 #[iv p1, iv p2, iv p3, iv p4, rv kd, iv 1, iv yy3, iv yy4, iv 0, iv z9, iv z10, iv 0, rv b71, rv b72, .unset, .unset] [(.int 0), (.int 1)])) (fun _ k => XS.iload X78.here hx rfl (hb hby at_166) rfl k) ?_
            refine Go.st (f' := (mkF m 171 #[iv p1, iv p2, iv p3, iv p4, rv kd, iv 1, iv yy3, iv yy4, iv 0, iv z9, iv z10, iv 0, rv b71, rv b72, .unset, .unset] [])) (fun _ k => XS.icmpNo X78.here hx rfl (hb hby at_168) rfl (by decide) k) ?_
            refine Go.st (f' := (mkF m 172 #[iv p1, iv p2, iv p3, iv p4, rv kd, iv 1, iv yy3, iv yy4, iv 0, iv z9, iv z10, iv 0, rv b71, rv b72, .unset, .unset] [(.int 0)])) (fun _ k => XS.iconst X78.here hx rfl (hb hby at_171) k) ?_
            refine Go.st (f' := (mkF m 174 #[iv p1, iv p2, iv p3, iv p4, rv kd, iv 1, iv yy3, iv yy4, iv 0, iv z9, iv z10, iv 0, rv b71, rv b72, iv 0, .unset] [])) (fun _ k => XS.istore X78.here hx rfl (hb hby at_172) rfl (l' := #[iv p1, iv p2, iv p3, iv p4, rv kd, iv 1, iv yy3, iv yy4, iv 0, iv z9, iv z10, iv 0, rv b71, rv b72, iv 0, .unset]) rfl k) ?_
            refine Go.st (f' := (mkF m 232 #[iv p1, iv p2, iv p3, iv p4, rv kd, iv 1, iv yy3, iv yy4, iv 0, iv z9, iv z10, iv 0, rv b71, rv b72, iv 0, .unset] [])) (fun _ k => XS.goto X78.here hx rfl (pc0 := 174) (pc' := 232) rfl (hb hby at_174) (by decide) (by decide) k) ?_
            exact J2 (0 : Int32) (by rw [syI_1_0, if_pos cd93] <;> rfl)
          · refine Go.st (f' := (mkF m 171 #[iv p1, iv p2, iv p3, iv p4, rv kd, iv 1, iv yy3, iv yy4, iv 0, iv z9, iv z10, iv 0, rv b71, rv b72, .unset, .unset] [])) (fun _ k => Jvm.RoadKit.acmp (g := (mkF m 156 #[iv p1, iv p2, iv p3, iv p4, rv kd, iv 1, iv yy3, iv yy4, iv 0, iv z9, iv z10, iv 0, rv b71, rv b72, .unset, .unset] [(.ref w_SYMBOL), (.ref kd)])) X78 hx rfl rfl rfl (pc0 := 156) (pc' := 171) (same := false) rfl (hb hby at_156) rfl (decide_eq_false fun q => cd93 (Value.ref.inj q)) (by decide) (by decide) k) ?_
            refine Go.st (f' := (mkF m 172 #[iv p1, iv p2, iv p3, iv p4, rv kd, iv 1, iv yy3, iv yy4, iv 0, iv z9, iv z10, iv 0, rv b71, rv b72, .unset, .unset] [(.int 0)])) (fun _ k => XS.iconst X78.here hx rfl (hb hby at_171) k) ?_
            refine Go.st (f' := (mkF m 174 #[iv p1, iv p2, iv p3, iv p4, rv kd, iv 1, iv yy3, iv yy4, iv 0, iv z9, iv z10, iv 0, rv b71, rv b72, iv 0, .unset] [])) (fun _ k => XS.istore X78.here hx rfl (hb hby at_172) rfl (l' := #[iv p1, iv p2, iv p3, iv p4, rv kd, iv 1, iv yy3, iv yy4, iv 0, iv z9, iv z10, iv 0, rv b71, rv b72, iv 0, .unset]) rfl k) ?_
            refine Go.st (f' := (mkF m 232 #[iv p1, iv p2, iv p3, iv p4, rv kd, iv 1, iv yy3, iv yy4, iv 0, iv z9, iv z10, iv 0, rv b71, rv b72, iv 0, .unset] [])) (fun _ k => XS.goto X78.here hx rfl (pc0 := 174) (pc' := 232) rfl (hb hby at_174) (by decide) (by decide) k) ?_
            exact J2 (0 : Int32) (by rw [syI_1_0, if_neg cd93])
        · refine Go.st (f' := (mkF m 122 #[iv p1, iv p2, iv p3, iv p4, rv kd, iv 1, iv yy3, iv yy4, iv 1, iv z9, iv z10, iv 0, .unset, .unset, .unset, .unset] [(.int 1)])) (fun _ k => XS.iload X1.here hx rfl (hb hby at_120) rfl k) ?_
          refine Go.st (f' := (mkF m 124 #[iv p1, iv p2, iv p3, iv p4, rv kd, iv 1, iv yy3, iv yy4, iv 1, iv z9, iv z10, iv 0, .unset, .unset, .unset, .unset] [(.int yy3), (.int 1)])) (fun _ k => XS.iload X1.here hx rfl (hb hby at_122) rfl k) ?_
          refine Go.st (f' := (mkF m 126 #[iv p1, iv p2, iv p3, iv p4, rv kd, iv 1, iv yy3, iv yy4, iv 1, iv z9, iv z10, iv 0, .unset, .unset, .unset, .unset] [(.int yy4), (.int yy3), (.int 1)])) (fun _ k => XS.iload X1.here hx rfl (hb hby at_124) rfl k) ?_
          obtain ⟨_, _, ⟨T94, L94, kk94, nn94⟩, -, X94, ⟨Lc94, hQ94, lq94, yq94, zz94⟩, st94⟩ := Jvm.LawKit.callS X1 hx (y := (⟨"com/example/naysay/naysay/rules/TokenIsSymbolPinLaw", "mk", "(ICC)Ljava/lang/String;"⟩ : MethodName)) hown (mvT hZ (hw _ (List.mem_of_getElem? (i := 8) rfl))) (mvT hZ (hw _ (List.mem_of_getElem? (i := 9) rfl))) (mvT hZ (hw _ (List.mem_of_getElem? (i := 2) rfl))) (mvT hZ (hw _ (List.mem_of_getElem? (i := 10) rfl))) (by decide) (own_back (W := 0) (rmM_1 l Z a0 hw [] yy3 yy4 w_NUMBER w_SYMBOL w_NAME w_END w_STRING i_COMPACT_STRINGS v_SIOOBE_FORMATTER h0 n0 O0 (hyy3 ▸ own_b _).1 (hyy4 ▸ own_b _).1 (hyy3 ▸ own_b _).2 (hyy4 ▸ own_b _).2 WW) hZ (hw _ (List.mem_of_getElem? (i := 10) rfl)) (hw _ (List.mem_of_getElem? (i := 2) rfl)) (by decide) (by decide)) (g := (mkF m 126 #[iv p1, iv p2, iv p3, iv p4, rv kd, iv 1, iv yy3, iv yy4, iv 1, iv z9, iv z10, iv 0, .unset, .unset, .unset, .unset] [(.int yy4), (.int yy3), (.int 1)])) rfl (by rw [hml]; rfl) (argsL := [(.int (1 : Int32)), (.int yy3), (.int yy4)]) (rest := []) (lenOf pd__ICC_Ljava_lang_String_ rfl) rfl (by show 2 * 0 + _ ≤ _; exact Nat.le_of_eq rfl) (hb hby at_126) (fun _ _ => ⟨rfl, kq1, (by decide : 0 + 3 ≤ _), (by decide : 0 + 6 ≤ _)⟩)
          dsimp only [Pt.U, Pt.locs, Pt.cells, Pt.slots] at X94 lq94 yq94 zz94 st94 hQ94
          subst lq94 yq94 zz94
          obtain ⟨b94, rfl, Nq94, zb94, kq94, eq94, cq94, tt94, kt94, zq94, fq94, vq94⟩ := hQ94
          have N94 := Fr.app N1 Nq94
          have ne_w_NUMBER_b94 : w_NUMBER ≠ b94 := Nat.ne_of_lt (Nat.lt_of_lt_of_le lt_w_NUMBER (Nat.le_trans O0.2.1 zb94))
          have ne_w_SYMBOL_b94 : w_SYMBOL ≠ b94 := Nat.ne_of_lt (Nat.lt_of_lt_of_le lt_w_SYMBOL (Nat.le_trans O0.2.1 zb94))
          have ne_w_NAME_b94 : w_NAME ≠ b94 := Nat.ne_of_lt (Nat.lt_of_lt_of_le lt_w_NAME (Nat.le_trans O0.2.1 zb94))
          have ne_w_END_b94 : w_END ≠ b94 := Nat.ne_of_lt (Nat.lt_of_lt_of_le lt_w_END (Nat.le_trans O0.2.1 zb94))
          have ne_w_STRING_b94 : w_STRING ≠ b94 := Nat.ne_of_lt (Nat.lt_of_lt_of_le lt_w_STRING (Nat.le_trans O0.2.1 zb94))
          have g_b94 : n0 ≤ b94 := Nat.le_trans (O0.1 ▸ O0.2.1) zb94
          have sn_b94 : Safe Z EL s.vm h0 b94 := Safe.new zb94
          have ne_w_NUMBER_tt94 : w_NUMBER ≠ tt94 := Nat.ne_of_lt (Nat.lt_of_lt_of_le lt_w_NUMBER (Nat.le_trans O0.2.1 zq94))
          have ne_w_SYMBOL_tt94 : w_SYMBOL ≠ tt94 := Nat.ne_of_lt (Nat.lt_of_lt_of_le lt_w_SYMBOL (Nat.le_trans O0.2.1 zq94))
          have ne_w_NAME_tt94 : w_NAME ≠ tt94 := Nat.ne_of_lt (Nat.lt_of_lt_of_le lt_w_NAME (Nat.le_trans O0.2.1 zq94))
          have ne_w_END_tt94 : w_END ≠ tt94 := Nat.ne_of_lt (Nat.lt_of_lt_of_le lt_w_END (Nat.le_trans O0.2.1 zq94))
          have ne_w_STRING_tt94 : w_STRING ≠ tt94 := Nat.ne_of_lt (Nat.lt_of_lt_of_le lt_w_STRING (Nat.le_trans O0.2.1 zq94))
          have g_tt94 : n0 ≤ tt94 := Nat.le_trans (O0.1 ▸ O0.2.1) zq94
          have sn_tt94 : Safe Z EL s.vm h0 tt94 := Safe.new zq94
          have O94 : Old Z n0 T94.heap := O0.keep kq94 all0
          have CR94 : CHr Z EL s.vm h0 s.vm T94.heap := CR0.trans (CHr.keep kq94 sf0 CR0.1)
          have lt_b94 := eq94.lt
          have lt_tt94 := vq94.lt
          refine Go.st (f' := (mkF m 129 #[iv p1, iv p2, iv p3, iv p4, rv kd, iv 1, iv yy3, iv yy4, iv 1, iv z9, iv z10, iv 0, .unset, .unset, .unset, .unset] [(.ref b94)])) (fun _ k => st94 _ k) ?_
          refine Go.st (f' := (mkF m 131 #[iv p1, iv p2, iv p3, iv p4, rv kd, iv 1, iv yy3, iv yy4, iv 1, iv z9, iv z10, iv 0, rv b94, .unset, .unset, .unset] [])) (fun _ k => XS.astore X94.here hx rfl (hb hby at_129) rfl rfl (l' := #[iv p1, iv p2, iv p3, iv p4, rv kd, iv 1, iv yy3, iv yy4, iv 1, iv z9, iv z10, iv 0, rv b94, .unset, .unset, .unset]) rfl k) ?_
          refine Go.st (f' := (mkF m 133 #[iv p1, iv p2, iv p3, iv p4, rv kd, iv 1, iv yy3, iv yy4, iv 1, iv z9, iv z10, iv 0, rv b94, .unset, .unset, .unset] [(.int 0)])) (fun _ k => XS.iload X94.here hx rfl (hb hby at_131) rfl k) ?_
          refine Go.st (f' := (mkF m 140 #[iv p1, iv p2, iv p3, iv p4, rv kd, iv 1, iv yy3, iv yy4, iv 1, iv z9, iv z10, iv 0, rv b94, .unset, .unset, .unset] [])) (fun _ k => XS.ifYes X94.here hx rfl (pc0 := 133) (pc' := 140) rfl (hb hby at_133) rfl (by decide) (by decide) (by decide) k) ?_
          refine Go.st (f' := (mkF m 142 #[iv p1, iv p2, iv p3, iv p4, rv kd, iv 1, iv yy3, iv yy4, iv 1, iv z9, iv z10, iv 0, rv b94, .unset, .unset, .unset] [(.int 1)])) (fun _ k => XS.iload X94.here hx rfl (hb hby at_140) rfl k) ?_
          refine Go.st (f' := (mkF m 144 #[iv p1, iv p2, iv p3, iv p4, rv kd, iv 1, iv yy3, iv yy4, iv 1, iv z9, iv z10, iv 0, rv b94, .unset, .unset, .unset] [(.int z9), (.int 1)])) (fun _ k => XS.iload X94.here hx rfl (hb hby at_142) rfl k) ?_
          refine Go.st (f' := (mkF m 146 #[iv p1, iv p2, iv p3, iv p4, rv kd, iv 1, iv yy3, iv yy4, iv 1, iv z9, iv z10, iv 0, rv b94, .unset, .unset, .unset] [(.int z10), (.int z9), (.int 1)])) (fun _ k => XS.iload X94.here hx rfl (hb hby at_144) rfl k) ?_
          obtain ⟨_, _, ⟨T95, L95, kk95, nn95⟩, -, X95, ⟨Lc95, hQ95, lq95, yq95, zz95⟩, st95⟩ := Jvm.LawKit.callS X94 hx (y := (⟨"com/example/naysay/naysay/rules/TokenIsSymbolPinLaw", "mk", "(ICC)Ljava/lang/String;"⟩ : MethodName)) hown (mvT hZ (hw _ (List.mem_of_getElem? (i := 8) rfl))) (mvT hZ (hw _ (List.mem_of_getElem? (i := 9) rfl))) (mvT hZ (hw _ (List.mem_of_getElem? (i := 2) rfl))) (mvT hZ (hw _ (List.mem_of_getElem? (i := 10) rfl))) (by decide) (own_back (W := 0) (rmM_1 l Z a0 hw [] z9 z10 w_NUMBER w_SYMBOL w_NAME w_END w_STRING i_COMPACT_STRINGS v_SIOOBE_FORMATTER T94.heap n0 O94 hz9.1 hz10.1 hz9.2 hz10.2 WW) hZ (hw _ (List.mem_of_getElem? (i := 10) rfl)) (hw _ (List.mem_of_getElem? (i := 2) rfl)) (by decide) (by decide)) (g := (mkF m 146 #[iv p1, iv p2, iv p3, iv p4, rv kd, iv 1, iv yy3, iv yy4, iv 1, iv z9, iv z10, iv 0, rv b94, .unset, .unset, .unset] [(.int z10), (.int z9), (.int 1)])) rfl (by rw [hml]; rfl) (argsL := [(.int (1 : Int32)), (.int z9), (.int z10)]) (rest := []) (lenOf pd__ICC_Ljava_lang_String_ rfl) rfl (by show 2 * 0 + _ ≤ _; exact Nat.le_of_eq rfl) (hb hby at_146) (fun _ _ => ⟨rfl, rfl, (by decide : 3 + 3 ≤ _), (by decide : 6 + 6 ≤ _)⟩)
          dsimp only [Pt.U, Pt.locs, Pt.cells, Pt.slots] at X95 lq95 yq95 zz95 st95 hQ95
          subst lq95 yq95 zz95
          obtain ⟨b95, rfl, Nq95, zb95, kq95, eq95, cq95, tt95, kt95, zq95, fq95, vq95⟩ := hQ95
          have N95 := Fr.app N94 Nq95
          have ne_b94_b95 : b94 ≠ b95 := Nat.ne_of_lt (Nat.lt_of_lt_of_le lt_b94 zb95)
          have ne_tt94_b95 : tt94 ≠ b95 := Nat.ne_of_lt (Nat.lt_of_lt_of_le lt_tt94 zb95)
          have ne_w_NUMBER_b95 : w_NUMBER ≠ b95 := Nat.ne_of_lt (Nat.lt_of_lt_of_le lt_w_NUMBER (Nat.le_trans O94.2.1 zb95))
          have ne_w_SYMBOL_b95 : w_SYMBOL ≠ b95 := Nat.ne_of_lt (Nat.lt_of_lt_of_le lt_w_SYMBOL (Nat.le_trans O94.2.1 zb95))
          have ne_w_NAME_b95 : w_NAME ≠ b95 := Nat.ne_of_lt (Nat.lt_of_lt_of_le lt_w_NAME (Nat.le_trans O94.2.1 zb95))
          have ne_w_END_b95 : w_END ≠ b95 := Nat.ne_of_lt (Nat.lt_of_lt_of_le lt_w_END (Nat.le_trans O94.2.1 zb95))
          have ne_w_STRING_b95 : w_STRING ≠ b95 := Nat.ne_of_lt (Nat.lt_of_lt_of_le lt_w_STRING (Nat.le_trans O94.2.1 zb95))
          have g_b95 : n0 ≤ b95 := Nat.le_trans (O94.1 ▸ O94.2.1) zb95
          have sn_b95 : Safe Z EL s.vm T94.heap b95 := Safe.new zb95
          have ne_b94_tt95 : b94 ≠ tt95 := Nat.ne_of_lt (Nat.lt_of_lt_of_le lt_b94 zq95)
          have ne_tt94_tt95 : tt94 ≠ tt95 := Nat.ne_of_lt (Nat.lt_of_lt_of_le lt_tt94 zq95)
          have ne_w_NUMBER_tt95 : w_NUMBER ≠ tt95 := Nat.ne_of_lt (Nat.lt_of_lt_of_le lt_w_NUMBER (Nat.le_trans O94.2.1 zq95))
          have ne_w_SYMBOL_tt95 : w_SYMBOL ≠ tt95 := Nat.ne_of_lt (Nat.lt_of_lt_of_le lt_w_SYMBOL (Nat.le_trans O94.2.1 zq95))
          have ne_w_NAME_tt95 : w_NAME ≠ tt95 := Nat.ne_of_lt (Nat.lt_of_lt_of_le lt_w_NAME (Nat.le_trans O94.2.1 zq95))
          have ne_w_END_tt95 : w_END ≠ tt95 := Nat.ne_of_lt (Nat.lt_of_lt_of_le lt_w_END (Nat.le_trans O94.2.1 zq95))
          have ne_w_STRING_tt95 : w_STRING ≠ tt95 := Nat.ne_of_lt (Nat.lt_of_lt_of_le lt_w_STRING (Nat.le_trans O94.2.1 zq95))
          have g_tt95 : n0 ≤ tt95 := Nat.le_trans (O94.1 ▸ O94.2.1) zq95
          have sn_tt95 : Safe Z EL s.vm T94.heap tt95 := Safe.new zq95
          have O95 : Old Z n0 T95.heap := O94.keep kq95 all0
          have CR95 : CHr Z EL s.vm h0 s.vm T95.heap := CR94.trans (CHr.keep kq95 sf0 CR94.1)
          have lt_b95 := eq95.lt
          have lt_tt95 := vq95.lt
          refine Go.st (f' := (mkF m 149 #[iv p1, iv p2, iv p3, iv p4, rv kd, iv 1, iv yy3, iv yy4, iv 1, iv z9, iv z10, iv 0, rv b94, .unset, .unset, .unset] [(.ref b95)])) (fun _ k => st95 _ k) ?_
          refine Go.st (f' := (mkF m 151 #[iv p1, iv p2, iv p3, iv p4, rv kd, iv 1, iv yy3, iv yy4, iv 1, iv z9, iv z10, iv 0, rv b94, rv b95, .unset, .unset] [])) (fun _ k => XS.astore X95.here hx rfl (hb hby at_149) rfl rfl (l' := #[iv p1, iv p2, iv p3, iv p4, rv kd, iv 1, iv yy3, iv yy4, iv 1, iv z9, iv z10, iv 0, rv b94, rv b95, .unset, .unset]) rfl k) ?_
          refine Go.st (f' := (mkF m 153 #[iv p1, iv p2, iv p3, iv p4, rv kd, iv 1, iv yy3, iv yy4, iv 1, iv z9, iv z10, iv 0, rv b94, rv b95, .unset, .unset] [(.ref kd)])) (fun _ k => XS.aload X95.here hx rfl (hb hby at_151) rfl rfl k) ?_
          obtain ⟨T96, X96, e96, st96⟩ := getS2 X95 hx hZ hown (host := "") (Or.inl (hw _ (List.mem_of_getElem? (i := 44) rfl))) Via.refl rfl (S_w_SYMBOL.ext O95.2) (g := (mkF m 153 #[iv p1, iv p2, iv p3, iv p4, rv kd, iv 1, iv yy3, iv yy4, iv 1, iv z9, iv z10, iv 0, rv b94, rv b95, .unset, .unset] [(.ref kd)])) rfl (hb hby at_153)
          refine Go.st (f' := (mkF m 156 #[iv p1, iv p2, iv p3, iv p4, rv kd, iv 1, iv yy3, iv yy4, iv 1, iv z9, iv z10, iv 0, rv b94, rv b95, .unset, .unset] [(.ref w_SYMBOL), (.ref kd)])) (fun _ k => st96 _ k) ?_
          have J2 : ∀ (z14 : Int32), (z14 = (syI_1_1 kd w_SYMBOL (nar .byte ((nar .char yy3).toInt8.toInt32)) (nar .byte ((nar .char z9).toInt8.toInt32)))) → Go p e below (DoneW s Z EL (QL n0) room_1.cells room_1.slots) T96 (mkF m 232 #[iv p1, iv p2, iv p3, iv p4, rv kd, iv 1, iv yy3, iv yy4, iv 1, iv z9, iv z10, iv 0, rv b94, rv b95, iv z14, .unset] []) := by
            intro z14 hz14
            obtain ⟨T97, h97, X97, e97, E97, A97, D97, -, st97⟩ := newO X96 hx hZ hown (hw _ (List.mem_of_getElem? (i := 46) rfl)) (hw _ (List.mem_of_getElem? (i := 47) rfl)) (hw _ (List.mem_of_getElem? (i := 48) rfl)) e96 (g := (mkF m 232 #[iv p1, iv p2, iv p3, iv p4, rv kd, iv 1, iv yy3, iv yy4, iv 1, iv z9, iv z10, iv 0, rv b94, rv b95, iv z14, .unset] [])) rfl (hb hby at_232) (by decide) (by decide)
            obtain ⟨b97, g97⟩ : ∃ z, z = T95.heap.size := ⟨_, rfl⟩
            rw [← g97] at A97 D97 st97
            have ft98 := (Nat.lt_of_lt_of_le lt_b94 kq95.1)
            have ne_b94_b97 : b94 ≠ b97 := Nat.ne_of_lt (Nat.lt_of_lt_of_eq ft98 g97.symm)
            have ft99 := (Nat.lt_of_lt_of_le lt_tt94 kq95.1)
            have ne_tt94_b97 : tt94 ≠ b97 := Nat.ne_of_lt (Nat.lt_of_lt_of_eq ft99 g97.symm)
            have ne_b95_b97 : b95 ≠ b97 := Nat.ne_of_lt (Nat.lt_of_lt_of_eq lt_b95 g97.symm)
            have ne_tt95_b97 : tt95 ≠ b97 := Nat.ne_of_lt (Nat.lt_of_lt_of_eq lt_tt95 g97.symm)
            have ne_w_NUMBER_b97 : w_NUMBER ≠ b97 := Nat.ne_of_lt (Nat.lt_of_lt_of_le lt_w_NUMBER (Nat.le_trans O95.2.1 (Nat.le_of_eq g97.symm)))
            have ne_w_SYMBOL_b97 : w_SYMBOL ≠ b97 := Nat.ne_of_lt (Nat.lt_of_lt_of_le lt_w_SYMBOL (Nat.le_trans O95.2.1 (Nat.le_of_eq g97.symm)))
            have ne_w_NAME_b97 : w_NAME ≠ b97 := Nat.ne_of_lt (Nat.lt_of_lt_of_le lt_w_NAME (Nat.le_trans O95.2.1 (Nat.le_of_eq g97.symm)))
            have ne_w_END_b97 : w_END ≠ b97 := Nat.ne_of_lt (Nat.lt_of_lt_of_le lt_w_END (Nat.le_trans O95.2.1 (Nat.le_of_eq g97.symm)))
            have ne_w_STRING_b97 : w_STRING ≠ b97 := Nat.ne_of_lt (Nat.lt_of_lt_of_le lt_w_STRING (Nat.le_trans O95.2.1 (Nat.le_of_eq g97.symm)))
            have g_b97 : n0 ≤ b97 := Nat.le_trans (O95.1 ▸ O95.2.1) (Nat.le_of_eq g97.symm)
            have O97 : Old Z n0 h97 := O95.ext E97
            have CR97 : CHr Z EL s.vm h0 s.vm h97 := CR95.trans (CHr.ext E97 CR95.1)
            have sf_b97 : Safe Z EL s.vm h97 b97 := (Safe.new (Nat.le_of_eq g97.symm)).ext E97 CR95.1
            have lt_b97 := A97.lt
            have F_kind_b97 : Fld Z h97 b97 "com/example/naysay/naysay/rules/Token" "kind" "Lcom/example/naysay/naysay/rules/Token$Kind;" .null := D97 (Or.inr (hw _ (List.mem_of_getElem? (i := 59) rfl))) (ty := (.object "com/example/naysay/naysay/rules/Token$Kind")) (by decide)
            have F_text_b97 : Fld Z h97 b97 "com/example/naysay/naysay/rules/Token" "text" "Ljava/lang/String;" .null := D97 (Or.inr (hw _ (List.mem_of_getElem? (i := 61) rfl))) (ty := (.object "java/lang/String")) (by decide)
            have F_column_b97 : Fld Z h97 b97 "com/example/naysay/naysay/rules/Token" "column" "I" (.int (0 : Int32)) := D97 (Or.inr (hw _ (List.mem_of_getElem? (i := 63) rfl))) (ty := .int) (by decide)
            refine Go.st (f' := (mkF m 235 #[iv p1, iv p2, iv p3, iv p4, rv kd, iv 1, iv yy3, iv yy4, iv 1, iv z9, iv z10, iv 0, rv b94, rv b95, iv z14, .unset] [(.ref b97)])) (fun _ k => st97 _ k) ?_
            refine Go.st (f' := (mkF m 236 #[iv p1, iv p2, iv p3, iv p4, rv kd, iv 1, iv yy3, iv yy4, iv 1, iv z9, iv z10, iv 0, rv b94, rv b95, iv z14, .unset] [(.ref b97), (.ref b97)])) (fun _ k => XS.dup X97.here hx rfl (hb hby at_235) rfl rfl k) ?_
            refine Go.st (f' := (mkF m 238 #[iv p1, iv p2, iv p3, iv p4, rv kd, iv 1, iv yy3, iv yy4, iv 1, iv z9, iv z10, iv 0, rv b94, rv b95, iv z14, .unset] [(.ref kd), (.ref b97), (.ref b97)])) (fun _ k => XS.aload X97.here hx rfl (hb hby at_236) rfl rfl k) ?_
            refine Go.st (f' := (mkF m 240 #[iv p1, iv p2, iv p3, iv p4, rv kd, iv 1, iv yy3, iv yy4, iv 1, iv z9, iv z10, iv 0, rv b94, rv b95, iv z14, .unset] [(.ref b94), (.ref kd), (.ref b97), (.ref b97)])) (fun _ k => XS.aload X97.here hx rfl (hb hby at_238) rfl rfl k) ?_
            refine Go.st (f' := (mkF m 241 #[iv p1, iv p2, iv p3, iv p4, rv kd, iv 1, iv yy3, iv yy4, iv 1, iv z9, iv z10, iv 0, rv b94, rv b95, iv z14, .unset] [(.int p4), (.ref b94), (.ref kd), (.ref b97), (.ref b97)])) (fun _ k => XS.iloadN X97.here hx rfl (hb hby at_240) rfl k) ?_
            obtain ⟨_, _, ⟨T100, L100, kk100, nn100⟩, -, X100, ⟨Lc100, hQ100, lq100, yq100, zz100⟩, st100⟩ := X97.specialBack hx (y := (⟨"com/example/naysay/naysay/rules/Token", "<init>", "(Lcom/example/naysay/naysay/rules/Token$Kind;Ljava/lang/String;I)V"⟩ : MethodName)) rfl hown (mvT hZ (hw _ (List.mem_of_getElem? (i := 49) rfl))) (mvT hZ (hw _ (List.mem_of_getElem? (i := 50) rfl))) (mvT hZ (hw _ (List.mem_of_getElem? (i := 51) rfl))) (by decide) (own_back (W := 1) (rmT l Z a0 hw [] b97 kd b94 p4 h97 n0 O97 g_b97 A97 F_kind_b97 F_text_b97 F_column_b97 ) hZ (hw _ (List.mem_of_getElem? (i := 51) rfl)) (hw _ (List.mem_of_getElem? (i := 48) rfl)) (by decide) (by decide)) (g := (mkF m 241 #[iv p1, iv p2, iv p3, iv p4, rv kd, iv 1, iv yy3, iv yy4, iv 1, iv z9, iv z10, iv 0, rv b94, rv b95, iv z14, .unset] [(.int p4), (.ref b94), (.ref kd), (.ref b97), (.ref b97)])) rfl (by rw [hml]; rfl) (Steps.refl _) (a := b97) (argsL := [(.ref kd), (.ref b94), (.int p4)]) (rest := [(.ref b97)]) (lenOf pd__Lcom_example_naysay_naysay_rules_Token_Kind_Ljava_lang_String_I_V rfl) rfl (by show 2 * 0 + _ ≤ _; exact Nat.le_of_eq rfl) (hb hby at_241) (fun _ _ => ⟨rfl, e97, (by decide : 7 + 0 ≤ _), (by decide : 15 + 0 ≤ _)⟩)
            dsimp only [Pt.U, Pt.locs, Pt.cells, Pt.slots] at X100 lq100 yq100 zz100 st100 hQ100
            subst lq100 yq100 zz100
            obtain ⟨rfl, Nq100, kq100, eq100, fq100_0, fq100_1, fq100_2⟩ := hQ100
            have N100 := Fr.app N95 Nq100
            have O100 : Old Z n0 T100.heap := O97.keep kq100 (allS g_b97 all0)
            have CR100 : CHr Z EL s.vm h0 s.vm T100.heap := CR97.trans (CHr.keep kq100 (sfS sf_b97 sf0) CR97.1)
            refine Go.tr (f' := (mkF m 244 #[iv p1, iv p2, iv p3, iv p4, rv kd, iv 1, iv yy3, iv yy4, iv 1, iv z9, iv z10, iv 0, rv b94, rv b95, iv z14, .unset] [(.ref b97)])) st100 ?_
            refine Go.st (f' := (mkF m 246 #[iv p1, iv p2, iv p3, iv p4, rv kd, iv 1, iv yy3, iv yy4, iv 1, iv z9, iv z10, iv 0, rv b94, rv b95, iv z14, rv b97] [])) (fun _ k => XS.astore X100.here hx rfl (hb hby at_244) rfl rfl (l' := #[iv p1, iv p2, iv p3, iv p4, rv kd, iv 1, iv yy3, iv yy4, iv 1, iv z9, iv z10, iv 0, rv b94, rv b95, iv z14, rv b97]) rfl k) ?_
            refine Go.st (f' := (mkF m 248 #[iv p1, iv p2, iv p3, iv p4, rv kd, iv 1, iv yy3, iv yy4, iv 1, iv z9, iv z10, iv 0, rv b94, rv b95, iv z14, rv b97] [(.ref b97)])) (fun _ k => XS.aload X100.here hx rfl (hb hby at_246) rfl rfl k) ?_
            refine Go.st (f' := (mkF m 250 #[iv p1, iv p2, iv p3, iv p4, rv kd, iv 1, iv yy3, iv yy4, iv 1, iv z9, iv z10, iv 0, rv b94, rv b95, iv z14, rv b97] [(.ref b95), (.ref b97)])) (fun _ k => XS.aload X100.here hx rfl (hb hby at_248) rfl rfl k) ?_
            have ft102 := (((eq94.keep kq95).ext E97).keep kq100)
            have ft103 := (((cq94.keep kq95 nin0).ext E97).keep kq100 (ninS ne_b94_b97 nin0))
            have ft104 := (((fq94.keep kq95 nin0).ext E97).keep kq100 (ninS ne_b94_b97 nin0))
            have ft105 := (((vq94.keep kq95 nin0).ext E97).keep kq100 (ninS ne_tt94_b97 nin0))
            have ft106 := ((eq95.ext E97).keep kq100)
            have ft107 := ((cq95.ext E97).keep kq100 (ninS ne_b95_b97 nin0))
            have ft108 := ((fq95.ext E97).keep kq100 (ninS ne_b95_b97 nin0))
            have ft109 := ((vq95.ext E97).keep kq100 (ninS ne_tt95_b97 nin0))
            obtain ⟨cq101, kq101, q101a, q101b, q101c⟩ := isOf hZ rfl eq100
            obtain ⟨_, _, ⟨T101, L101, kk101, nn101⟩, -, X101, ⟨Lc101, hQ101, lq101, yq101, zz101⟩, st101⟩ := X100.virtualBack hx (y := (⟨"com/example/naysay/naysay/rules/Token", "isSymbol", "(Ljava/lang/String;)Z"⟩ : MethodName)) (z := (⟨"com/example/naysay/naysay/rules/Token", "isSymbol", "(Ljava/lang/String;)Z"⟩ : MethodName)) hown (mvT hZ (hw _ (List.mem_of_getElem? (i := 64) rfl))) (mvT hZ (hw _ (List.mem_of_getElem? (i := 65) rfl))) (notFace_of_selects (args := #[]) (mvT hZ (hw _ (List.mem_of_getElem? (i := 67) rfl)))) (mvT hZ (hw _ (List.mem_of_getElem? (i := 67) rfl))) (mvT hZ (hw _ (List.mem_of_getElem? (i := 66) rfl))) (by decide) (own_back (W := 0) (rmS_1_1 l Z a0 hw [] b97 kd b94 tt94 kt94 b95 tt95 kt95 (nar .byte ((nar .char yy3).toInt8.toInt32)) (nar .byte ((nar .char z9).toInt8.toInt32)) w_NUMBER w_SYMBOL w_NAME w_END w_STRING i_COMPACT_STRINGS v_SIOOBE_FORMATTER T100.heap n0 O100 eq100 fq100_0 fq100_1 ft102 ft103 ft104 ft105 ne_b94_b95 ft106 ft107 ft108 ft109 WW) hZ (hw _ (List.mem_of_getElem? (i := 68) rfl)) (hw _ (List.mem_of_getElem? (i := 48) rfl)) (by decide) (by decide)) q101a q101c (g := (mkF m 250 #[iv p1, iv p2, iv p3, iv p4, rv kd, iv 1, iv yy3, iv yy4, iv 1, iv z9, iv z10, iv 0, rv b94, rv b95, iv z14, rv b97] [(.ref b95), (.ref b97)])) rfl (by rw [hml]; rfl) (Steps.refl _) (argsL := [(.ref b95)]) (rest := []) (lenOf pd__Ljava_lang_String__Z rfl) rfl (by show 2 * 0 + _ ≤ _; exact Nat.le_of_eq rfl) (hb hby at_250) (fun _ _ => ⟨rfl, rfl, (by decide : 7 + 0 ≤ _), (by decide : 15 + 0 ≤ _)⟩)
            dsimp only [Pt.U, Pt.locs, Pt.cells, Pt.slots] at X101 lq101 yq101 zz101 st101 hQ101
            subst lq101 yq101 zz101
            obtain ⟨rfl, Nq101, kq101⟩ := hQ101
            have N101 := Fr.app N100 Nq101
            refine Go.tr (f' := (mkF m 253 #[iv p1, iv p2, iv p3, iv p4, rv kd, iv 1, iv yy3, iv yy4, iv 1, iv z9, iv z10, iv 0, rv b94, rv b95, iv z14, rv b97] [(.int (syI_1_1 kd w_SYMBOL (nar .byte ((nar .char yy3).toInt8.toInt32)) (nar .byte ((nar .char z9).toInt8.toInt32))))])) st101 ?_
            refine Go.st (f' := (mkF m 255 #[iv p1, iv p2, iv p3, iv p4, rv kd, iv 1, iv yy3, iv yy4, iv 1, iv z9, iv z10, iv 0, rv b94, rv b95, iv z14, rv b97] [(.int z14), (.int (syI_1_1 kd w_SYMBOL (nar .byte ((nar .char yy3).toInt8.toInt32)) (nar .byte ((nar .char z9).toInt8.toInt32))))])) (fun _ k => XS.iload X101.here hx rfl (hb hby at_253) rfl k) ?_
            refine Go.st (f' := (mkF m 258 #[iv p1, iv p2, iv p3, iv p4, rv kd, iv 1, iv yy3, iv yy4, iv 1, iv z9, iv z10, iv 0, rv b94, rv b95, iv z14, rv b97] [])) (fun _ k => XS.icmpNo X101.here hx rfl (hb hby at_255) rfl (teq hz14.symm).2 k) ?_
            refine Go.st (f' := (mkF m 259 #[iv p1, iv p2, iv p3, iv p4, rv kd, iv 1, iv yy3, iv yy4, iv 1, iv z9, iv z10, iv 0, rv b94, rv b95, iv z14, rv b97] [(.int 1)])) (fun _ k => XS.iconst X101.here hx rfl (hb hby at_258) k) ?_
            refine Go.st (f' := (mkF m 263 #[iv p1, iv p2, iv p3, iv p4, rv kd, iv 1, iv yy3, iv yy4, iv 1, iv z9, iv z10, iv 0, rv b94, rv b95, iv z14, rv b97] [(.int 1)])) (fun _ k => XS.goto X101.here hx rfl (pc0 := 259) (pc' := 263) rfl (hb hby at_259) (by decide) (by decide) k) ?_
            refine GoW.retB X101 hlk hx (t := .boolean) hret (by simp) (hb hby at_263) kq101 hS (Nat.zero_le _) hZ hEL CR100 hh ?_ (by decide) (by decide)
            exact ⟨rfl, N101⟩
          by_cases cd110 : kd = w_SYMBOL
          · refine Go.st (f' := (mkF m 159 #[iv p1, iv p2, iv p3, iv p4, rv kd, iv 1, iv yy3, iv yy4, iv 1, iv z9, iv z10, iv 0, rv b94, rv b95, .unset, .unset] [])) (fun _ k => Jvm.RoadKit.acmp (g := (mkF m 156 #[iv p1, iv p2, iv p3, iv p4, rv kd, iv 1, iv yy3, iv yy4, iv 1, iv z9, iv z10, iv 0, rv b94, rv b95, .unset, .unset] [(.ref w_SYMBOL), (.ref kd)])) X96 hx rfl rfl rfl (pc0 := 156) (pc' := 159) (same := true) rfl (hb hby at_156) rfl (decide_eq_true (congrArg Value.ref cd110)) (by decide) (by decide) k) ?_
            refine Go.st (f' := (mkF m 161 #[iv p1, iv p2, iv p3, iv p4, rv kd, iv 1, iv yy3, iv yy4, iv 1, iv z9, iv z10, iv 0, rv b94, rv b95, .unset, .unset] [(.int 0)])) (fun _ k => XS.iload X96.here hx rfl (hb hby at_159) rfl k) ?_
            refine Go.st (f' := (mkF m 164 #[iv p1, iv p2, iv p3, iv p4, rv kd, iv 1, iv yy3, iv yy4, iv 1, iv z9, iv z10, iv 0, rv b94, rv b95, .unset, .unset] [])) (fun _ k => XS.ifNo X96.here hx rfl (hb hby at_161) rfl (by decide) k) ?_
            refine Go.st (f' := (mkF m 166 #[iv p1, iv p2, iv p3, iv p4, rv kd, iv 1, iv yy3, iv yy4, iv 1, iv z9, iv z10, iv 0, rv b94, rv b95, .unset, .unset] [(.int 1)])) (fun _ k => XS.iload X96.here hx rfl (hb hby at_164) rfl k) ?_
            refine Go.st (f' := (mkF m 168 #[iv p1, iv p2, iv p3, iv p4, rv kd, iv 1, iv yy3, iv yy4, iv 1, iv z9, iv z10, iv 0, rv b94, rv b95, .unset, .unset] [(.int 1), (.int 1)])) (fun _ k => XS.iload X96.here hx rfl (hb hby at_166) rfl k) ?_
            refine Go.st (f' := (mkF m 177 #[iv p1, iv p2, iv p3, iv p4, rv kd, iv 1, iv yy3, iv yy4, iv 1, iv z9, iv z10, iv 0, rv b94, rv b95, .unset, .unset] [])) (fun _ k => XS.icmpYes X96.here hx rfl (pc0 := 168) (pc' := 177) rfl (hb hby at_168) rfl (by decide) (by decide) (by decide) k) ?_
            refine Go.st (f' := (mkF m 179 #[iv p1, iv p2, iv p3, iv p4, rv kd, iv 1, iv yy3, iv yy4, iv 1, iv z9, iv z10, iv 0, rv b94, rv b95, .unset, .unset] [(.int 1)])) (fun _ k => XS.iload X96.here hx rfl (hb hby at_177) rfl k) ?_
            refine Go.st (f' := (mkF m 188 #[iv p1, iv p2, iv p3, iv p4, rv kd, iv 1, iv yy3, iv yy4, iv 1, iv z9, iv z10, iv 0, rv b94, rv b95, .unset, .unset] [])) (fun _ k => XS.ifYes X96.here hx rfl (pc0 := 179) (pc' := 188) rfl (hb hby at_179) rfl (by decide) (by decide) (by decide) k) ?_
            refine Go.st (f' := (mkF m 190 #[iv p1, iv p2, iv p3, iv p4, rv kd, iv 1, iv yy3, iv yy4, iv 1, iv z9, iv z10, iv 0, rv b94, rv b95, .unset, .unset] [(.int 1)])) (fun _ k => XS.iload X96.here hx rfl (hb hby at_188) rfl k) ?_
            refine Go.st (f' := (mkF m 191 #[iv p1, iv p2, iv p3, iv p4, rv kd, iv 1, iv yy3, iv yy4, iv 1, iv z9, iv z10, iv 0, rv b94, rv b95, .unset, .unset] [(.int 1), (.int 1)])) (fun _ k => XS.iconst X96.here hx rfl (hb hby at_190) k) ?_
            refine Go.st (f' := (mkF m 194 #[iv p1, iv p2, iv p3, iv p4, rv kd, iv 1, iv yy3, iv yy4, iv 1, iv z9, iv z10, iv 0, rv b94, rv b95, .unset, .unset] [])) (fun _ k => XS.icmpNo X96.here hx rfl (hb hby at_191) rfl (by decide) k) ?_
            refine Go.st (f' := (mkF m 196 #[iv p1, iv p2, iv p3, iv p4, rv kd, iv 1, iv yy3, iv yy4, iv 1, iv z9, iv z10, iv 0, rv b94, rv b95, .unset, .unset] [(.int yy3)])) (fun _ k => XS.iload X96.here hx rfl (hb hby at_194) rfl k) ?_
            refine Go.st (f' := (mkF m 198 #[iv p1, iv p2, iv p3, iv p4, rv kd, iv 1, iv yy3, iv yy4, iv 1, iv z9, iv z10, iv 0, rv b94, rv b95, .unset, .unset] [(.int z9), (.int yy3)])) (fun _ k => XS.iload X96.here hx rfl (hb hby at_196) rfl k) ?_
            by_cases cd111 : yy3 = z9
            · refine Go.st (f' := (mkF m 201 #[iv p1, iv p2, iv p3, iv p4, rv kd, iv 1, iv yy3, iv yy4, iv 1, iv z9, iv z10, iv 0, rv b94, rv b95, .unset, .unset] [])) (fun _ k => XS.icmpNo X96.here hx rfl (hb hby at_198) rfl (teq cd111).2 k) ?_
              refine Go.st (f' := (mkF m 202 #[iv p1, iv p2, iv p3, iv p4, rv kd, iv 1, iv yy3, iv yy4, iv 1, iv z9, iv z10, iv 0, rv b94, rv b95, .unset, .unset] [(.int 1)])) (fun _ k => XS.iconst X96.here hx rfl (hb hby at_201) k) ?_
              refine Go.st (f' := (mkF m 206 #[iv p1, iv p2, iv p3, iv p4, rv kd, iv 1, iv yy3, iv yy4, iv 1, iv z9, iv z10, iv 0, rv b94, rv b95, .unset, .unset] [(.int 1)])) (fun _ k => XS.goto X96.here hx rfl (pc0 := 202) (pc' := 206) rfl (hb hby at_202) (by decide) (by decide) k) ?_
              refine Go.st (f' := (mkF m 208 #[iv p1, iv p2, iv p3, iv p4, rv kd, iv 1, iv yy3, iv yy4, iv 1, iv z9, iv z10, iv 0, rv b94, rv b95, iv 1, .unset] [])) (fun _ k => XS.istore X96.here hx rfl (hb hby at_206) rfl (l' := #[iv p1, iv p2, iv p3, iv p4, rv kd, iv 1, iv yy3, iv yy4, iv 1, iv z9, iv z10, iv 0, rv b94, rv b95, iv 1, .unset]) rfl k) ?_
              refine Go.st (f' := (mkF m 232 #[iv p1, iv p2, iv p3, iv p4, rv kd, iv 1, iv yy3, iv yy4, iv 1, iv z9, iv z10, iv 0, rv b94, rv b95, iv 1, .unset] [])) (fun _ k => XS.goto X96.here hx rfl (pc0 := 208) (pc' := 232) rfl (hb hby at_208) (by decide) (by decide) k) ?_
              exact J2 (1 : Int32) (by rw [syI_1_1, if_pos cd110]; show _ = (if eqI_1_1 _ _ = 0 then _ else _); rw [eqI_1_1]; show _ = (if (if elI_1_1 _ _ = 0 then _ else _) = 0 then _ else _); rw [elI_1_1, if_pos ((own_lb ⟨(hyy3 ▸ own_b _).1, (hyy3 ▸ own_b _).2⟩ ⟨hz9.1, hz9.2⟩).mpr cd111)] <;> rfl)
            · refine Go.st (f' := (mkF m 205 #[iv p1, iv p2, iv p3, iv p4, rv kd, iv 1, iv yy3, iv yy4, iv 1, iv z9, iv z10, iv 0, rv b94, rv b95, .unset, .unset] [])) (fun _ k => XS.icmpYes X96.here hx rfl (pc0 := 198) (pc' := 205) rfl (hb hby at_198) rfl (feq cd111).2 (by decide) (by decide) k) ?_
              refine Go.st (f' := (mkF m 206 #[iv p1, iv p2, iv p3, iv p4, rv kd, iv 1, iv yy3, iv yy4, iv 1, iv z9, iv z10, iv 0, rv b94, rv b95, .unset, .unset] [(.int 0)])) (fun _ k => XS.iconst X96.here hx rfl (hb hby at_205) k) ?_
              refine Go.st (f' := (mkF m 208 #[iv p1, iv p2, iv p3, iv p4, rv kd, iv 1, iv yy3, iv yy4, iv 1, iv z9, iv z10, iv 0, rv b94, rv b95, iv 0, .unset] [])) (fun _ k => XS.istore X96.here hx rfl (hb hby at_206) rfl (l' := #[iv p1, iv p2, iv p3, iv p4, rv kd, iv 1, iv yy3, iv yy4, iv 1, iv z9, iv z10, iv 0, rv b94, rv b95, iv 0, .unset]) rfl k) ?_
              refine Go.st (f' := (mkF m 232 #[iv p1, iv p2, iv p3, iv p4, rv kd, iv 1, iv yy3, iv yy4, iv 1, iv z9, iv z10, iv 0, rv b94, rv b95, iv 0, .unset] [])) (fun _ k => XS.goto X96.here hx rfl (pc0 := 208) (pc' := 232) rfl (hb hby at_208) (by decide) (by decide) k) ?_
              exact J2 (0 : Int32) (by rw [syI_1_1, if_pos cd110]; show _ = (if eqI_1_1 _ _ = 0 then _ else _); rw [eqI_1_1]; show _ = (if (if elI_1_1 _ _ = 0 then _ else _) = 0 then _ else _); rw [elI_1_1, if_neg (fun z => cd111 ((own_lb ⟨(hyy3 ▸ own_b _).1, (hyy3 ▸ own_b _).2⟩ ⟨hz9.1, hz9.2⟩).mp z))] <;> rfl)
          · refine Go.st (f' := (mkF m 171 #[iv p1, iv p2, iv p3, iv p4, rv kd, iv 1, iv yy3, iv yy4, iv 1, iv z9, iv z10, iv 0, rv b94, rv b95, .unset, .unset] [])) (fun _ k => Jvm.RoadKit.acmp (g := (mkF m 156 #[iv p1, iv p2, iv p3, iv p4, rv kd, iv 1, iv yy3, iv yy4, iv 1, iv z9, iv z10, iv 0, rv b94, rv b95, .unset, .unset] [(.ref w_SYMBOL), (.ref kd)])) X96 hx rfl rfl rfl (pc0 := 156) (pc' := 171) (same := false) rfl (hb hby at_156) rfl (decide_eq_false fun q => cd110 (Value.ref.inj q)) (by decide) (by decide) k) ?_
            refine Go.st (f' := (mkF m 172 #[iv p1, iv p2, iv p3, iv p4, rv kd, iv 1, iv yy3, iv yy4, iv 1, iv z9, iv z10, iv 0, rv b94, rv b95, .unset, .unset] [(.int 0)])) (fun _ k => XS.iconst X96.here hx rfl (hb hby at_171) k) ?_
            refine Go.st (f' := (mkF m 174 #[iv p1, iv p2, iv p3, iv p4, rv kd, iv 1, iv yy3, iv yy4, iv 1, iv z9, iv z10, iv 0, rv b94, rv b95, iv 0, .unset] [])) (fun _ k => XS.istore X96.here hx rfl (hb hby at_172) rfl (l' := #[iv p1, iv p2, iv p3, iv p4, rv kd, iv 1, iv yy3, iv yy4, iv 1, iv z9, iv z10, iv 0, rv b94, rv b95, iv 0, .unset]) rfl k) ?_
            refine Go.st (f' := (mkF m 232 #[iv p1, iv p2, iv p3, iv p4, rv kd, iv 1, iv yy3, iv yy4, iv 1, iv z9, iv z10, iv 0, rv b94, rv b95, iv 0, .unset] [])) (fun _ k => XS.goto X96.here hx rfl (pc0 := 174) (pc' := 232) rfl (hb hby at_174) (by decide) (by decide) k) ?_
            exact J2 (0 : Int32) (by rw [syI_1_1, if_neg cd110])
        · refine Go.st (f' := (mkF m 122 #[iv p1, iv p2, iv p3, iv p4, rv kd, iv 1, iv yy3, iv yy4, iv 2, iv z9, iv z10, iv 0, .unset, .unset, .unset, .unset] [(.int 1)])) (fun _ k => XS.iload X1.here hx rfl (hb hby at_120) rfl k) ?_
          refine Go.st (f' := (mkF m 124 #[iv p1, iv p2, iv p3, iv p4, rv kd, iv 1, iv yy3, iv yy4, iv 2, iv z9, iv z10, iv 0, .unset, .unset, .unset, .unset] [(.int yy3), (.int 1)])) (fun _ k => XS.iload X1.here hx rfl (hb hby at_122) rfl k) ?_
          refine Go.st (f' := (mkF m 126 #[iv p1, iv p2, iv p3, iv p4, rv kd, iv 1, iv yy3, iv yy4, iv 2, iv z9, iv z10, iv 0, .unset, .unset, .unset, .unset] [(.int yy4), (.int yy3), (.int 1)])) (fun _ k => XS.iload X1.here hx rfl (hb hby at_124) rfl k) ?_
          obtain ⟨_, _, ⟨T112, L112, kk112, nn112⟩, -, X112, ⟨Lc112, hQ112, lq112, yq112, zz112⟩, st112⟩ := Jvm.LawKit.callS X1 hx (y := (⟨"com/example/naysay/naysay/rules/TokenIsSymbolPinLaw", "mk", "(ICC)Ljava/lang/String;"⟩ : MethodName)) hown (mvT hZ (hw _ (List.mem_of_getElem? (i := 8) rfl))) (mvT hZ (hw _ (List.mem_of_getElem? (i := 9) rfl))) (mvT hZ (hw _ (List.mem_of_getElem? (i := 2) rfl))) (mvT hZ (hw _ (List.mem_of_getElem? (i := 10) rfl))) (by decide) (own_back (W := 0) (rmM_1 l Z a0 hw [] yy3 yy4 w_NUMBER w_SYMBOL w_NAME w_END w_STRING i_COMPACT_STRINGS v_SIOOBE_FORMATTER h0 n0 O0 (hyy3 ▸ own_b _).1 (hyy4 ▸ own_b _).1 (hyy3 ▸ own_b _).2 (hyy4 ▸ own_b _).2 WW) hZ (hw _ (List.mem_of_getElem? (i := 10) rfl)) (hw _ (List.mem_of_getElem? (i := 2) rfl)) (by decide) (by decide)) (g := (mkF m 126 #[iv p1, iv p2, iv p3, iv p4, rv kd, iv 1, iv yy3, iv yy4, iv 2, iv z9, iv z10, iv 0, .unset, .unset, .unset, .unset] [(.int yy4), (.int yy3), (.int 1)])) rfl (by rw [hml]; rfl) (argsL := [(.int (1 : Int32)), (.int yy3), (.int yy4)]) (rest := []) (lenOf pd__ICC_Ljava_lang_String_ rfl) rfl (by show 2 * 0 + _ ≤ _; exact Nat.le_of_eq rfl) (hb hby at_126) (fun _ _ => ⟨rfl, kq1, (by decide : 0 + 3 ≤ _), (by decide : 0 + 6 ≤ _)⟩)
          dsimp only [Pt.U, Pt.locs, Pt.cells, Pt.slots] at X112 lq112 yq112 zz112 st112 hQ112
          subst lq112 yq112 zz112
          obtain ⟨b112, rfl, Nq112, zb112, kq112, eq112, cq112, tt112, kt112, zq112, fq112, vq112⟩ := hQ112
          have N112 := Fr.app N1 Nq112
          have ne_w_NUMBER_b112 : w_NUMBER ≠ b112 := Nat.ne_of_lt (Nat.lt_of_lt_of_le lt_w_NUMBER (Nat.le_trans O0.2.1 zb112))
          have ne_w_SYMBOL_b112 : w_SYMBOL ≠ b112 := Nat.ne_of_lt (Nat.lt_of_lt_of_le lt_w_SYMBOL (Nat.le_trans O0.2.1 zb112))
          have ne_w_NAME_b112 : w_NAME ≠ b112 := Nat.ne_of_lt (Nat.lt_of_lt_of_le lt_w_NAME (Nat.le_trans O0.2.1 zb112))
          have ne_w_END_b112 : w_END ≠ b112 := Nat.ne_of_lt (Nat.lt_of_lt_of_le lt_w_END (Nat.le_trans O0.2.1 zb112))
          have ne_w_STRING_b112 : w_STRING ≠ b112 := Nat.ne_of_lt (Nat.lt_of_lt_of_le lt_w_STRING (Nat.le_trans O0.2.1 zb112))
          have g_b112 : n0 ≤ b112 := Nat.le_trans (O0.1 ▸ O0.2.1) zb112
          have sn_b112 : Safe Z EL s.vm h0 b112 := Safe.new zb112
          have ne_w_NUMBER_tt112 : w_NUMBER ≠ tt112 := Nat.ne_of_lt (Nat.lt_of_lt_of_le lt_w_NUMBER (Nat.le_trans O0.2.1 zq112))
          have ne_w_SYMBOL_tt112 : w_SYMBOL ≠ tt112 := Nat.ne_of_lt (Nat.lt_of_lt_of_le lt_w_SYMBOL (Nat.le_trans O0.2.1 zq112))
          have ne_w_NAME_tt112 : w_NAME ≠ tt112 := Nat.ne_of_lt (Nat.lt_of_lt_of_le lt_w_NAME (Nat.le_trans O0.2.1 zq112))
          have ne_w_END_tt112 : w_END ≠ tt112 := Nat.ne_of_lt (Nat.lt_of_lt_of_le lt_w_END (Nat.le_trans O0.2.1 zq112))
          have ne_w_STRING_tt112 : w_STRING ≠ tt112 := Nat.ne_of_lt (Nat.lt_of_lt_of_le lt_w_STRING (Nat.le_trans O0.2.1 zq112))
          have g_tt112 : n0 ≤ tt112 := Nat.le_trans (O0.1 ▸ O0.2.1) zq112
          have sn_tt112 : Safe Z EL s.vm h0 tt112 := Safe.new zq112
          have O112 : Old Z n0 T112.heap := O0.keep kq112 all0
          have CR112 : CHr Z EL s.vm h0 s.vm T112.heap := CR0.trans (CHr.keep kq112 sf0 CR0.1)
          have lt_b112 := eq112.lt
          have lt_tt112 := vq112.lt
          refine Go.st (f' := (mkF m 129 #[iv p1, iv p2, iv p3, iv p4, rv kd, iv 1, iv yy3, iv yy4, iv 2, iv z9, iv z10, iv 0, .unset, .unset, .unset, .unset] [(.ref b112)])) (fun _ k => st112 _ k) ?_
          refine Go.st (f' := (mkF m 131 #[iv p1, iv p2, iv p3, iv p4, rv kd, iv 1, iv yy3, iv yy4, iv 2, iv z9, iv z10, iv 0, rv b112, .unset, .unset, .unset] [])) (fun _ k => XS.astore X112.here hx rfl (hb hby at_129) rfl rfl (l' := #[iv p1, iv p2, iv p3, iv p4, rv kd, iv 1, iv yy3, iv yy4, iv 2, iv z9, iv z10, iv 0, rv b112, .unset, .unset, .unset]) rfl k) ?_
          refine Go.st (f' := (mkF m 133 #[iv p1, iv p2, iv p3, iv p4, rv kd, iv 1, iv yy3, iv yy4, iv 2, iv z9, iv z10, iv 0, rv b112, .unset, .unset, .unset] [(.int 0)])) (fun _ k => XS.iload X112.here hx rfl (hb hby at_131) rfl k) ?_
          refine Go.st (f' := (mkF m 140 #[iv p1, iv p2, iv p3, iv p4, rv kd, iv 1, iv yy3, iv yy4, iv 2, iv z9, iv z10, iv 0, rv b112, .unset, .unset, .unset] [])) (fun _ k => XS.ifYes X112.here hx rfl (pc0 := 133) (pc' := 140) rfl (hb hby at_133) rfl (by decide) (by decide) (by decide) k) ?_
          refine Go.st (f' := (mkF m 142 #[iv p1, iv p2, iv p3, iv p4, rv kd, iv 1, iv yy3, iv yy4, iv 2, iv z9, iv z10, iv 0, rv b112, .unset, .unset, .unset] [(.int 2)])) (fun _ k => XS.iload X112.here hx rfl (hb hby at_140) rfl k) ?_
          refine Go.st (f' := (mkF m 144 #[iv p1, iv p2, iv p3, iv p4, rv kd, iv 1, iv yy3, iv yy4, iv 2, iv z9, iv z10, iv 0, rv b112, .unset, .unset, .unset] [(.int z9), (.int 2)])) (fun _ k => XS.iload X112.here hx rfl (hb hby at_142) rfl k) ?_
          refine Go.st (f' := (mkF m 146 #[iv p1, iv p2, iv p3, iv p4, rv kd, iv 1, iv yy3, iv yy4, iv 2, iv z9, iv z10, iv 0, rv b112, .unset, .unset, .unset] [(.int z10), (.int z9), (.int 2)])) (fun _ k => XS.iload X112.here hx rfl (hb hby at_144) rfl k) ?_
          obtain ⟨_, _, ⟨T113, L113, kk113, nn113⟩, -, X113, ⟨Lc113, hQ113, lq113, yq113, zz113⟩, st113⟩ := Jvm.LawKit.callS X112 hx (y := (⟨"com/example/naysay/naysay/rules/TokenIsSymbolPinLaw", "mk", "(ICC)Ljava/lang/String;"⟩ : MethodName)) hown (mvT hZ (hw _ (List.mem_of_getElem? (i := 8) rfl))) (mvT hZ (hw _ (List.mem_of_getElem? (i := 9) rfl))) (mvT hZ (hw _ (List.mem_of_getElem? (i := 2) rfl))) (mvT hZ (hw _ (List.mem_of_getElem? (i := 10) rfl))) (by decide) (own_back (W := 0) (rmM_2 l Z a0 hw [] z9 z10 w_NUMBER w_SYMBOL w_NAME w_END w_STRING i_COMPACT_STRINGS v_SIOOBE_FORMATTER T112.heap n0 O112 hz9.1 hz10.1 hz9.2 hz10.2 WW) hZ (hw _ (List.mem_of_getElem? (i := 10) rfl)) (hw _ (List.mem_of_getElem? (i := 2) rfl)) (by decide) (by decide)) (g := (mkF m 146 #[iv p1, iv p2, iv p3, iv p4, rv kd, iv 1, iv yy3, iv yy4, iv 2, iv z9, iv z10, iv 0, rv b112, .unset, .unset, .unset] [(.int z10), (.int z9), (.int 2)])) rfl (by rw [hml]; rfl) (argsL := [(.int (2 : Int32)), (.int z9), (.int z10)]) (rest := []) (lenOf pd__ICC_Ljava_lang_String_ rfl) rfl (by show 2 * 0 + _ ≤ _; exact Nat.le_of_eq rfl) (hb hby at_146) (fun _ _ => ⟨rfl, rfl, (by decide : 3 + 3 ≤ _), (by decide : 6 + 8 ≤ _)⟩)
          dsimp only [Pt.U, Pt.locs, Pt.cells, Pt.slots] at X113 lq113 yq113 zz113 st113 hQ113
          subst lq113 yq113 zz113
          obtain ⟨b113, rfl, Nq113, zb113, kq113, eq113, cq113, tt113, kt113, zq113, fq113, vq113⟩ := hQ113
          have N113 := Fr.app N112 Nq113
          have ne_b112_b113 : b112 ≠ b113 := Nat.ne_of_lt (Nat.lt_of_lt_of_le lt_b112 zb113)
          have ne_tt112_b113 : tt112 ≠ b113 := Nat.ne_of_lt (Nat.lt_of_lt_of_le lt_tt112 zb113)
          have ne_w_NUMBER_b113 : w_NUMBER ≠ b113 := Nat.ne_of_lt (Nat.lt_of_lt_of_le lt_w_NUMBER (Nat.le_trans O112.2.1 zb113))
          have ne_w_SYMBOL_b113 : w_SYMBOL ≠ b113 := Nat.ne_of_lt (Nat.lt_of_lt_of_le lt_w_SYMBOL (Nat.le_trans O112.2.1 zb113))
          have ne_w_NAME_b113 : w_NAME ≠ b113 := Nat.ne_of_lt (Nat.lt_of_lt_of_le lt_w_NAME (Nat.le_trans O112.2.1 zb113))
          have ne_w_END_b113 : w_END ≠ b113 := Nat.ne_of_lt (Nat.lt_of_lt_of_le lt_w_END (Nat.le_trans O112.2.1 zb113))
          have ne_w_STRING_b113 : w_STRING ≠ b113 := Nat.ne_of_lt (Nat.lt_of_lt_of_le lt_w_STRING (Nat.le_trans O112.2.1 zb113))
          have g_b113 : n0 ≤ b113 := Nat.le_trans (O112.1 ▸ O112.2.1) zb113
          have sn_b113 : Safe Z EL s.vm T112.heap b113 := Safe.new zb113
          have ne_b112_tt113 : b112 ≠ tt113 := Nat.ne_of_lt (Nat.lt_of_lt_of_le lt_b112 zq113)
          have ne_tt112_tt113 : tt112 ≠ tt113 := Nat.ne_of_lt (Nat.lt_of_lt_of_le lt_tt112 zq113)
          have ne_w_NUMBER_tt113 : w_NUMBER ≠ tt113 := Nat.ne_of_lt (Nat.lt_of_lt_of_le lt_w_NUMBER (Nat.le_trans O112.2.1 zq113))
          have ne_w_SYMBOL_tt113 : w_SYMBOL ≠ tt113 := Nat.ne_of_lt (Nat.lt_of_lt_of_le lt_w_SYMBOL (Nat.le_trans O112.2.1 zq113))
          have ne_w_NAME_tt113 : w_NAME ≠ tt113 := Nat.ne_of_lt (Nat.lt_of_lt_of_le lt_w_NAME (Nat.le_trans O112.2.1 zq113))
          have ne_w_END_tt113 : w_END ≠ tt113 := Nat.ne_of_lt (Nat.lt_of_lt_of_le lt_w_END (Nat.le_trans O112.2.1 zq113))
          have ne_w_STRING_tt113 : w_STRING ≠ tt113 := Nat.ne_of_lt (Nat.lt_of_lt_of_le lt_w_STRING (Nat.le_trans O112.2.1 zq113))
          have g_tt113 : n0 ≤ tt113 := Nat.le_trans (O112.1 ▸ O112.2.1) zq113
          have sn_tt113 : Safe Z EL s.vm T112.heap tt113 := Safe.new zq113
          have O113 : Old Z n0 T113.heap := O112.keep kq113 all0
          have CR113 : CHr Z EL s.vm h0 s.vm T113.heap := CR112.trans (CHr.keep kq113 sf0 CR112.1)
          have lt_b113 := eq113.lt
          have lt_tt113 := vq113.lt
          refine Go.st (f' := (mkF m 149 #[iv p1, iv p2, iv p3, iv p4, rv kd, iv 1, iv yy3, iv yy4, iv 2, iv z9, iv z10, iv 0, rv b112, .unset, .unset, .unset] [(.ref b113)])) (fun _ k => st113 _ k) ?_
          refine Go.st (f' := (mkF m 151 #[iv p1, iv p2, iv p3, iv p4, rv kd, iv 1, iv yy3, iv yy4, iv 2, iv z9, iv z10, iv 0, rv b112, rv b113, .unset, .unset] [])) (fun _ k => XS.astore X113.here hx rfl (hb hby at_149) rfl rfl (l' := #[iv p1, iv p2, iv p3, iv p4, rv kd, iv 1, iv yy3, iv yy4, iv 2, iv z9, iv z10, iv 0, rv b112, rv b113, .unset, .unset]) rfl k) ?_
          refine Go.st (f' := (mkF m 153 #[iv p1, iv p2, iv p3, iv p4, rv kd, iv 1, iv yy3, iv yy4, iv 2, iv z9, iv z10, iv 0, rv b112, rv b113, .unset, .unset] [(.ref kd)])) (fun _ k => XS.aload X113.here hx rfl (hb hby at_151) rfl rfl k) ?_
          obtain ⟨T114, X114, e114, st114⟩ := getS2 X113 hx hZ hown (host := "") (Or.inl (hw _ (List.mem_of_getElem? (i := 44) rfl))) Via.refl rfl (S_w_SYMBOL.ext O113.2) (g := (mkF m 153 #[iv p1, iv p2, iv p3, iv p4, rv kd, iv 1, iv yy3, iv yy4, iv 2, iv z9, iv z10, iv 0, rv b112, rv b113, .unset, .unset] [(.ref kd)])) rfl (hb hby at_153)
          refine Go.st (f' := (mkF m 156 #[iv p1, iv p2, iv p3, iv p4, rv kd, iv 1, iv yy3, iv yy4, iv 2, iv z9, iv z10, iv 0, rv b112, rv b113, .unset, .unset] [(.ref w_SYMBOL), (.ref kd)])) (fun _ k => st114 _ k) ?_
          have J2 : ∀ (z14 : Int32), (z14 = (syI_1_2 kd w_SYMBOL (nar .byte ((nar .char yy3).toInt8.toInt32)) (nar .byte ((nar .char z9).toInt8.toInt32)) (nar .byte ((nar .char z10).toInt8.toInt32)))) → Go p e below (DoneW s Z EL (QL n0) room_1.cells room_1.slots) T114 (mkF m 232 #[iv p1, iv p2, iv p3, iv p4, rv kd, iv 1, iv yy3, iv yy4, iv 2, iv z9, iv z10, iv 0, rv b112, rv b113, iv z14, .unset] []) := by
            intro z14 hz14
            obtain ⟨T115, h115, X115, e115, E115, A115, D115, -, st115⟩ := newO X114 hx hZ hown (hw _ (List.mem_of_getElem? (i := 46) rfl)) (hw _ (List.mem_of_getElem? (i := 47) rfl)) (hw _ (List.mem_of_getElem? (i := 48) rfl)) e114 (g := (mkF m 232 #[iv p1, iv p2, iv p3, iv p4, rv kd, iv 1, iv yy3, iv yy4, iv 2, iv z9, iv z10, iv 0, rv b112, rv b113, iv z14, .unset] [])) rfl (hb hby at_232) (by decide) (by decide)
            obtain ⟨b115, g115⟩ : ∃ z, z = T113.heap.size := ⟨_, rfl⟩
            rw [← g115] at A115 D115 st115
            have ft116 := (Nat.lt_of_lt_of_le lt_b112 kq113.1)
            have ne_b112_b115 : b112 ≠ b115 := Nat.ne_of_lt (Nat.lt_of_lt_of_eq ft116 g115.symm)
            have ft117 := (Nat.lt_of_lt_of_le lt_tt112 kq113.1)
            have ne_tt112_b115 : tt112 ≠ b115 := Nat.ne_of_lt (Nat.lt_of_lt_of_eq ft117 g115.symm)
            have ne_b113_b115 : b113 ≠ b115 := Nat.ne_of_lt (Nat.lt_of_lt_of_eq lt_b113 g115.symm)
            have ne_tt113_b115 : tt113 ≠ b115 := Nat.ne_of_lt (Nat.lt_of_lt_of_eq lt_tt113 g115.symm)
            have ne_w_NUMBER_b115 : w_NUMBER ≠ b115 := Nat.ne_of_lt (Nat.lt_of_lt_of_le lt_w_NUMBER (Nat.le_trans O113.2.1 (Nat.le_of_eq g115.symm)))
            have ne_w_SYMBOL_b115 : w_SYMBOL ≠ b115 := Nat.ne_of_lt (Nat.lt_of_lt_of_le lt_w_SYMBOL (Nat.le_trans O113.2.1 (Nat.le_of_eq g115.symm)))
            have ne_w_NAME_b115 : w_NAME ≠ b115 := Nat.ne_of_lt (Nat.lt_of_lt_of_le lt_w_NAME (Nat.le_trans O113.2.1 (Nat.le_of_eq g115.symm)))
            have ne_w_END_b115 : w_END ≠ b115 := Nat.ne_of_lt (Nat.lt_of_lt_of_le lt_w_END (Nat.le_trans O113.2.1 (Nat.le_of_eq g115.symm)))
            have ne_w_STRING_b115 : w_STRING ≠ b115 := Nat.ne_of_lt (Nat.lt_of_lt_of_le lt_w_STRING (Nat.le_trans O113.2.1 (Nat.le_of_eq g115.symm)))
            have g_b115 : n0 ≤ b115 := Nat.le_trans (O113.1 ▸ O113.2.1) (Nat.le_of_eq g115.symm)
            have O115 : Old Z n0 h115 := O113.ext E115
            have CR115 : CHr Z EL s.vm h0 s.vm h115 := CR113.trans (CHr.ext E115 CR113.1)
            have sf_b115 : Safe Z EL s.vm h115 b115 := (Safe.new (Nat.le_of_eq g115.symm)).ext E115 CR113.1
            have lt_b115 := A115.lt
            have F_kind_b115 : Fld Z h115 b115 "com/example/naysay/naysay/rules/Token" "kind" "Lcom/example/naysay/naysay/rules/Token$Kind;" .null := D115 (Or.inr (hw _ (List.mem_of_getElem? (i := 59) rfl))) (ty := (.object "com/example/naysay/naysay/rules/Token$Kind")) (by decide)
            have F_text_b115 : Fld Z h115 b115 "com/example/naysay/naysay/rules/Token" "text" "Ljava/lang/String;" .null := D115 (Or.inr (hw _ (List.mem_of_getElem? (i := 61) rfl))) (ty := (.object "java/lang/String")) (by decide)
            have F_column_b115 : Fld Z h115 b115 "com/example/naysay/naysay/rules/Token" "column" "I" (.int (0 : Int32)) := D115 (Or.inr (hw _ (List.mem_of_getElem? (i := 63) rfl))) (ty := .int) (by decide)
            refine Go.st (f' := (mkF m 235 #[iv p1, iv p2, iv p3, iv p4, rv kd, iv 1, iv yy3, iv yy4, iv 2, iv z9, iv z10, iv 0, rv b112, rv b113, iv z14, .unset] [(.ref b115)])) (fun _ k => st115 _ k) ?_
            refine Go.st (f' := (mkF m 236 #[iv p1, iv p2, iv p3, iv p4, rv kd, iv 1, iv yy3, iv yy4, iv 2, iv z9, iv z10, iv 0, rv b112, rv b113, iv z14, .unset] [(.ref b115), (.ref b115)])) (fun _ k => XS.dup X115.here hx rfl (hb hby at_235) rfl rfl k) ?_
            refine Go.st (f' := (mkF m 238 #[iv p1, iv p2, iv p3, iv p4, rv kd, iv 1, iv yy3, iv yy4, iv 2, iv z9, iv z10, iv 0, rv b112, rv b113, iv z14, .unset] [(.ref kd), (.ref b115), (.ref b115)])) (fun _ k => XS.aload X115.here hx rfl (hb hby at_236) rfl rfl k) ?_
            refine Go.st (f' := (mkF m 240 #[iv p1, iv p2, iv p3, iv p4, rv kd, iv 1, iv yy3, iv yy4, iv 2, iv z9, iv z10, iv 0, rv b112, rv b113, iv z14, .unset] [(.ref b112), (.ref kd), (.ref b115), (.ref b115)])) (fun _ k => XS.aload X115.here hx rfl (hb hby at_238) rfl rfl k) ?_
            refine Go.st (f' := (mkF m 241 #[iv p1, iv p2, iv p3, iv p4, rv kd, iv 1, iv yy3, iv yy4, iv 2, iv z9, iv z10, iv 0, rv b112, rv b113, iv z14, .unset] [(.int p4), (.ref b112), (.ref kd), (.ref b115), (.ref b115)])) (fun _ k => XS.iloadN X115.here hx rfl (hb hby at_240) rfl k) ?_
            obtain ⟨_, _, ⟨T118, L118, kk118, nn118⟩, -, X118, ⟨Lc118, hQ118, lq118, yq118, zz118⟩, st118⟩ := X115.specialBack hx (y := (⟨"com/example/naysay/naysay/rules/Token", "<init>", "(Lcom/example/naysay/naysay/rules/Token$Kind;Ljava/lang/String;I)V"⟩ : MethodName)) rfl hown (mvT hZ (hw _ (List.mem_of_getElem? (i := 49) rfl))) (mvT hZ (hw _ (List.mem_of_getElem? (i := 50) rfl))) (mvT hZ (hw _ (List.mem_of_getElem? (i := 51) rfl))) (by decide) (own_back (W := 1) (rmT l Z a0 hw [] b115 kd b112 p4 h115 n0 O115 g_b115 A115 F_kind_b115 F_text_b115 F_column_b115 ) hZ (hw _ (List.mem_of_getElem? (i := 51) rfl)) (hw _ (List.mem_of_getElem? (i := 48) rfl)) (by decide) (by decide)) (g := (mkF m 241 #[iv p1, iv p2, iv p3, iv p4, rv kd, iv 1, iv yy3, iv yy4, iv 2, iv z9, iv z10, iv 0, rv b112, rv b113, iv z14, .unset] [(.int p4), (.ref b112), (.ref kd), (.ref b115), (.ref b115)])) rfl (by rw [hml]; rfl) (Steps.refl _) (a := b115) (argsL := [(.ref kd), (.ref b112), (.int p4)]) (rest := [(.ref b115)]) (lenOf pd__Lcom_example_naysay_naysay_rules_Token_Kind_Ljava_lang_String_I_V rfl) rfl (by show 2 * 0 + _ ≤ _; exact Nat.le_of_eq rfl) (hb hby at_241) (fun _ _ => ⟨rfl, e115, (by decide : 7 + 0 ≤ _), (by decide : 17 + 0 ≤ _)⟩)
            dsimp only [Pt.U, Pt.locs, Pt.cells, Pt.slots] at X118 lq118 yq118 zz118 st118 hQ118
            subst lq118 yq118 zz118
            obtain ⟨rfl, Nq118, kq118, eq118, fq118_0, fq118_1, fq118_2⟩ := hQ118
            have N118 := Fr.app N113 Nq118
            have O118 : Old Z n0 T118.heap := O115.keep kq118 (allS g_b115 all0)
            have CR118 : CHr Z EL s.vm h0 s.vm T118.heap := CR115.trans (CHr.keep kq118 (sfS sf_b115 sf0) CR115.1)
            refine Go.tr (f' := (mkF m 244 #[iv p1, iv p2, iv p3, iv p4, rv kd, iv 1, iv yy3, iv yy4, iv 2, iv z9, iv z10, iv 0, rv b112, rv b113, iv z14, .unset] [(.ref b115)])) st118 ?_
            refine Go.st (f' := (mkF m 246 #[iv p1, iv p2, iv p3, iv p4, rv kd, iv 1, iv yy3, iv yy4, iv 2, iv z9, iv z10, iv 0, rv b112, rv b113, iv z14, rv b115] [])) (fun _ k => XS.astore X118.here hx rfl (hb hby at_244) rfl rfl (l' := #[iv p1, iv p2, iv p3, iv p4, rv kd, iv 1, iv yy3, iv yy4, iv 2, iv z9, iv z10, iv 0, rv b112, rv b113, iv z14, rv b115]) rfl k) ?_
            refine Go.st (f' := (mkF m 248 #[iv p1, iv p2, iv p3, iv p4, rv kd, iv 1, iv yy3, iv yy4, iv 2, iv z9, iv z10, iv 0, rv b112, rv b113, iv z14, rv b115] [(.ref b115)])) (fun _ k => XS.aload X118.here hx rfl (hb hby at_246) rfl rfl k) ?_
            refine Go.st (f' := (mkF m 250 #[iv p1, iv p2, iv p3, iv p4, rv kd, iv 1, iv yy3, iv yy4, iv 2, iv z9, iv z10, iv 0, rv b112, rv b113, iv z14, rv b115] [(.ref b113), (.ref b115)])) (fun _ k => XS.aload X118.here hx rfl (hb hby at_248) rfl rfl k) ?_
            have ft120 := (((eq112.keep kq113).ext E115).keep kq118)
            have ft121 := (((cq112.keep kq113 nin0).ext E115).keep kq118 (ninS ne_b112_b115 nin0))
            have ft122 := (((fq112.keep kq113 nin0).ext E115).keep kq118 (ninS ne_b112_b115 nin0))
            have ft123 := (((vq112.keep kq113 nin0).ext E115).keep kq118 (ninS ne_tt112_b115 nin0))
            have ft124 := ((eq113.ext E115).keep kq118)
            have ft125 := ((cq113.ext E115).keep kq118 (ninS ne_b113_b115 nin0))
            have ft126 := ((fq113.ext E115).keep kq118 (ninS ne_b113_b115 nin0))
            have ft127 := ((vq113.ext E115).keep kq118 (ninS ne_tt113_b115 nin0))
            obtain ⟨cq119, kq119, q119a, q119b, q119c⟩ := isOf hZ rfl eq118
            obtain ⟨_, _, ⟨T119, L119, kk119, nn119⟩, -, X119, ⟨Lc119, hQ119, lq119, yq119, zz119⟩, st119⟩ := X118.virtualBack hx (y := (⟨"com/example/naysay/naysay/rules/Token", "isSymbol", "(Ljava/lang/String;)Z"⟩ : MethodName)) (z := (⟨"com/example/naysay/naysay/rules/Token", "isSymbol", "(Ljava/lang/String;)Z"⟩ : MethodName)) hown (mvT hZ (hw _ (List.mem_of_getElem? (i := 64) rfl))) (mvT hZ (hw _ (List.mem_of_getElem? (i := 65) rfl))) (notFace_of_selects (args := #[]) (mvT hZ (hw _ (List.mem_of_getElem? (i := 67) rfl)))) (mvT hZ (hw _ (List.mem_of_getElem? (i := 67) rfl))) (mvT hZ (hw _ (List.mem_of_getElem? (i := 66) rfl))) (by decide) (own_back (W := 0) (rmS_1_2 l Z a0 hw [] b115 kd b112 tt112 kt112 b113 tt113 kt113 (nar .byte ((nar .char yy3).toInt8.toInt32)) (nar .byte ((nar .char z9).toInt8.toInt32)) (nar .byte ((nar .char z10).toInt8.toInt32)) w_NUMBER w_SYMBOL w_NAME w_END w_STRING i_COMPACT_STRINGS v_SIOOBE_FORMATTER T118.heap n0 O118 eq118 fq118_0 fq118_1 ft120 ft121 ft122 ft123 ne_b112_b113 ft124 ft125 ft126 ft127 WW) hZ (hw _ (List.mem_of_getElem? (i := 68) rfl)) (hw _ (List.mem_of_getElem? (i := 48) rfl)) (by decide) (by decide)) q119a q119c (g := (mkF m 250 #[iv p1, iv p2, iv p3, iv p4, rv kd, iv 1, iv yy3, iv yy4, iv 2, iv z9, iv z10, iv 0, rv b112, rv b113, iv z14, rv b115] [(.ref b113), (.ref b115)])) rfl (by rw [hml]; rfl) (Steps.refl _) (argsL := [(.ref b113)]) (rest := []) (lenOf pd__Ljava_lang_String__Z rfl) rfl (by show 2 * 0 + _ ≤ _; exact Nat.le_of_eq rfl) (hb hby at_250) (fun _ _ => ⟨rfl, rfl, (by decide : 7 + 0 ≤ _), (by decide : 17 + 0 ≤ _)⟩)
            dsimp only [Pt.U, Pt.locs, Pt.cells, Pt.slots] at X119 lq119 yq119 zz119 st119 hQ119
            subst lq119 yq119 zz119
            obtain ⟨rfl, Nq119, kq119⟩ := hQ119
            have N119 := Fr.app N118 Nq119
            refine Go.tr (f' := (mkF m 253 #[iv p1, iv p2, iv p3, iv p4, rv kd, iv 1, iv yy3, iv yy4, iv 2, iv z9, iv z10, iv 0, rv b112, rv b113, iv z14, rv b115] [(.int (syI_1_2 kd w_SYMBOL (nar .byte ((nar .char yy3).toInt8.toInt32)) (nar .byte ((nar .char z9).toInt8.toInt32)) (nar .byte ((nar .char z10).toInt8.toInt32))))])) st119 ?_
            refine Go.st (f' := (mkF m 255 #[iv p1, iv p2, iv p3, iv p4, rv kd, iv 1, iv yy3, iv yy4, iv 2, iv z9, iv z10, iv 0, rv b112, rv b113, iv z14, rv b115] [(.int z14), (.int (syI_1_2 kd w_SYMBOL (nar .byte ((nar .char yy3).toInt8.toInt32)) (nar .byte ((nar .char z9).toInt8.toInt32)) (nar .byte ((nar .char z10).toInt8.toInt32))))])) (fun _ k => XS.iload X119.here hx rfl (hb hby at_253) rfl k) ?_
            refine Go.st (f' := (mkF m 258 #[iv p1, iv p2, iv p3, iv p4, rv kd, iv 1, iv yy3, iv yy4, iv 2, iv z9, iv z10, iv 0, rv b112, rv b113, iv z14, rv b115] [])) (fun _ k => XS.icmpNo X119.here hx rfl (hb hby at_255) rfl (teq hz14.symm).2 k) ?_
            refine Go.st (f' := (mkF m 259 #[iv p1, iv p2, iv p3, iv p4, rv kd, iv 1, iv yy3, iv yy4, iv 2, iv z9, iv z10, iv 0, rv b112, rv b113, iv z14, rv b115] [(.int 1)])) (fun _ k => XS.iconst X119.here hx rfl (hb hby at_258) k) ?_
            refine Go.st (f' := (mkF m 263 #[iv p1, iv p2, iv p3, iv p4, rv kd, iv 1, iv yy3, iv yy4, iv 2, iv z9, iv z10, iv 0, rv b112, rv b113, iv z14, rv b115] [(.int 1)])) (fun _ k => XS.goto X119.here hx rfl (pc0 := 259) (pc' := 263) rfl (hb hby at_259) (by decide) (by decide) k) ?_
            refine GoW.retB X119 hlk hx (t := .boolean) hret (by simp) (hb hby at_263) kq119 hS (Nat.zero_le _) hZ hEL CR118 hh ?_ (by decide) (by decide)
            exact ⟨rfl, N119⟩
          by_cases cd128 : kd = w_SYMBOL
          · refine Go.st (f' := (mkF m 159 #[iv p1, iv p2, iv p3, iv p4, rv kd, iv 1, iv yy3, iv yy4, iv 2, iv z9, iv z10, iv 0, rv b112, rv b113, .unset, .unset] [])) (fun _ k => Jvm.RoadKit.acmp (g := (mkF m 156 #[iv p1, iv p2, iv p3, iv p4, rv kd, iv 1, iv yy3, iv yy4, iv 2, iv z9, iv z10, iv 0, rv b112, rv b113, .unset, .unset] [(.ref w_SYMBOL), (.ref kd)])) X114 hx rfl rfl rfl (pc0 := 156) (pc' := 159) (same := true) rfl (hb hby at_156) rfl (decide_eq_true (congrArg Value.ref cd128)) (by decide) (by decide) k) ?_
            refine Go.st (f' := (mkF m 161 #[iv p1, iv p2, iv p3, iv p4, rv kd, iv 1, iv yy3, iv yy4, iv 2, iv z9, iv z10, iv 0, rv b112, rv b113, .unset, .unset] [(.int 0)])) (fun _ k => XS.iload X114.here hx rfl (hb hby at_159) rfl k) ?_
            refine Go.st (f' := (mkF m 164 #[iv p1, iv p2, iv p3, iv p4, rv kd, iv 1, iv yy3, iv yy4, iv 2, iv z9, iv z10, iv 0, rv b112, rv b113, .unset, .unset] [])) (fun _ k => XS.ifNo X114.here hx rfl (hb hby at_161) rfl (by decide) k) ?_
            refine Go.st (f' := (mkF m 166 #[iv p1, iv p2, iv p3, iv p4, rv kd, iv 1, iv yy3, iv yy4, iv 2, iv z9, iv z10, iv 0, rv b112, rv b113, .unset, .unset] [(.int 1)])) (fun _ k => XS.iload X114.here hx rfl (hb hby at_164) rfl k) ?_
            refine Go.st (f' := (mkF m 168 #[iv p1, iv p2, iv p3, iv p4, rv kd, iv 1, iv yy3, iv yy4, iv 2, iv z9, iv z10, iv 0, rv b112, rv b113, .unset, .unset] [(.int 2), (.int 1)])) (fun _ k => XS.iload X114.here hx rfl (hb hby at_166) rfl k) ?_
            refine Go.st (f' := (mkF m 171 #[iv p1, iv p2, iv p3, iv p4, rv kd, iv 1, iv yy3, iv yy4, iv 2, iv z9, iv z10, iv 0, rv b112, rv b113, .unset, .unset] [])) (fun _ k => XS.icmpNo X114.here hx rfl (hb hby at_168) rfl (by decide) k) ?_
            refine Go.st (f' := (mkF m 172 #[iv p1, iv p2, iv p3, iv p4, rv kd, iv 1, iv yy3, iv yy4, iv 2, iv z9, iv z10, iv 0, rv b112, rv b113, .unset, .unset] [(.int 0)])) (fun _ k => XS.iconst X114.here hx rfl (hb hby at_171) k) ?_
            refine Go.st (f' := (mkF m 174 #[iv p1, iv p2, iv p3, iv p4, rv kd, iv 1, iv yy3, iv yy4, iv 2, iv z9, iv z10, iv 0, rv b112, rv b113, iv 0, .unset] [])) (fun _ k => XS.istore X114.here hx rfl (hb hby at_172) rfl (l' := #[iv p1, iv p2, iv p3, iv p4, rv kd, iv 1, iv yy3, iv yy4, iv 2, iv z9, iv z10, iv 0, rv b112, rv b113, iv 0, .unset]) rfl k) ?_
            refine Go.st (f' := (mkF m 232 #[iv p1, iv p2, iv p3, iv p4, rv kd, iv 1, iv yy3, iv yy4, iv 2, iv z9, iv z10, iv 0, rv b112, rv b113, iv 0, .unset] [])) (fun _ k => XS.goto X114.here hx rfl (pc0 := 174) (pc' := 232) rfl (hb hby at_174) (by decide) (by decide) k) ?_
            exact J2 (0 : Int32) (by rw [syI_1_2, if_pos cd128] <;> rfl)
          · refine Go.st (f' := (mkF m 171 #[iv p1, iv p2, iv p3, iv p4, rv kd, iv 1, iv yy3, iv yy4, iv 2, iv z9, iv z10, iv 0, rv b112, rv b113, .unset, .unset] [])) (fun _ k => Jvm.RoadKit.acmp (g := (mkF m 156 #[iv p1, iv p2, iv p3, iv p4, rv kd, iv 1, iv yy3, iv yy4, iv 2, iv z9, iv z10, iv 0, rv b112, rv b113, .unset, .unset] [(.ref w_SYMBOL), (.ref kd)])) X114 hx rfl rfl rfl (pc0 := 156) (pc' := 171) (same := false) rfl (hb hby at_156) rfl (decide_eq_false fun q => cd128 (Value.ref.inj q)) (by decide) (by decide) k) ?_
            refine Go.st (f' := (mkF m 172 #[iv p1, iv p2, iv p3, iv p4, rv kd, iv 1, iv yy3, iv yy4, iv 2, iv z9, iv z10, iv 0, rv b112, rv b113, .unset, .unset] [(.int 0)])) (fun _ k => XS.iconst X114.here hx rfl (hb hby at_171) k) ?_
            refine Go.st (f' := (mkF m 174 #[iv p1, iv p2, iv p3, iv p4, rv kd, iv 1, iv yy3, iv yy4, iv 2, iv z9, iv z10, iv 0, rv b112, rv b113, iv 0, .unset] [])) (fun _ k => XS.istore X114.here hx rfl (hb hby at_172) rfl (l' := #[iv p1, iv p2, iv p3, iv p4, rv kd, iv 1, iv yy3, iv yy4, iv 2, iv z9, iv z10, iv 0, rv b112, rv b113, iv 0, .unset]) rfl k) ?_
            refine Go.st (f' := (mkF m 232 #[iv p1, iv p2, iv p3, iv p4, rv kd, iv 1, iv yy3, iv yy4, iv 2, iv z9, iv z10, iv 0, rv b112, rv b113, iv 0, .unset] [])) (fun _ k => XS.goto X114.here hx rfl (pc0 := 174) (pc' := 232) rfl (hb hby at_174) (by decide) (by decide) k) ?_
            exact J2 (0 : Int32) (by rw [syI_1_2, if_neg cd128])
      · refine Go.st (f' := (mkF m 122 #[iv p1, iv p2, iv p3, iv p4, rv kd, iv 1, iv yy3, iv yy4, iv z8, iv z9, iv z10, iv 1, .unset, .unset, .unset, .unset] [(.int 1)])) (fun _ k => XS.iload X1.here hx rfl (hb hby at_120) rfl k) ?_
        refine Go.st (f' := (mkF m 124 #[iv p1, iv p2, iv p3, iv p4, rv kd, iv 1, iv yy3, iv yy4, iv z8, iv z9, iv z10, iv 1, .unset, .unset, .unset, .unset] [(.int yy3), (.int 1)])) (fun _ k => XS.iload X1.here hx rfl (hb hby at_122) rfl k) ?_
        refine Go.st (f' := (mkF m 126 #[iv p1, iv p2, iv p3, iv p4, rv kd, iv 1, iv yy3, iv yy4, iv z8, iv z9, iv z10, iv 1, .unset, .unset, .unset, .unset] [(.int yy4), (.int yy3), (.int 1)])) (fun _ k => XS.iload X1.here hx rfl (hb hby at_124) rfl k) ?_
        obtain ⟨_, _, ⟨T129, L129, kk129, nn129⟩, -, X129, ⟨Lc129, hQ129, lq129, yq129, zz129⟩, st129⟩ := Jvm.LawKit.callS X1 hx (y := (⟨"com/example/naysay/naysay/rules/TokenIsSymbolPinLaw", "mk", "(ICC)Ljava/lang/String;"⟩ : MethodName)) hown (mvT hZ (hw _ (List.mem_of_getElem? (i := 8) rfl))) (mvT hZ (hw _ (List.mem_of_getElem? (i := 9) rfl))) (mvT hZ (hw _ (List.mem_of_getElem? (i := 2) rfl))) (mvT hZ (hw _ (List.mem_of_getElem? (i := 10) rfl))) (by decide) (own_back (W := 0) (rmM_1 l Z a0 hw [] yy3 yy4 w_NUMBER w_SYMBOL w_NAME w_END w_STRING i_COMPACT_STRINGS v_SIOOBE_FORMATTER h0 n0 O0 (hyy3 ▸ own_b _).1 (hyy4 ▸ own_b _).1 (hyy3 ▸ own_b _).2 (hyy4 ▸ own_b _).2 WW) hZ (hw _ (List.mem_of_getElem? (i := 10) rfl)) (hw _ (List.mem_of_getElem? (i := 2) rfl)) (by decide) (by decide)) (g := (mkF m 126 #[iv p1, iv p2, iv p3, iv p4, rv kd, iv 1, iv yy3, iv yy4, iv z8, iv z9, iv z10, iv 1, .unset, .unset, .unset, .unset] [(.int yy4), (.int yy3), (.int 1)])) rfl (by rw [hml]; rfl) (argsL := [(.int (1 : Int32)), (.int yy3), (.int yy4)]) (rest := []) (lenOf pd__ICC_Ljava_lang_String_ rfl) rfl (by show 2 * 0 + _ ≤ _; exact Nat.le_of_eq rfl) (hb hby at_126) (fun _ _ => ⟨rfl, kq1, (by decide : 0 + 3 ≤ _), (by decide : 0 + 6 ≤ _)⟩)
        dsimp only [Pt.U, Pt.locs, Pt.cells, Pt.slots] at X129 lq129 yq129 zz129 st129 hQ129
        subst lq129 yq129 zz129
        obtain ⟨b129, rfl, Nq129, zb129, kq129, eq129, cq129, tt129, kt129, zq129, fq129, vq129⟩ := hQ129
        have N129 := Fr.app N1 Nq129
        have ne_w_NUMBER_b129 : w_NUMBER ≠ b129 := Nat.ne_of_lt (Nat.lt_of_lt_of_le lt_w_NUMBER (Nat.le_trans O0.2.1 zb129))
        have ne_w_SYMBOL_b129 : w_SYMBOL ≠ b129 := Nat.ne_of_lt (Nat.lt_of_lt_of_le lt_w_SYMBOL (Nat.le_trans O0.2.1 zb129))
        have ne_w_NAME_b129 : w_NAME ≠ b129 := Nat.ne_of_lt (Nat.lt_of_lt_of_le lt_w_NAME (Nat.le_trans O0.2.1 zb129))
        have ne_w_END_b129 : w_END ≠ b129 := Nat.ne_of_lt (Nat.lt_of_lt_of_le lt_w_END (Nat.le_trans O0.2.1 zb129))
        have ne_w_STRING_b129 : w_STRING ≠ b129 := Nat.ne_of_lt (Nat.lt_of_lt_of_le lt_w_STRING (Nat.le_trans O0.2.1 zb129))
        have g_b129 : n0 ≤ b129 := Nat.le_trans (O0.1 ▸ O0.2.1) zb129
        have sn_b129 : Safe Z EL s.vm h0 b129 := Safe.new zb129
        have ne_w_NUMBER_tt129 : w_NUMBER ≠ tt129 := Nat.ne_of_lt (Nat.lt_of_lt_of_le lt_w_NUMBER (Nat.le_trans O0.2.1 zq129))
        have ne_w_SYMBOL_tt129 : w_SYMBOL ≠ tt129 := Nat.ne_of_lt (Nat.lt_of_lt_of_le lt_w_SYMBOL (Nat.le_trans O0.2.1 zq129))
        have ne_w_NAME_tt129 : w_NAME ≠ tt129 := Nat.ne_of_lt (Nat.lt_of_lt_of_le lt_w_NAME (Nat.le_trans O0.2.1 zq129))
        have ne_w_END_tt129 : w_END ≠ tt129 := Nat.ne_of_lt (Nat.lt_of_lt_of_le lt_w_END (Nat.le_trans O0.2.1 zq129))
        have ne_w_STRING_tt129 : w_STRING ≠ tt129 := Nat.ne_of_lt (Nat.lt_of_lt_of_le lt_w_STRING (Nat.le_trans O0.2.1 zq129))
        have g_tt129 : n0 ≤ tt129 := Nat.le_trans (O0.1 ▸ O0.2.1) zq129
        have sn_tt129 : Safe Z EL s.vm h0 tt129 := Safe.new zq129
        have O129 : Old Z n0 T129.heap := O0.keep kq129 all0
        have CR129 : CHr Z EL s.vm h0 s.vm T129.heap := CR0.trans (CHr.keep kq129 sf0 CR0.1)
        have lt_b129 := eq129.lt
        have lt_tt129 := vq129.lt
        refine Go.st (f' := (mkF m 129 #[iv p1, iv p2, iv p3, iv p4, rv kd, iv 1, iv yy3, iv yy4, iv z8, iv z9, iv z10, iv 1, .unset, .unset, .unset, .unset] [(.ref b129)])) (fun _ k => st129 _ k) ?_
        refine Go.st (f' := (mkF m 131 #[iv p1, iv p2, iv p3, iv p4, rv kd, iv 1, iv yy3, iv yy4, iv z8, iv z9, iv z10, iv 1, rv b129, .unset, .unset, .unset] [])) (fun _ k => XS.astore X129.here hx rfl (hb hby at_129) rfl rfl (l' := #[iv p1, iv p2, iv p3, iv p4, rv kd, iv 1, iv yy3, iv yy4, iv z8, iv z9, iv z10, iv 1, rv b129, .unset, .unset, .unset]) rfl k) ?_
        refine Go.st (f' := (mkF m 133 #[iv p1, iv p2, iv p3, iv p4, rv kd, iv 1, iv yy3, iv yy4, iv z8, iv z9, iv z10, iv 1, rv b129, .unset, .unset, .unset] [(.int 1)])) (fun _ k => XS.iload X129.here hx rfl (hb hby at_131) rfl k) ?_
        refine Go.st (f' := (mkF m 136 #[iv p1, iv p2, iv p3, iv p4, rv kd, iv 1, iv yy3, iv yy4, iv z8, iv z9, iv z10, iv 1, rv b129, .unset, .unset, .unset] [])) (fun _ k => XS.ifNo X129.here hx rfl (hb hby at_133) rfl (by decide) k) ?_
        refine Go.st (f' := (mkF m 137 #[iv p1, iv p2, iv p3, iv p4, rv kd, iv 1, iv yy3, iv yy4, iv z8, iv z9, iv z10, iv 1, rv b129, .unset, .unset, .unset] [.null])) (fun _ k => XS.aconstNull X129.here hx rfl (hb hby at_136) k) ?_
        refine Go.st (f' := (mkF m 149 #[iv p1, iv p2, iv p3, iv p4, rv kd, iv 1, iv yy3, iv yy4, iv z8, iv z9, iv z10, iv 1, rv b129, .unset, .unset, .unset] [.null])) (fun _ k => XS.goto X129.here hx rfl (pc0 := 137) (pc' := 149) rfl (hb hby at_137) (by decide) (by decide) k) ?_
        refine Go.st (f' := (mkF m 151 #[iv p1, iv p2, iv p3, iv p4, rv kd, iv 1, iv yy3, iv yy4, iv z8, iv z9, iv z10, iv 1, rv b129, .val .null, .unset, .unset] [])) (fun _ k => XS.astore X129.here hx rfl (hb hby at_149) rfl rfl (l' := #[iv p1, iv p2, iv p3, iv p4, rv kd, iv 1, iv yy3, iv yy4, iv z8, iv z9, iv z10, iv 1, rv b129, .val .null, .unset, .unset]) rfl k) ?_
        refine Go.st (f' := (mkF m 153 #[iv p1, iv p2, iv p3, iv p4, rv kd, iv 1, iv yy3, iv yy4, iv z8, iv z9, iv z10, iv 1, rv b129, .val .null, .unset, .unset] [(.ref kd)])) (fun _ k => XS.aload X129.here hx rfl (hb hby at_151) rfl rfl k) ?_
        obtain ⟨T130, X130, e130, st130⟩ := getS2 X129 hx hZ hown (host := "") (Or.inl (hw _ (List.mem_of_getElem? (i := 44) rfl))) Via.refl rfl (S_w_SYMBOL.ext O129.2) (g := (mkF m 153 #[iv p1, iv p2, iv p3, iv p4, rv kd, iv 1, iv yy3, iv yy4, iv z8, iv z9, iv z10, iv 1, rv b129, .val .null, .unset, .unset] [(.ref kd)])) rfl (hb hby at_153)
        refine Go.st (f' := (mkF m 156 #[iv p1, iv p2, iv p3, iv p4, rv kd, iv 1, iv yy3, iv yy4, iv z8, iv z9, iv z10, iv 1, rv b129, .val .null, .unset, .unset] [(.ref w_SYMBOL), (.ref kd)])) (fun _ k => st130 _ k) ?_
        have J2 : ∀ (z14 : Int32), (z14 = (syI_1_N kd w_SYMBOL (nar .byte ((nar .char yy3).toInt8.toInt32)))) → Go p e below (DoneW s Z EL (QL n0) room_1.cells room_1.slots) T130 (mkF m 232 #[iv p1, iv p2, iv p3, iv p4, rv kd, iv 1, iv yy3, iv yy4, iv z8, iv z9, iv z10, iv 1, rv b129, .val .null, iv z14, .unset] []) := by
          intro z14 hz14
          obtain ⟨T131, h131, X131, e131, E131, A131, D131, -, st131⟩ := newO X130 hx hZ hown (hw _ (List.mem_of_getElem? (i := 46) rfl)) (hw _ (List.mem_of_getElem? (i := 47) rfl)) (hw _ (List.mem_of_getElem? (i := 48) rfl)) e130 (g := (mkF m 232 #[iv p1, iv p2, iv p3, iv p4, rv kd, iv 1, iv yy3, iv yy4, iv z8, iv z9, iv z10, iv 1, rv b129, .val .null, iv z14, .unset] [])) rfl (hb hby at_232) (by decide) (by decide)
          obtain ⟨b131, g131⟩ : ∃ z, z = T129.heap.size := ⟨_, rfl⟩
          rw [← g131] at A131 D131 st131
          have ne_b129_b131 : b129 ≠ b131 := Nat.ne_of_lt (Nat.lt_of_lt_of_eq lt_b129 g131.symm)
          have ne_tt129_b131 : tt129 ≠ b131 := Nat.ne_of_lt (Nat.lt_of_lt_of_eq lt_tt129 g131.symm)
          have ne_w_NUMBER_b131 : w_NUMBER ≠ b131 := Nat.ne_of_lt (Nat.lt_of_lt_of_le lt_w_NUMBER (Nat.le_trans O129.2.1 (Nat.le_of_eq g131.symm)))
          have ne_w_SYMBOL_b131 : w_SYMBOL ≠ b131 := Nat.ne_of_lt (Nat.lt_of_lt_of_le lt_w_SYMBOL (Nat.le_trans O129.2.1 (Nat.le_of_eq g131.symm)))
          have ne_w_NAME_b131 : w_NAME ≠ b131 := Nat.ne_of_lt (Nat.lt_of_lt_of_le lt_w_NAME (Nat.le_trans O129.2.1 (Nat.le_of_eq g131.symm)))
          have ne_w_END_b131 : w_END ≠ b131 := Nat.ne_of_lt (Nat.lt_of_lt_of_le lt_w_END (Nat.le_trans O129.2.1 (Nat.le_of_eq g131.symm)))
          have ne_w_STRING_b131 : w_STRING ≠ b131 := Nat.ne_of_lt (Nat.lt_of_lt_of_le lt_w_STRING (Nat.le_trans O129.2.1 (Nat.le_of_eq g131.symm)))
          have g_b131 : n0 ≤ b131 := Nat.le_trans (O129.1 ▸ O129.2.1) (Nat.le_of_eq g131.symm)
          have O131 : Old Z n0 h131 := O129.ext E131
          have CR131 : CHr Z EL s.vm h0 s.vm h131 := CR129.trans (CHr.ext E131 CR129.1)
          have sf_b131 : Safe Z EL s.vm h131 b131 := (Safe.new (Nat.le_of_eq g131.symm)).ext E131 CR129.1
          have lt_b131 := A131.lt
          have F_kind_b131 : Fld Z h131 b131 "com/example/naysay/naysay/rules/Token" "kind" "Lcom/example/naysay/naysay/rules/Token$Kind;" .null := D131 (Or.inr (hw _ (List.mem_of_getElem? (i := 59) rfl))) (ty := (.object "com/example/naysay/naysay/rules/Token$Kind")) (by decide)
          have F_text_b131 : Fld Z h131 b131 "com/example/naysay/naysay/rules/Token" "text" "Ljava/lang/String;" .null := D131 (Or.inr (hw _ (List.mem_of_getElem? (i := 61) rfl))) (ty := (.object "java/lang/String")) (by decide)
          have F_column_b131 : Fld Z h131 b131 "com/example/naysay/naysay/rules/Token" "column" "I" (.int (0 : Int32)) := D131 (Or.inr (hw _ (List.mem_of_getElem? (i := 63) rfl))) (ty := .int) (by decide)
          refine Go.st (f' := (mkF m 235 #[iv p1, iv p2, iv p3, iv p4, rv kd, iv 1, iv yy3, iv yy4, iv z8, iv z9, iv z10, iv 1, rv b129, .val .null, iv z14, .unset] [(.ref b131)])) (fun _ k => st131 _ k) ?_
          refine Go.st (f' := (mkF m 236 #[iv p1, iv p2, iv p3, iv p4, rv kd, iv 1, iv yy3, iv yy4, iv z8, iv z9, iv z10, iv 1, rv b129, .val .null, iv z14, .unset] [(.ref b131), (.ref b131)])) (fun _ k => XS.dup X131.here hx rfl (hb hby at_235) rfl rfl k) ?_
          refine Go.st (f' := (mkF m 238 #[iv p1, iv p2, iv p3, iv p4, rv kd, iv 1, iv yy3, iv yy4, iv z8, iv z9, iv z10, iv 1, rv b129, .val .null, iv z14, .unset] [(.ref kd), (.ref b131), (.ref b131)])) (fun _ k => XS.aload X131.here hx rfl (hb hby at_236) rfl rfl k) ?_
          refine Go.st (f' := (mkF m 240 #[iv p1, iv p2, iv p3, iv p4, rv kd, iv 1, iv yy3, iv yy4, iv z8, iv z9, iv z10, iv 1, rv b129, .val .null, iv z14, .unset] [(.ref b129), (.ref kd), (.ref b131), (.ref b131)])) (fun _ k => XS.aload X131.here hx rfl (hb hby at_238) rfl rfl k) ?_
          refine Go.st (f' := (mkF m 241 #[iv p1, iv p2, iv p3, iv p4, rv kd, iv 1, iv yy3, iv yy4, iv z8, iv z9, iv z10, iv 1, rv b129, .val .null, iv z14, .unset] [(.int p4), (.ref b129), (.ref kd), (.ref b131), (.ref b131)])) (fun _ k => XS.iloadN X131.here hx rfl (hb hby at_240) rfl k) ?_
          obtain ⟨_, _, ⟨T132, L132, kk132, nn132⟩, -, X132, ⟨Lc132, hQ132, lq132, yq132, zz132⟩, st132⟩ := X131.specialBack hx (y := (⟨"com/example/naysay/naysay/rules/Token", "<init>", "(Lcom/example/naysay/naysay/rules/Token$Kind;Ljava/lang/String;I)V"⟩ : MethodName)) rfl hown (mvT hZ (hw _ (List.mem_of_getElem? (i := 49) rfl))) (mvT hZ (hw _ (List.mem_of_getElem? (i := 50) rfl))) (mvT hZ (hw _ (List.mem_of_getElem? (i := 51) rfl))) (by decide) (own_back (W := 1) (rmT l Z a0 hw [] b131 kd b129 p4 h131 n0 O131 g_b131 A131 F_kind_b131 F_text_b131 F_column_b131 ) hZ (hw _ (List.mem_of_getElem? (i := 51) rfl)) (hw _ (List.mem_of_getElem? (i := 48) rfl)) (by decide) (by decide)) (g := (mkF m 241 #[iv p1, iv p2, iv p3, iv p4, rv kd, iv 1, iv yy3, iv yy4, iv z8, iv z9, iv z10, iv 1, rv b129, .val .null, iv z14, .unset] [(.int p4), (.ref b129), (.ref kd), (.ref b131), (.ref b131)])) rfl (by rw [hml]; rfl) (Steps.refl _) (a := b131) (argsL := [(.ref kd), (.ref b129), (.int p4)]) (rest := [(.ref b131)]) (lenOf pd__Lcom_example_naysay_naysay_rules_Token_Kind_Ljava_lang_String_I_V rfl) rfl (by show 2 * 0 + _ ≤ _; exact Nat.le_of_eq rfl) (hb hby at_241) (fun _ _ => ⟨rfl, e131, (by decide : 4 + 0 ≤ _), (by decide : 9 + 0 ≤ _)⟩)
          dsimp only [Pt.U, Pt.locs, Pt.cells, Pt.slots] at X132 lq132 yq132 zz132 st132 hQ132
          subst lq132 yq132 zz132
          obtain ⟨rfl, Nq132, kq132, eq132, fq132_0, fq132_1, fq132_2⟩ := hQ132
          have N132 := Fr.app N129 Nq132
          have O132 : Old Z n0 T132.heap := O131.keep kq132 (allS g_b131 all0)
          have CR132 : CHr Z EL s.vm h0 s.vm T132.heap := CR131.trans (CHr.keep kq132 (sfS sf_b131 sf0) CR131.1)
          refine Go.tr (f' := (mkF m 244 #[iv p1, iv p2, iv p3, iv p4, rv kd, iv 1, iv yy3, iv yy4, iv z8, iv z9, iv z10, iv 1, rv b129, .val .null, iv z14, .unset] [(.ref b131)])) st132 ?_
          refine Go.st (f' := (mkF m 246 #[iv p1, iv p2, iv p3, iv p4, rv kd, iv 1, iv yy3, iv yy4, iv z8, iv z9, iv z10, iv 1, rv b129, .val .null, iv z14, rv b131] [])) (fun _ k => XS.astore X132.here hx rfl (hb hby at_244) rfl rfl (l' := #[iv p1, iv p2, iv p3, iv p4, rv kd, iv 1, iv yy3, iv yy4, iv z8, iv z9, iv z10, iv 1, rv b129, .val .null, iv z14, rv b131]) rfl k) ?_
          refine Go.st (f' := (mkF m 248 #[iv p1, iv p2, iv p3, iv p4, rv kd, iv 1, iv yy3, iv yy4, iv z8, iv z9, iv z10, iv 1, rv b129, .val .null, iv z14, rv b131] [(.ref b131)])) (fun _ k => XS.aload X132.here hx rfl (hb hby at_246) rfl rfl k) ?_
          refine Go.st (f' := (mkF m 250 #[iv p1, iv p2, iv p3, iv p4, rv kd, iv 1, iv yy3, iv yy4, iv z8, iv z9, iv z10, iv 1, rv b129, .val .null, iv z14, rv b131] [.null, (.ref b131)])) (fun _ k => XS.aload X132.here hx rfl (hb hby at_248) rfl rfl k) ?_
          have ft134 := ((eq129.ext E131).keep kq132)
          have ft135 := ((cq129.ext E131).keep kq132 (ninS ne_b129_b131 nin0))
          have ft136 := ((fq129.ext E131).keep kq132 (ninS ne_b129_b131 nin0))
          have ft137 := ((vq129.ext E131).keep kq132 (ninS ne_tt129_b131 nin0))
          obtain ⟨cq133, kq133, q133a, q133b, q133c⟩ := isOf hZ rfl eq132
          obtain ⟨_, _, ⟨T133, L133, kk133, nn133⟩, -, X133, ⟨Lc133, hQ133, lq133, yq133, zz133⟩, st133⟩ := X132.virtualBack hx (y := (⟨"com/example/naysay/naysay/rules/Token", "isSymbol", "(Ljava/lang/String;)Z"⟩ : MethodName)) (z := (⟨"com/example/naysay/naysay/rules/Token", "isSymbol", "(Ljava/lang/String;)Z"⟩ : MethodName)) hown (mvT hZ (hw _ (List.mem_of_getElem? (i := 64) rfl))) (mvT hZ (hw _ (List.mem_of_getElem? (i := 65) rfl))) (notFace_of_selects (args := #[]) (mvT hZ (hw _ (List.mem_of_getElem? (i := 67) rfl)))) (mvT hZ (hw _ (List.mem_of_getElem? (i := 67) rfl))) (mvT hZ (hw _ (List.mem_of_getElem? (i := 66) rfl))) (by decide) (own_back (W := 0) (rmS_1_N l Z a0 hw [] b131 kd b129 tt129 kt129 (nar .byte ((nar .char yy3).toInt8.toInt32)) w_NUMBER w_SYMBOL w_NAME w_END w_STRING i_COMPACT_STRINGS v_SIOOBE_FORMATTER T132.heap n0 O132 eq132 fq132_0 fq132_1 ft134 ft135 ft136 ft137 WW) hZ (hw _ (List.mem_of_getElem? (i := 68) rfl)) (hw _ (List.mem_of_getElem? (i := 48) rfl)) (by decide) (by decide)) q133a q133c (g := (mkF m 250 #[iv p1, iv p2, iv p3, iv p4, rv kd, iv 1, iv yy3, iv yy4, iv z8, iv z9, iv z10, iv 1, rv b129, .val .null, iv z14, rv b131] [.null, (.ref b131)])) rfl (by rw [hml]; rfl) (Steps.refl _) (argsL := [.null]) (rest := []) (lenOf pd__Ljava_lang_String__Z rfl) rfl (by show 2 * 0 + _ ≤ _; exact Nat.le_of_eq rfl) (hb hby at_250) (fun _ _ => ⟨rfl, rfl, (by decide : 4 + 0 ≤ _), (by decide : 9 + 0 ≤ _)⟩)
          dsimp only [Pt.U, Pt.locs, Pt.cells, Pt.slots] at X133 lq133 yq133 zz133 st133 hQ133
          subst lq133 yq133 zz133
          obtain ⟨rfl, Nq133, kq133⟩ := hQ133
          have N133 := Fr.app N132 Nq133
          refine Go.tr (f' := (mkF m 253 #[iv p1, iv p2, iv p3, iv p4, rv kd, iv 1, iv yy3, iv yy4, iv z8, iv z9, iv z10, iv 1, rv b129, .val .null, iv z14, rv b131] [(.int (syI_1_N kd w_SYMBOL (nar .byte ((nar .char yy3).toInt8.toInt32))))])) st133 ?_
          refine Go.st (f' := (mkF m 255 #[iv p1, iv p2, iv p3, iv p4, rv kd, iv 1, iv yy3, iv yy4, iv z8, iv z9, iv z10, iv 1, rv b129, .val .null, iv z14, rv b131] [(.int z14), (.int (syI_1_N kd w_SYMBOL (nar .byte ((nar .char yy3).toInt8.toInt32))))])) (fun _ k => XS.iload X133.here hx rfl (hb hby at_253) rfl k) ?_
          refine Go.st (f' := (mkF m 258 #[iv p1, iv p2, iv p3, iv p4, rv kd, iv 1, iv yy3, iv yy4, iv z8, iv z9, iv z10, iv 1, rv b129, .val .null, iv z14, rv b131] [])) (fun _ k => XS.icmpNo X133.here hx rfl (hb hby at_255) rfl (teq hz14.symm).2 k) ?_
          refine Go.st (f' := (mkF m 259 #[iv p1, iv p2, iv p3, iv p4, rv kd, iv 1, iv yy3, iv yy4, iv z8, iv z9, iv z10, iv 1, rv b129, .val .null, iv z14, rv b131] [(.int 1)])) (fun _ k => XS.iconst X133.here hx rfl (hb hby at_258) k) ?_
          refine Go.st (f' := (mkF m 263 #[iv p1, iv p2, iv p3, iv p4, rv kd, iv 1, iv yy3, iv yy4, iv z8, iv z9, iv z10, iv 1, rv b129, .val .null, iv z14, rv b131] [(.int 1)])) (fun _ k => XS.goto X133.here hx rfl (pc0 := 259) (pc' := 263) rfl (hb hby at_259) (by decide) (by decide) k) ?_
          refine GoW.retB X133 hlk hx (t := .boolean) hret (by simp) (hb hby at_263) kq133 hS (Nat.zero_le _) hZ hEL CR132 hh ?_ (by decide) (by decide)
          exact ⟨rfl, N133⟩
        by_cases cd138 : kd = w_SYMBOL
        · refine Go.st (f' := (mkF m 159 #[iv p1, iv p2, iv p3, iv p4, rv kd, iv 1, iv yy3, iv yy4, iv z8, iv z9, iv z10, iv 1, rv b129, .val .null, .unset, .unset] [])) (fun _ k => Jvm.RoadKit.acmp (g := (mkF m 156 #[iv p1, iv p2, iv p3, iv p4, rv kd, iv 1, iv yy3, iv yy4, iv z8, iv z9, iv z10, iv 1, rv b129, .val .null, .unset, .unset] [(.ref w_SYMBOL), (.ref kd)])) X130 hx rfl rfl rfl (pc0 := 156) (pc' := 159) (same := true) rfl (hb hby at_156) rfl (decide_eq_true (congrArg Value.ref cd138)) (by decide) (by decide) k) ?_
          refine Go.st (f' := (mkF m 161 #[iv p1, iv p2, iv p3, iv p4, rv kd, iv 1, iv yy3, iv yy4, iv z8, iv z9, iv z10, iv 1, rv b129, .val .null, .unset, .unset] [(.int 1)])) (fun _ k => XS.iload X130.here hx rfl (hb hby at_159) rfl k) ?_
          refine Go.st (f' := (mkF m 171 #[iv p1, iv p2, iv p3, iv p4, rv kd, iv 1, iv yy3, iv yy4, iv z8, iv z9, iv z10, iv 1, rv b129, .val .null, .unset, .unset] [])) (fun _ k => XS.ifYes X130.here hx rfl (pc0 := 161) (pc' := 171) rfl (hb hby at_161) rfl (by decide) (by decide) (by decide) k) ?_
          refine Go.st (f' := (mkF m 172 #[iv p1, iv p2, iv p3, iv p4, rv kd, iv 1, iv yy3, iv yy4, iv z8, iv z9, iv z10, iv 1, rv b129, .val .null, .unset, .unset] [(.int 0)])) (fun _ k => XS.iconst X130.here hx rfl (hb hby at_171) k) ?_
          refine Go.st (f' := (mkF m 174 #[iv p1, iv p2, iv p3, iv p4, rv kd, iv 1, iv yy3, iv yy4, iv z8, iv z9, iv z10, iv 1, rv b129, .val .null, iv 0, .unset] [])) (fun _ k => XS.istore X130.here hx rfl (hb hby at_172) rfl (l' := #[iv p1, iv p2, iv p3, iv p4, rv kd, iv 1, iv yy3, iv yy4, iv z8, iv z9, iv z10, iv 1, rv b129, .val .null, iv 0, .unset]) rfl k) ?_
          refine Go.st (f' := (mkF m 232 #[iv p1, iv p2, iv p3, iv p4, rv kd, iv 1, iv yy3, iv yy4, iv z8, iv z9, iv z10, iv 1, rv b129, .val .null, iv 0, .unset] [])) (fun _ k => XS.goto X130.here hx rfl (pc0 := 174) (pc' := 232) rfl (hb hby at_174) (by decide) (by decide) k) ?_
          exact J2 (0 : Int32) (by rw [syI_1_N, if_pos cd138] <;> rfl)
        · refine Go.st (f' := (mkF m 171 #[iv p1, iv p2, iv p3, iv p4, rv kd, iv 1, iv yy3, iv yy4, iv z8, iv z9, iv z10, iv 1, rv b129, .val .null, .unset, .unset] [])) (fun _ k => Jvm.RoadKit.acmp (g := (mkF m 156 #[iv p1, iv p2, iv p3, iv p4, rv kd, iv 1, iv yy3, iv yy4, iv z8, iv z9, iv z10, iv 1, rv b129, .val .null, .unset, .unset] [(.ref w_SYMBOL), (.ref kd)])) X130 hx rfl rfl rfl (pc0 := 156) (pc' := 171) (same := false) rfl (hb hby at_156) rfl (decide_eq_false fun q => cd138 (Value.ref.inj q)) (by decide) (by decide) k) ?_
          refine Go.st (f' := (mkF m 172 #[iv p1, iv p2, iv p3, iv p4, rv kd, iv 1, iv yy3, iv yy4, iv z8, iv z9, iv z10, iv 1, rv b129, .val .null, .unset, .unset] [(.int 0)])) (fun _ k => XS.iconst X130.here hx rfl (hb hby at_171) k) ?_
          refine Go.st (f' := (mkF m 174 #[iv p1, iv p2, iv p3, iv p4, rv kd, iv 1, iv yy3, iv yy4, iv z8, iv z9, iv z10, iv 1, rv b129, .val .null, iv 0, .unset] [])) (fun _ k => XS.istore X130.here hx rfl (hb hby at_172) rfl (l' := #[iv p1, iv p2, iv p3, iv p4, rv kd, iv 1, iv yy3, iv yy4, iv z8, iv z9, iv z10, iv 1, rv b129, .val .null, iv 0, .unset]) rfl k) ?_
          refine Go.st (f' := (mkF m 232 #[iv p1, iv p2, iv p3, iv p4, rv kd, iv 1, iv yy3, iv yy4, iv z8, iv z9, iv z10, iv 1, rv b129, .val .null, iv 0, .unset] [])) (fun _ k => XS.goto X130.here hx rfl (pc0 := 174) (pc' := 232) rfl (hb hby at_174) (by decide) (by decide) k) ?_
          exact J2 (0 : Int32) (by rw [syI_1_N, if_neg cd138])
    · rcases hz11 with rfl | rfl
      · rcases hz8 with rfl | rfl | rfl
        · refine Go.st (f' := (mkF m 122 #[iv p1, iv p2, iv p3, iv p4, rv kd, iv 2, iv yy3, iv yy4, iv 0, iv z9, iv z10, iv 0, .unset, .unset, .unset, .unset] [(.int 2)])) (fun _ k => XS.iload X1.here hx rfl (hb hby at_120) rfl k) ?_
          refine Go.st (f' := (mkF m 124 #[iv p1, iv p2, iv p3, iv p4, rv kd, iv 2, iv yy3, iv yy4, iv 0, iv z9, iv z10, iv 0, .unset, .unset, .unset, .unset] [(.int yy3), (.int 2)])) (fun _ k => XS.iload X1.here hx rfl (hb hby at_122) rfl k) ?_
          refine Go.st (f' := (mkF m 126 #[iv p1, iv p2, iv p3, iv p4, rv kd, iv 2, iv yy3, iv yy4, iv 0, iv z9, iv z10, iv 0, .unset, .unset, .unset, .unset] [(.int yy4), (.int yy3), (.int 2)])) (fun _ k => XS.iload X1.here hx rfl (hb hby at_124) rfl k) ?_
          obtain ⟨_, _, ⟨T139, L139, kk139, nn139⟩, -, X139, ⟨Lc139, hQ139, lq139, yq139, zz139⟩, st139⟩ := Jvm.LawKit.callS X1 hx (y := (⟨"com/example/naysay/naysay/rules/TokenIsSymbolPinLaw", "mk", "(ICC)Ljava/lang/String;"⟩ : MethodName)) hown (mvT hZ (hw _ (List.mem_of_getElem? (i := 8) rfl))) (mvT hZ (hw _ (List.mem_of_getElem? (i := 9) rfl))) (mvT hZ (hw _ (List.mem_of_getElem? (i := 2) rfl))) (mvT hZ (hw _ (List.mem_of_getElem? (i := 10) rfl))) (by decide) (own_back (W := 0) (rmM_2 l Z a0 hw [] yy3 yy4 w_NUMBER w_SYMBOL w_NAME w_END w_STRING i_COMPACT_STRINGS v_SIOOBE_FORMATTER h0 n0 O0 (hyy3 ▸ own_b _).1 (hyy4 ▸ own_b _).1 (hyy3 ▸ own_b _).2 (hyy4 ▸ own_b _).2 WW) hZ (hw _ (List.mem_of_getElem? (i := 10) rfl)) (hw _ (List.mem_of_getElem? (i := 2) rfl)) (by decide) (by decide)) (g := (mkF m 126 #[iv p1, iv p2, iv p3, iv p4, rv kd, iv 2, iv yy3, iv yy4, iv 0, iv z9, iv z10, iv 0, .unset, .unset, .unset, .unset] [(.int yy4), (.int yy3), (.int 2)])) rfl (by rw [hml]; rfl) (argsL := [(.int (2 : Int32)), (.int yy3), (.int yy4)]) (rest := []) (lenOf pd__ICC_Ljava_lang_String_ rfl) rfl (by show 2 * 0 + _ ≤ _; exact Nat.le_of_eq rfl) (hb hby at_126) (fun _ _ => ⟨rfl, kq1, (by decide : 0 + 3 ≤ _), (by decide : 0 + 8 ≤ _)⟩)
          dsimp only [Pt.U, Pt.locs, Pt.cells, Pt.slots] at X139 lq139 yq139 zz139 st139 hQ139
          subst lq139 yq139 zz139
          obtain ⟨b139, rfl, Nq139, zb139, kq139, eq139, cq139, tt139, kt139, zq139, fq139, vq139⟩ := hQ139
          have N139 := Fr.app N1 Nq139
          have ne_w_NUMBER_b139 : w_NUMBER ≠ b139 := Nat.ne_of_lt (Nat.lt_of_lt_of_le lt_w_NUMBER (Nat.le_trans O0.2.1 zb139))
          have ne_w_SYMBOL_b139 : w_SYMBOL ≠ b139 := Nat.ne_of_lt (Nat.lt_of_lt_of_le lt_w_SYMBOL (Nat.le_trans O0.2.1 zb139))
          have ne_w_NAME_b139 : w_NAME ≠ b139 := Nat.ne_of_lt (Nat.lt_of_lt_of_le lt_w_NAME (Nat.le_trans O0.2.1 zb139))
          have ne_w_END_b139 : w_END ≠ b139 := Nat.ne_of_lt (Nat.lt_of_lt_of_le lt_w_END (Nat.le_trans O0.2.1 zb139))
          have ne_w_STRING_b139 : w_STRING ≠ b139 := Nat.ne_of_lt (Nat.lt_of_lt_of_le lt_w_STRING (Nat.le_trans O0.2.1 zb139))
          have g_b139 : n0 ≤ b139 := Nat.le_trans (O0.1 ▸ O0.2.1) zb139
          have sn_b139 : Safe Z EL s.vm h0 b139 := Safe.new zb139
          have ne_w_NUMBER_tt139 : w_NUMBER ≠ tt139 := Nat.ne_of_lt (Nat.lt_of_lt_of_le lt_w_NUMBER (Nat.le_trans O0.2.1 zq139))
          have ne_w_SYMBOL_tt139 : w_SYMBOL ≠ tt139 := Nat.ne_of_lt (Nat.lt_of_lt_of_le lt_w_SYMBOL (Nat.le_trans O0.2.1 zq139))
          have ne_w_NAME_tt139 : w_NAME ≠ tt139 := Nat.ne_of_lt (Nat.lt_of_lt_of_le lt_w_NAME (Nat.le_trans O0.2.1 zq139))
          have ne_w_END_tt139 : w_END ≠ tt139 := Nat.ne_of_lt (Nat.lt_of_lt_of_le lt_w_END (Nat.le_trans O0.2.1 zq139))
          have ne_w_STRING_tt139 : w_STRING ≠ tt139 := Nat.ne_of_lt (Nat.lt_of_lt_of_le lt_w_STRING (Nat.le_trans O0.2.1 zq139))
          have g_tt139 : n0 ≤ tt139 := Nat.le_trans (O0.1 ▸ O0.2.1) zq139
          have sn_tt139 : Safe Z EL s.vm h0 tt139 := Safe.new zq139
          have O139 : Old Z n0 T139.heap := O0.keep kq139 all0
          have CR139 : CHr Z EL s.vm h0 s.vm T139.heap := CR0.trans (CHr.keep kq139 sf0 CR0.1)
          have lt_b139 := eq139.lt
          have lt_tt139 := vq139.lt
          refine Go.st (f' := (mkF m 129 #[iv p1, iv p2, iv p3, iv p4, rv kd, iv 2, iv yy3, iv yy4, iv 0, iv z9, iv z10, iv 0, .unset, .unset, .unset, .unset] [(.ref b139)])) (fun _ k => st139 _ k) ?_
          refine Go.st (f' := (mkF m 131 #[iv p1, iv p2, iv p3, iv p4, rv kd, iv 2, iv yy3, iv yy4, iv 0, iv z9, iv z10, iv 0, rv b139, .unset, .unset, .unset] [])) (fun _ k => XS.astore X139.here hx rfl (hb hby at_129) rfl rfl (l' := #[iv p1, iv p2, iv p3, iv p4, rv kd, iv 2, iv yy3, iv yy4, iv 0, iv z9, iv z10, iv 0, rv b139, .unset, .unset, .unset]) rfl k) ?_
          refine Go.st (f' := (mkF m 133 #[iv p1, iv p2, iv p3, iv p4, rv kd, iv 2, iv yy3, iv yy4, iv 0, iv z9, iv z10, iv 0, rv b139, .unset, .unset, .unset] [(.int 0)])) (fun _ k => XS.iload X139.here hx rfl (hb hby at_131) rfl k) ?_
          refine Go.st (f' := (mkF m 140 #[iv p1, iv p2, iv p3, iv p4, rv kd, iv 2, iv yy3, iv yy4, iv 0, iv z9, iv z10, iv 0, rv b139, .unset, .unset, .unset] [])) (fun _ k => XS.ifYes X139.here hx rfl (pc0 := 133) (pc' := 140) rfl (hb hby at_133) rfl (by decide) (by decide) (by decide) k) ?_
          refine Go.st (f' := (mkF m 142 #[iv p1, iv p2, iv p3, iv p4, rv kd, iv 2, iv yy3, iv yy4, iv 0, iv z9, iv z10, iv 0, rv b139, .unset, .unset, .unset] [(.int 0)])) (fun _ k => XS.iload X139.here hx rfl (hb hby at_140) rfl k) ?_
          refine Go.st (f' := (mkF m 144 #[iv p1, iv p2, iv p3, iv p4, rv kd, iv 2, iv yy3, iv yy4, iv 0, iv z9, iv z10, iv 0, rv b139, .unset, .unset, .unset] [(.int z9), (.int 0)])) (fun _ k => XS.iload X139.here hx rfl (hb hby at_142) rfl k) ?_
          refine Go.st (f' := (mkF m 146 #[iv p1, iv p2, iv p3, iv p4, rv kd, iv 2, iv yy3, iv yy4, iv 0, iv z9, iv z10, iv 0, rv b139, .unset, .unset, .unset] [(.int z10), (.int z9), (.int 0)])) (fun _ k => XS.iload X139.here hx rfl (hb hby at_144) rfl k) ?_
          obtain ⟨_, _, ⟨T140, L140, kk140, nn140⟩, -, Xw140, hSw140, hgw140, ⟨Lc140, hQ140, lq140, yq140, zz140, crw140⟩, st140⟩ := callSS X139 hx (y := (⟨"com/example/naysay/naysay/rules/TokenIsSymbolPinLaw", "mk", "(ICC)Ljava/lang/String;"⟩ : MethodName)) hown (mvT hZ (hw _ (List.mem_of_getElem? (i := 8) rfl))) (mvT hZ (hw _ (List.mem_of_getElem? (i := 9) rfl))) (mvT hZ (hw _ (List.mem_of_getElem? (i := 2) rfl))) (mvT hZ (hw _ (List.mem_of_getElem? (i := 10) rfl))) (by decide) (own_backW (W := 0) (rmM_0 l Z a0 hw [] z9 z10 w_NUMBER w_SYMBOL w_NAME w_END w_STRING i_COMPACT_STRINGS v_SIOOBE_FORMATTER T139.heap n0 O139 hz9.1 hz10.1 hz9.2 hz10.2 WW) hZ (hw _ (List.mem_of_getElem? (i := 10) rfl)) (hw _ (List.mem_of_getElem? (i := 2) rfl)) (by decide) (by decide) hEL CR139.1) (g := (mkF m 146 #[iv p1, iv p2, iv p3, iv p4, rv kd, iv 2, iv yy3, iv yy4, iv 0, iv z9, iv z10, iv 0, rv b139, .unset, .unset, .unset] [(.int z10), (.int z9), (.int 0)])) rfl (by rw [hml]; rfl) (argsL := [(.int (0 : Int32)), (.int z9), (.int z10)]) (rest := []) (lenOf pd__ICC_Ljava_lang_String_ rfl) rfl (by show 2 * 0 + _ ≤ _; exact Nat.le_of_eq rfl) (hb hby at_146) (fun _ _ => ⟨rfl, rfl, (by decide : 3 + 6 ≤ _), (by decide : 8 + 12 ≤ _)⟩)
          dsimp only [Pt.U, Pt.locs, Pt.cells, Pt.slots] at Xw140 lq140 yq140 zz140 st140 hQ140 hSw140 hgw140 crw140
          subst lq140 yq140 zz140
          obtain ⟨X140, hS140, hZ140, hown140⟩ := rebS hS (Nat.zero_le _) Xw140 hSw140 hgw140 hZ hown
          obtain ⟨b140, rfl, Nq140, zb140, kq140, eq140, cq140, tt140, kt140, fq140, vq140⟩ := hQ140
          have N140 := Fr.app N139 Nq140
          have ft141 := (Safe.keep kq139 sf0 CR0.1 sn_b139)
          have ft142 := (Safe.keep kq139 sf0 CR0.1 sn_tt139)
          have ne_b139_b140 : b139 ≠ b140 := Nat.ne_of_lt (Nat.lt_of_lt_of_le lt_b139 zb140)
          have ne_tt139_b140 : tt139 ≠ b140 := Nat.ne_of_lt (Nat.lt_of_lt_of_le lt_tt139 zb140)
          have ne_w_NUMBER_b140 : w_NUMBER ≠ b140 := Nat.ne_of_lt (Nat.lt_of_lt_of_le lt_w_NUMBER (Nat.le_trans O139.2.1 zb140))
          have ne_w_SYMBOL_b140 : w_SYMBOL ≠ b140 := Nat.ne_of_lt (Nat.lt_of_lt_of_le lt_w_SYMBOL (Nat.le_trans O139.2.1 zb140))
          have ne_w_NAME_b140 : w_NAME ≠ b140 := Nat.ne_of_lt (Nat.lt_of_lt_of_le lt_w_NAME (Nat.le_trans O139.2.1 zb140))
          have ne_w_END_b140 : w_END ≠ b140 := Nat.ne_of_lt (Nat.lt_of_lt_of_le lt_w_END (Nat.le_trans O139.2.1 zb140))
          have ne_w_STRING_b140 : w_STRING ≠ b140 := Nat.ne_of_lt (Nat.lt_of_lt_of_le lt_w_STRING (Nat.le_trans O139.2.1 zb140))
          have g_b140 : n0 ≤ b140 := Nat.le_trans (O139.1 ▸ O139.2.1) zb140
          have O140 : Old Z n0 T140.heap := O139.keep kq140 all0
          have lt_b140 := eq140.lt
          have lt_tt140 := vq140.lt
          have ft143 := (eq139.keep kq140)
          have nt_b139_tt140 : b139 ≠ tt140 := Exa.neArv ft143 vq140 (hw _ (List.mem_of_getElem? (i := 12) rfl))
          have nt_b140_tt140 : b140 ≠ tt140 := Exa.neArv eq140 vq140 (hw _ (List.mem_of_getElem? (i := 12) rfl))
          have hk140 : T140.heap.size ≤ T140.heap.size := Nat.le_refl _
          have sf144 := crw140.safe lt_b139 ft141
          have sf145 := crw140.safe lt_tt139 ft142
          have CR140 := CR139.trans crw140
          refine Go.tr (f' := (mkF m 149 #[iv p1, iv p2, iv p3, iv p4, rv kd, iv 2, iv yy3, iv yy4, iv 0, iv z9, iv z10, iv 0, rv b139, .unset, .unset, .unset] [(.ref b140)])) st140 ?_
          refine Go.st (f' := (mkF m 151 #[iv p1, iv p2, iv p3, iv p4, rv kd, iv 2, iv yy3, iv yy4, iv 0, iv z9, iv z10, iv 0, rv b139, rv b140, .unset, .unset] [])) (fun _ k => XS.astore X140.here hx rfl (hb hby at_149) rfl rfl (l' := #[iv p1, iv p2, iv p3, iv p4, rv kd, iv 2, iv yy3, iv yy4, iv 0, iv z9, iv z10, iv 0, rv b139, rv b140, .unset, .unset]) rfl k) ?_
          refine Go.st (f' := (mkF m 153 #[iv p1, iv p2, iv p3, iv p4, rv kd, iv 2, iv yy3, iv yy4, iv 0, iv z9, iv z10, iv 0, rv b139, rv b140, .unset, .unset] [(.ref kd)])) (fun _ k => XS.aload X140.here hx rfl (hb hby at_151) rfl rfl k) ?_
          obtain ⟨T146, X146, e146, st146⟩ := getS2 X140 hx hZ140 hown140 (host := "") (Or.inl (hw _ (List.mem_of_getElem? (i := 44) rfl))) Via.refl rfl (S_w_SYMBOL.ext O140.2) (g := (mkF m 153 #[iv p1, iv p2, iv p3, iv p4, rv kd, iv 2, iv yy3, iv yy4, iv 0, iv z9, iv z10, iv 0, rv b139, rv b140, .unset, .unset] [(.ref kd)])) rfl (hb hby at_153)
          refine Go.st (f' := (mkF m 156 #[iv p1, iv p2, iv p3, iv p4, rv kd, iv 2, iv yy3, iv yy4, iv 0, iv z9, iv z10, iv 0, rv b139, rv b140, .unset, .unset] [(.ref w_SYMBOL), (.ref kd)])) (fun _ k => st146 _ k) ?_
          have J2 : ∀ (z14 : Int32), (z14 = (syI_2_0 kd w_SYMBOL (nar .byte ((nar .char yy3).toInt8.toInt32)) (nar .byte ((nar .char yy4).toInt8.toInt32)))) → Go p e below (DoneW s Z EL (QL n0) room_1.cells room_1.slots) T146 (mkF m 232 #[iv p1, iv p2, iv p3, iv p4, rv kd, iv 2, iv yy3, iv yy4, iv 0, iv z9, iv z10, iv 0, rv b139, rv b140, iv z14, .unset] []) := by
            intro z14 hz14
            obtain ⟨T147, h147, X147, e147, E147, A147, D147, -, st147⟩ := newO X146 hx hZ140 hown140 (hw _ (List.mem_of_getElem? (i := 46) rfl)) (hw _ (List.mem_of_getElem? (i := 47) rfl)) (hw _ (List.mem_of_getElem? (i := 48) rfl)) e146 (g := (mkF m 232 #[iv p1, iv p2, iv p3, iv p4, rv kd, iv 2, iv yy3, iv yy4, iv 0, iv z9, iv z10, iv 0, rv b139, rv b140, iv z14, .unset] [])) rfl (hb hby at_232) (by decide) (by decide)
            obtain ⟨b147, g147⟩ : ∃ z, z = T140.heap.size := ⟨_, rfl⟩
            rw [← g147] at A147 D147 st147
            have ft148 := (Nat.lt_of_lt_of_le lt_b139 kq140.1)
            have ne_b139_b147 : b139 ≠ b147 := Nat.ne_of_lt (Nat.lt_of_lt_of_eq ft148 g147.symm)
            have ft149 := (Nat.lt_of_lt_of_le lt_tt139 kq140.1)
            have ne_tt139_b147 : tt139 ≠ b147 := Nat.ne_of_lt (Nat.lt_of_lt_of_eq ft149 g147.symm)
            have ne_b140_b147 : b140 ≠ b147 := Nat.ne_of_lt (Nat.lt_of_lt_of_eq lt_b140 g147.symm)
            have ne_tt140_b147 : tt140 ≠ b147 := Nat.ne_of_lt (Nat.lt_of_lt_of_eq lt_tt140 g147.symm)
            have ne_w_NUMBER_b147 : w_NUMBER ≠ b147 := Nat.ne_of_lt (Nat.lt_of_lt_of_le lt_w_NUMBER (Nat.le_trans O140.2.1 (Nat.le_of_eq g147.symm)))
            have ne_w_SYMBOL_b147 : w_SYMBOL ≠ b147 := Nat.ne_of_lt (Nat.lt_of_lt_of_le lt_w_SYMBOL (Nat.le_trans O140.2.1 (Nat.le_of_eq g147.symm)))
            have ne_w_NAME_b147 : w_NAME ≠ b147 := Nat.ne_of_lt (Nat.lt_of_lt_of_le lt_w_NAME (Nat.le_trans O140.2.1 (Nat.le_of_eq g147.symm)))
            have ne_w_END_b147 : w_END ≠ b147 := Nat.ne_of_lt (Nat.lt_of_lt_of_le lt_w_END (Nat.le_trans O140.2.1 (Nat.le_of_eq g147.symm)))
            have ne_w_STRING_b147 : w_STRING ≠ b147 := Nat.ne_of_lt (Nat.lt_of_lt_of_le lt_w_STRING (Nat.le_trans O140.2.1 (Nat.le_of_eq g147.symm)))
            have g_b147 : n0 ≤ b147 := Nat.le_trans (O140.1 ▸ O140.2.1) (Nat.le_of_eq g147.symm)
            have O147 : Old Z n0 h147 := O140.ext E147
            have CR147 : CHr Z EL s.vm h0 T140.vm h147 := CR140.trans (CHr.ext E147 CR140.1)
            have sf_b147 : Safe Z EL T140.vm h147 b147 := (Safe.new (Nat.le_of_eq g147.symm)).ext E147 CR140.1
            have lt_b147 := A147.lt
            have F_kind_b147 : Fld Z h147 b147 "com/example/naysay/naysay/rules/Token" "kind" "Lcom/example/naysay/naysay/rules/Token$Kind;" .null := D147 (Or.inr (hw _ (List.mem_of_getElem? (i := 59) rfl))) (ty := (.object "com/example/naysay/naysay/rules/Token$Kind")) (by decide)
            have F_text_b147 : Fld Z h147 b147 "com/example/naysay/naysay/rules/Token" "text" "Ljava/lang/String;" .null := D147 (Or.inr (hw _ (List.mem_of_getElem? (i := 61) rfl))) (ty := (.object "java/lang/String")) (by decide)
            have F_column_b147 : Fld Z h147 b147 "com/example/naysay/naysay/rules/Token" "column" "I" (.int (0 : Int32)) := D147 (Or.inr (hw _ (List.mem_of_getElem? (i := 63) rfl))) (ty := .int) (by decide)
            refine Go.st (f' := (mkF m 235 #[iv p1, iv p2, iv p3, iv p4, rv kd, iv 2, iv yy3, iv yy4, iv 0, iv z9, iv z10, iv 0, rv b139, rv b140, iv z14, .unset] [(.ref b147)])) (fun _ k => st147 _ k) ?_
            refine Go.st (f' := (mkF m 236 #[iv p1, iv p2, iv p3, iv p4, rv kd, iv 2, iv yy3, iv yy4, iv 0, iv z9, iv z10, iv 0, rv b139, rv b140, iv z14, .unset] [(.ref b147), (.ref b147)])) (fun _ k => XS.dup X147.here hx rfl (hb hby at_235) rfl rfl k) ?_
            refine Go.st (f' := (mkF m 238 #[iv p1, iv p2, iv p3, iv p4, rv kd, iv 2, iv yy3, iv yy4, iv 0, iv z9, iv z10, iv 0, rv b139, rv b140, iv z14, .unset] [(.ref kd), (.ref b147), (.ref b147)])) (fun _ k => XS.aload X147.here hx rfl (hb hby at_236) rfl rfl k) ?_
            refine Go.st (f' := (mkF m 240 #[iv p1, iv p2, iv p3, iv p4, rv kd, iv 2, iv yy3, iv yy4, iv 0, iv z9, iv z10, iv 0, rv b139, rv b140, iv z14, .unset] [(.ref b139), (.ref kd), (.ref b147), (.ref b147)])) (fun _ k => XS.aload X147.here hx rfl (hb hby at_238) rfl rfl k) ?_
            refine Go.st (f' := (mkF m 241 #[iv p1, iv p2, iv p3, iv p4, rv kd, iv 2, iv yy3, iv yy4, iv 0, iv z9, iv z10, iv 0, rv b139, rv b140, iv z14, .unset] [(.int p4), (.ref b139), (.ref kd), (.ref b147), (.ref b147)])) (fun _ k => XS.iloadN X147.here hx rfl (hb hby at_240) rfl k) ?_
            obtain ⟨_, _, ⟨T150, L150, kk150, nn150⟩, -, X150, ⟨Lc150, hQ150, lq150, yq150, zz150⟩, st150⟩ := X147.specialBack hx (y := (⟨"com/example/naysay/naysay/rules/Token", "<init>", "(Lcom/example/naysay/naysay/rules/Token$Kind;Ljava/lang/String;I)V"⟩ : MethodName)) rfl hown140 (mvT hZ140 (hw _ (List.mem_of_getElem? (i := 49) rfl))) (mvT hZ140 (hw _ (List.mem_of_getElem? (i := 50) rfl))) (mvT hZ140 (hw _ (List.mem_of_getElem? (i := 51) rfl))) (by decide) (own_back (W := 1) (rmT l Z a0 hw [] b147 kd b139 p4 h147 n0 O147 g_b147 A147 F_kind_b147 F_text_b147 F_column_b147 ) hZ140 (hw _ (List.mem_of_getElem? (i := 51) rfl)) (hw _ (List.mem_of_getElem? (i := 48) rfl)) (by decide) (by decide)) (g := (mkF m 241 #[iv p1, iv p2, iv p3, iv p4, rv kd, iv 2, iv yy3, iv yy4, iv 0, iv z9, iv z10, iv 0, rv b139, rv b140, iv z14, .unset] [(.int p4), (.ref b139), (.ref kd), (.ref b147), (.ref b147)])) rfl (by rw [hml]; rfl) (Steps.refl _) (a := b147) (argsL := [(.ref kd), (.ref b139), (.int p4)]) (rest := [(.ref b147)]) (lenOf pd__Lcom_example_naysay_naysay_rules_Token_Kind_Ljava_lang_String_I_V rfl) rfl (by show 2 * 0 + _ ≤ _; exact Nat.le_of_eq rfl) (hb hby at_241) (fun _ _ => ⟨rfl, e147, (by decide : 10 + 0 ≤ _), (by decide : 23 + 0 ≤ _)⟩)
            dsimp only [Pt.U, Pt.locs, Pt.cells, Pt.slots] at X150 lq150 yq150 zz150 st150 hQ150
            subst lq150 yq150 zz150
            obtain ⟨rfl, Nq150, kq150, eq150, fq150_0, fq150_1, fq150_2⟩ := hQ150
            have N150 := Fr.app N140 Nq150
            have O150 : Old Z n0 T150.heap := O147.keep kq150 (allS g_b147 all0)
            have CR150 : CHr Z EL s.vm h0 T140.vm T150.heap := CR147.trans (CHr.keep kq150 (sfS sf_b147 sf0) CR147.1)
            refine Go.tr (f' := (mkF m 244 #[iv p1, iv p2, iv p3, iv p4, rv kd, iv 2, iv yy3, iv yy4, iv 0, iv z9, iv z10, iv 0, rv b139, rv b140, iv z14, .unset] [(.ref b147)])) st150 ?_
            refine Go.st (f' := (mkF m 246 #[iv p1, iv p2, iv p3, iv p4, rv kd, iv 2, iv yy3, iv yy4, iv 0, iv z9, iv z10, iv 0, rv b139, rv b140, iv z14, rv b147] [])) (fun _ k => XS.astore X150.here hx rfl (hb hby at_244) rfl rfl (l' := #[iv p1, iv p2, iv p3, iv p4, rv kd, iv 2, iv yy3, iv yy4, iv 0, iv z9, iv z10, iv 0, rv b139, rv b140, iv z14, rv b147]) rfl k) ?_
            refine Go.st (f' := (mkF m 248 #[iv p1, iv p2, iv p3, iv p4, rv kd, iv 2, iv yy3, iv yy4, iv 0, iv z9, iv z10, iv 0, rv b139, rv b140, iv z14, rv b147] [(.ref b147)])) (fun _ k => XS.aload X150.here hx rfl (hb hby at_246) rfl rfl k) ?_
            refine Go.st (f' := (mkF m 250 #[iv p1, iv p2, iv p3, iv p4, rv kd, iv 2, iv yy3, iv yy4, iv 0, iv z9, iv z10, iv 0, rv b139, rv b140, iv z14, rv b147] [(.ref b140), (.ref b147)])) (fun _ k => XS.aload X150.here hx rfl (hb hby at_248) rfl rfl k) ?_
            have ft152 := ((ft143.ext E147).keep kq150)
            have ft153 := (((cq139.keep kq140 nin0).ext E147).keep kq150 (ninS ne_b139_b147 nin0))
            have ft154 := (((fq139.keep kq140 nin0).ext E147).keep kq150 (ninS ne_b139_b147 nin0))
            have ft155 := (((vq139.keep kq140 nin0).ext E147).keep kq150 (ninS ne_tt139_b147 nin0))
            have ft156 := ((eq140.ext E147).keep kq150)
            have ft157 := ((cq140.ext E147).keep kq150 (ninS ne_b140_b147 nin0))
            have ft158 := ((fq140.ext E147).keep kq150 (ninS ne_b140_b147 nin0))
            have ft159 := ((vq140.ext E147).keep kq150 (ninS ne_tt140_b147 nin0))
            obtain ⟨cq151, kq151, q151a, q151b, q151c⟩ := isOf hZ140 rfl eq150
            obtain ⟨_, _, ⟨T151, L151, kk151, nn151⟩, -, X151, ⟨Lc151, hQ151, lq151, yq151, zz151⟩, st151⟩ := X150.virtualBack hx (y := (⟨"com/example/naysay/naysay/rules/Token", "isSymbol", "(Ljava/lang/String;)Z"⟩ : MethodName)) (z := (⟨"com/example/naysay/naysay/rules/Token", "isSymbol", "(Ljava/lang/String;)Z"⟩ : MethodName)) hown140 (mvT hZ140 (hw _ (List.mem_of_getElem? (i := 64) rfl))) (mvT hZ140 (hw _ (List.mem_of_getElem? (i := 65) rfl))) (notFace_of_selects (args := #[]) (mvT hZ140 (hw _ (List.mem_of_getElem? (i := 67) rfl)))) (mvT hZ140 (hw _ (List.mem_of_getElem? (i := 67) rfl))) (mvT hZ140 (hw _ (List.mem_of_getElem? (i := 66) rfl))) (by decide) (own_back (W := 0) (rmS_2_0 l Z a0 hw [] b147 kd b139 tt139 kt139 b140 tt140 kt140 (nar .byte ((nar .char yy3).toInt8.toInt32)) (nar .byte ((nar .char yy4).toInt8.toInt32)) w_NUMBER w_SYMBOL w_NAME w_END w_STRING i_COMPACT_STRINGS v_SIOOBE_FORMATTER T150.heap n0 O150 eq150 fq150_0 fq150_1 ft152 ft153 ft154 ft155 ne_b139_b140 ft156 ft157 ft158 ft159 WW) hZ140 (hw _ (List.mem_of_getElem? (i := 68) rfl)) (hw _ (List.mem_of_getElem? (i := 48) rfl)) (by decide) (by decide)) q151a q151c (g := (mkF m 250 #[iv p1, iv p2, iv p3, iv p4, rv kd, iv 2, iv yy3, iv yy4, iv 0, iv z9, iv z10, iv 0, rv b139, rv b140, iv z14, rv b147] [(.ref b140), (.ref b147)])) rfl (by rw [hml]; rfl) (Steps.refl _) (argsL := [(.ref b140)]) (rest := []) (lenOf pd__Ljava_lang_String__Z rfl) rfl (by show 2 * 0 + _ ≤ _; exact Nat.le_of_eq rfl) (hb hby at_250) (fun _ _ => ⟨rfl, rfl, (by decide : 10 + 0 ≤ _), (by decide : 23 + 0 ≤ _)⟩)
            dsimp only [Pt.U, Pt.locs, Pt.cells, Pt.slots] at X151 lq151 yq151 zz151 st151 hQ151
            subst lq151 yq151 zz151
            obtain ⟨rfl, Nq151, kq151⟩ := hQ151
            have N151 := Fr.app N150 Nq151
            refine Go.tr (f' := (mkF m 253 #[iv p1, iv p2, iv p3, iv p4, rv kd, iv 2, iv yy3, iv yy4, iv 0, iv z9, iv z10, iv 0, rv b139, rv b140, iv z14, rv b147] [(.int (syI_2_0 kd w_SYMBOL (nar .byte ((nar .char yy3).toInt8.toInt32)) (nar .byte ((nar .char yy4).toInt8.toInt32))))])) st151 ?_
            refine Go.st (f' := (mkF m 255 #[iv p1, iv p2, iv p3, iv p4, rv kd, iv 2, iv yy3, iv yy4, iv 0, iv z9, iv z10, iv 0, rv b139, rv b140, iv z14, rv b147] [(.int z14), (.int (syI_2_0 kd w_SYMBOL (nar .byte ((nar .char yy3).toInt8.toInt32)) (nar .byte ((nar .char yy4).toInt8.toInt32))))])) (fun _ k => XS.iload X151.here hx rfl (hb hby at_253) rfl k) ?_
            refine Go.st (f' := (mkF m 258 #[iv p1, iv p2, iv p3, iv p4, rv kd, iv 2, iv yy3, iv yy4, iv 0, iv z9, iv z10, iv 0, rv b139, rv b140, iv z14, rv b147] [])) (fun _ k => XS.icmpNo X151.here hx rfl (hb hby at_255) rfl (teq hz14.symm).2 k) ?_
            refine Go.st (f' := (mkF m 259 #[iv p1, iv p2, iv p3, iv p4, rv kd, iv 2, iv yy3, iv yy4, iv 0, iv z9, iv z10, iv 0, rv b139, rv b140, iv z14, rv b147] [(.int 1)])) (fun _ k => XS.iconst X151.here hx rfl (hb hby at_258) k) ?_
            refine Go.st (f' := (mkF m 263 #[iv p1, iv p2, iv p3, iv p4, rv kd, iv 2, iv yy3, iv yy4, iv 0, iv z9, iv z10, iv 0, rv b139, rv b140, iv z14, rv b147] [(.int 1)])) (fun _ k => XS.goto X151.here hx rfl (pc0 := 259) (pc' := 263) rfl (hb hby at_259) (by decide) (by decide) k) ?_
            have ft160 := (Nat.le_trans (Nat.le_trans hk140 E147.1) kq150.1)
            refine GoW.retB X151 hlk hx (t := .boolean) hret (by simp) (hb hby at_263) kq151 hS140 ft160 hZ140 hEL CR150 hh ?_ (by decide) (by decide)
            exact ⟨rfl, N151⟩
          by_cases cd161 : kd = w_SYMBOL
          · refine Go.st (f' := (mkF m 159 #[iv p1, iv p2, iv p3, iv p4, rv kd, iv 2, iv yy3, iv yy4, iv 0, iv z9, iv z10, iv 0, rv b139, rv b140, .unset, .unset] [])) (fun _ k => Jvm.RoadKit.acmp (g := (mkF m 156 #[iv p1, iv p2, iv p3, iv p4, rv kd, iv 2, iv yy3, iv yy4, iv 0, iv z9, iv z10, iv 0, rv b139, rv b140, .unset, .unset] [(.ref w_SYMBOL), (.ref kd)])) X146 hx rfl rfl rfl (pc0 := 156) (pc' := 159) (same := true) rfl (hb hby at_156) rfl (decide_eq_true (congrArg Value.ref cd161)) (by decide) (by decide) k) ?_
            refine Go.st (f' := (mkF m 161 #[iv p1, iv p2, iv p3, iv p4, rv kd, iv 2, iv yy3, iv yy4, iv 0, iv z9, iv z10, iv 0, rv b139, rv b140, .unset, .unset] [(.int 0)])) (fun _ k => XS.iload X146.here hx rfl (hb hby at_159) rfl k) ?_
            refine Go.st (f' := (mkF m 164 #[iv p1, iv p2, iv p3, iv p4, rv kd, iv 2, iv yy3, iv yy4, iv 0, iv z9, iv z10, iv 0, rv b139, rv b140, .unset, .unset] [])) (fun _ k => XS.ifNo X146.here hx rfl (hb hby at_161) rfl (by decide) k) ?_
            refine Go.st (f' := (mkF m 166 #[iv p1, iv p2, iv p3, iv p4, rv kd, iv 2, iv yy3, iv yy4, iv 0, iv z9, iv z10, iv 0, rv b139, rv b140, .unset, .unset] [(.int 2)])) (fun _ k => XS.iload X146.here hx rfl (hb hby at_164) rfl k) ?_
            refine Go.st (f' := (mkF m 168 #[iv p1, iv p2, iv p3, iv p4, rv kd, iv 2, iv yy3, iv yy4, iv 0, iv z9, iv z10, iv 0, rv b139, rv b140, .unset, .unset] [(.int 0), (.int 2)])) (fun _ k => XS.iload X146.here hx rfl (hb hby at_166) rfl k) ?_
            refine Go.st (f' := (mkF m 171 #[iv p1, iv p2, iv p3, iv p4, rv kd, iv 2, iv yy3, iv yy4, iv 0, iv z9, iv z10, iv 0, rv b139, rv b140, .unset, .unset] [])) (fun _ k => XS.icmpNo X146.here hx rfl (hb hby at_168) rfl (by decide) k) ?_
            refine Go.st (f' := (mkF m 172 #[iv p1, iv p2, iv p3, iv p4, rv kd, iv 2, iv yy3, iv yy4, iv 0, iv z9, iv z10, iv 0, rv b139, rv b140, .unset, .unset] [(.int 0)])) (fun _ k => XS.iconst X146.here hx rfl (hb hby at_171) k) ?_
            refine Go.st (f' := (mkF m 174 #[iv p1, iv p2, iv p3, iv p4, rv kd, iv 2, iv yy3, iv yy4, iv 0, iv z9, iv z10, iv 0, rv b139, rv b140, iv 0, .unset] [])) (fun _ k => XS.istore X146.here hx rfl (hb hby at_172) rfl (l' := #[iv p1, iv p2, iv p3, iv p4, rv kd, iv 2, iv yy3, iv yy4, iv 0, iv z9, iv z10, iv 0, rv b139, rv b140, iv 0, .unset]) rfl k) ?_
            refine Go.st (f' := (mkF m 232 #[iv p1, iv p2, iv p3, iv p4, rv kd, iv 2, iv yy3, iv yy4, iv 0, iv z9, iv z10, iv 0, rv b139, rv b140, iv 0, .unset] [])) (fun _ k => XS.goto X146.here hx rfl (pc0 := 174) (pc' := 232) rfl (hb hby at_174) (by decide) (by decide) k) ?_
            exact J2 (0 : Int32) (by rw [syI_2_0, if_pos cd161] <;> rfl)
          · refine Go.st (f' := (mkF m 171 #[iv p1, iv p2, iv p3, iv p4, rv kd, iv 2, iv yy3, iv yy4, iv 0, iv z9, iv z10, iv 0, rv b139, rv b140, .unset, .unset] [])) (fun _ k => Jvm.RoadKit.acmp (g := (mkF m 156 #[iv p1, iv p2, iv p3, iv p4, rv kd, iv 2, iv yy3, iv yy4, iv 0, iv z9, iv z10, iv 0, rv b139, rv b140, .unset, .unset] [(.ref w_SYMBOL), (.ref kd)])) X146 hx rfl rfl rfl (pc0 := 156) (pc' := 171) (same := false) rfl (hb hby at_156) rfl (decide_eq_false fun q => cd161 (Value.ref.inj q)) (by decide) (by decide) k) ?_
            refine Go.st (f' := (mkF m 172 #[iv p1, iv p2, iv p3, iv p4, rv kd, iv 2, iv yy3, iv yy4, iv 0, iv z9, iv z10, iv 0, rv b139, rv b140, .unset, .unset] [(.int 0)])) (fun _ k => XS.iconst X146.here hx rfl (hb hby at_171) k) ?_
            refine Go.st (f' := (mkF m 174 #[iv p1, iv p2, iv p3, iv p4, rv kd, iv 2, iv yy3, iv yy4, iv 0, iv z9, iv z10, iv 0, rv b139, rv b140, iv 0, .unset] [])) (fun _ k => XS.istore X146.here hx rfl (hb hby at_172) rfl (l' := #[iv p1, iv p2, iv p3, iv p4, rv kd, iv 2, iv yy3, iv yy4, iv 0, iv z9, iv z10, iv 0, rv b139, rv b140, iv 0, .unset]) rfl k) ?_
            refine Go.st (f' := (mkF m 232 #[iv p1, iv p2, iv p3, iv p4, rv kd, iv 2, iv yy3, iv yy4, iv 0, iv z9, iv z10, iv 0, rv b139, rv b140, iv 0, .unset] [])) (fun _ k => XS.goto X146.here hx rfl (pc0 := 174) (pc' := 232) rfl (hb hby at_174) (by decide) (by decide) k) ?_
            exact J2 (0 : Int32) (by rw [syI_2_0, if_neg cd161])
        · refine Go.st (f' := (mkF m 122 #[iv p1, iv p2, iv p3, iv p4, rv kd, iv 2, iv yy3, iv yy4, iv 1, iv z9, iv z10, iv 0, .unset, .unset, .unset, .unset] [(.int 2)])) (fun _ k => XS.iload X1.here hx rfl (hb hby at_120) rfl k) ?_
          refine Go.st (f' := (mkF m 124 #[iv p1, iv p2, iv p3, iv p4, rv kd, iv 2, iv yy3, iv yy4, iv 1, iv z9, iv z10, iv 0, .unset, .unset, .unset, .unset] [(.int yy3), (.int 2)])) (fun _ k => XS.iload X1.here hx rfl (hb hby at_122) rfl k) ?_
          refine Go.st (f' := (mkF m 126 #[iv p1, iv p2, iv p3, iv p4, rv kd, iv 2, iv yy3, iv yy4, iv 1, iv z9, iv z10, iv 0, .unset, .unset, .unset, .unset] [(.int yy4), (.int yy3), (.int 2)])) (fun _ k => XS.iload X1.here hx rfl (hb hby at_124) rfl k) ?_
          obtain ⟨_, _, ⟨T162, L162, kk162, nn162⟩, -, X162, ⟨Lc162, hQ162, lq162, yq162, zz162⟩, st162⟩ := Jvm.LawKit.callS X1 hx (y := (⟨"com/example/naysay/naysay/rules/TokenIsSymbolPinLaw", "mk", "(ICC)Ljava/lang/String;"⟩ : MethodName)) hown (mvT hZ (hw _ (List.mem_of_getElem? (i := 8) rfl))) (mvT hZ (hw _ (List.mem_of_getElem? (i := 9) rfl))) (mvT hZ (hw _ (List.mem_of_getElem? (i := 2) rfl))) (mvT hZ (hw _ (List.mem_of_getElem? (i := 10) rfl))) (by decide) (own_back (W := 0) (rmM_2 l Z a0 hw [] yy3 yy4 w_NUMBER w_SYMBOL w_NAME w_END w_STRING i_COMPACT_STRINGS v_SIOOBE_FORMATTER h0 n0 O0 (hyy3 ▸ own_b _).1 (hyy4 ▸ own_b _).1 (hyy3 ▸ own_b _).2 (hyy4 ▸ own_b _).2 WW) hZ (hw _ (List.mem_of_getElem? (i := 10) rfl)) (hw _ (List.mem_of_getElem? (i := 2) rfl)) (by decide) (by decide)) (g := (mkF m 126 #[iv p1, iv p2, iv p3, iv p4, rv kd, iv 2, iv yy3, iv yy4, iv 1, iv z9, iv z10, iv 0, .unset, .unset, .unset, .unset] [(.int yy4), (.int yy3), (.int 2)])) rfl (by rw [hml]; rfl) (argsL := [(.int (2 : Int32)), (.int yy3), (.int yy4)]) (rest := []) (lenOf pd__ICC_Ljava_lang_String_ rfl) rfl (by show 2 * 0 + _ ≤ _; exact Nat.le_of_eq rfl) (hb hby at_126) (fun _ _ => ⟨rfl, kq1, (by decide : 0 + 3 ≤ _), (by decide : 0 + 8 ≤ _)⟩)
          dsimp only [Pt.U, Pt.locs, Pt.cells, Pt.slots] at X162 lq162 yq162 zz162 st162 hQ162
          subst lq162 yq162 zz162
          obtain ⟨b162, rfl, Nq162, zb162, kq162, eq162, cq162, tt162, kt162, zq162, fq162, vq162⟩ := hQ162
          have N162 := Fr.app N1 Nq162
          have ne_w_NUMBER_b162 : w_NUMBER ≠ b162 := Nat.ne_of_lt (Nat.lt_of_lt_of_le lt_w_NUMBER (Nat.le_trans O0.2.1 zb162))
          have ne_w_SYMBOL_b162 : w_SYMBOL ≠ b162 := Nat.ne_of_lt (Nat.lt_of_lt_of_le lt_w_SYMBOL (Nat.le_trans O0.2.1 zb162))
          have ne_w_NAME_b162 : w_NAME ≠ b162 := Nat.ne_of_lt (Nat.lt_of_lt_of_le lt_w_NAME (Nat.le_trans O0.2.1 zb162))
          have ne_w_END_b162 : w_END ≠ b162 := Nat.ne_of_lt (Nat.lt_of_lt_of_le lt_w_END (Nat.le_trans O0.2.1 zb162))
          have ne_w_STRING_b162 : w_STRING ≠ b162 := Nat.ne_of_lt (Nat.lt_of_lt_of_le lt_w_STRING (Nat.le_trans O0.2.1 zb162))
          have g_b162 : n0 ≤ b162 := Nat.le_trans (O0.1 ▸ O0.2.1) zb162
          have sn_b162 : Safe Z EL s.vm h0 b162 := Safe.new zb162
          have ne_w_NUMBER_tt162 : w_NUMBER ≠ tt162 := Nat.ne_of_lt (Nat.lt_of_lt_of_le lt_w_NUMBER (Nat.le_trans O0.2.1 zq162))
          have ne_w_SYMBOL_tt162 : w_SYMBOL ≠ tt162 := Nat.ne_of_lt (Nat.lt_of_lt_of_le lt_w_SYMBOL (Nat.le_trans O0.2.1 zq162))
          have ne_w_NAME_tt162 : w_NAME ≠ tt162 := Nat.ne_of_lt (Nat.lt_of_lt_of_le lt_w_NAME (Nat.le_trans O0.2.1 zq162))
          have ne_w_END_tt162 : w_END ≠ tt162 := Nat.ne_of_lt (Nat.lt_of_lt_of_le lt_w_END (Nat.le_trans O0.2.1 zq162))
          have ne_w_STRING_tt162 : w_STRING ≠ tt162 := Nat.ne_of_lt (Nat.lt_of_lt_of_le lt_w_STRING (Nat.le_trans O0.2.1 zq162))
          have g_tt162 : n0 ≤ tt162 := Nat.le_trans (O0.1 ▸ O0.2.1) zq162
          have sn_tt162 : Safe Z EL s.vm h0 tt162 := Safe.new zq162
          have O162 : Old Z n0 T162.heap := O0.keep kq162 all0
          have CR162 : CHr Z EL s.vm h0 s.vm T162.heap := CR0.trans (CHr.keep kq162 sf0 CR0.1)
          have lt_b162 := eq162.lt
          have lt_tt162 := vq162.lt
          refine Go.st (f' := (mkF m 129 #[iv p1, iv p2, iv p3, iv p4, rv kd, iv 2, iv yy3, iv yy4, iv 1, iv z9, iv z10, iv 0, .unset, .unset, .unset, .unset] [(.ref b162)])) (fun _ k => st162 _ k) ?_
          refine Go.st (f' := (mkF m 131 #[iv p1, iv p2, iv p3, iv p4, rv kd, iv 2, iv yy3, iv yy4, iv 1, iv z9, iv z10, iv 0, rv b162, .unset, .unset, .unset] [])) (fun _ k => XS.astore X162.here hx rfl (hb hby at_129) rfl rfl (l' := #[iv p1, iv p2, iv p3, iv p4, rv kd, iv 2, iv yy3, iv yy4, iv 1, iv z9, iv z10, iv 0, rv b162, .unset, .unset, .unset]) rfl k) ?_
          refine Go.st (f' := (mkF m 133 #[iv p1, iv p2, iv p3, iv p4, rv kd, iv 2, iv yy3, iv yy4, iv 1, iv z9, iv z10, iv 0, rv b162, .unset, .unset, .unset] [(.int 0)])) (fun _ k => XS.iload X162.here hx rfl (hb hby at_131) rfl k) ?_
          refine Go.st (f' := (mkF m 140 #[iv p1, iv p2, iv p3, iv p4, rv kd, iv 2, iv yy3, iv yy4, iv 1, iv z9, iv z10, iv 0, rv b162, .unset, .unset, .unset] [])) (fun _ k => XS.ifYes X162.here hx rfl (pc0 := 133) (pc' := 140) rfl (hb hby at_133) rfl (by decide) (by decide) (by decide) k) ?_
          refine Go.st (f' := (mkF m 142 #[iv p1, iv p2, iv p3, iv p4, rv kd, iv 2, iv yy3, iv yy4, iv 1, iv z9, iv z10, iv 0, rv b162, .unset, .unset, .unset] [(.int 1)])) (fun _ k => XS.iload X162.here hx rfl (hb hby at_140) rfl k) ?_
          refine Go.st (f' := (mkF m 144 #[iv p1, iv p2, iv p3, iv p4, rv kd, iv 2, iv yy3, iv yy4, iv 1, iv z9, iv z10, iv 0, rv b162, .unset, .unset, .unset] [(.int z9), (.int 1)])) (fun _ k => XS.iload X162.here hx rfl (hb hby at_142) rfl k) ?_
          refine Go.st (f' := (mkF m 146 #[iv p1, iv p2, iv p3, iv p4, rv kd, iv 2, iv yy3, iv yy4, iv 1, iv z9, iv z10, iv 0, rv b162, .unset, .unset, .unset] [(.int z10), (.int z9), (.int 1)])) (fun _ k => XS.iload X162.here hx rfl (hb hby at_144) rfl k) ?_
          obtain ⟨_, _, ⟨T163, L163, kk163, nn163⟩, -, X163, ⟨Lc163, hQ163, lq163, yq163, zz163⟩, st163⟩ := Jvm.LawKit.callS X162 hx (y := (⟨"com/example/naysay/naysay/rules/TokenIsSymbolPinLaw", "mk", "(ICC)Ljava/lang/String;"⟩ : MethodName)) hown (mvT hZ (hw _ (List.mem_of_getElem? (i := 8) rfl))) (mvT hZ (hw _ (List.mem_of_getElem? (i := 9) rfl))) (mvT hZ (hw _ (List.mem_of_getElem? (i := 2) rfl))) (mvT hZ (hw _ (List.mem_of_getElem? (i := 10) rfl))) (by decide) (own_back (W := 0) (rmM_1 l Z a0 hw [] z9 z10 w_NUMBER w_SYMBOL w_NAME w_END w_STRING i_COMPACT_STRINGS v_SIOOBE_FORMATTER T162.heap n0 O162 hz9.1 hz10.1 hz9.2 hz10.2 WW) hZ (hw _ (List.mem_of_getElem? (i := 10) rfl)) (hw _ (List.mem_of_getElem? (i := 2) rfl)) (by decide) (by decide)) (g := (mkF m 146 #[iv p1, iv p2, iv p3, iv p4, rv kd, iv 2, iv yy3, iv yy4, iv 1, iv z9, iv z10, iv 0, rv b162, .unset, .unset, .unset] [(.int z10), (.int z9), (.int 1)])) rfl (by rw [hml]; rfl) (argsL := [(.int (1 : Int32)), (.int z9), (.int z10)]) (rest := []) (lenOf pd__ICC_Ljava_lang_String_ rfl) rfl (by show 2 * 0 + _ ≤ _; exact Nat.le_of_eq rfl) (hb hby at_146) (fun _ _ => ⟨rfl, rfl, (by decide : 3 + 3 ≤ _), (by decide : 8 + 6 ≤ _)⟩)
          dsimp only [Pt.U, Pt.locs, Pt.cells, Pt.slots] at X163 lq163 yq163 zz163 st163 hQ163
          subst lq163 yq163 zz163
          obtain ⟨b163, rfl, Nq163, zb163, kq163, eq163, cq163, tt163, kt163, zq163, fq163, vq163⟩ := hQ163
          have N163 := Fr.app N162 Nq163
          have ne_b162_b163 : b162 ≠ b163 := Nat.ne_of_lt (Nat.lt_of_lt_of_le lt_b162 zb163)
          have ne_tt162_b163 : tt162 ≠ b163 := Nat.ne_of_lt (Nat.lt_of_lt_of_le lt_tt162 zb163)
          have ne_w_NUMBER_b163 : w_NUMBER ≠ b163 := Nat.ne_of_lt (Nat.lt_of_lt_of_le lt_w_NUMBER (Nat.le_trans O162.2.1 zb163))
          have ne_w_SYMBOL_b163 : w_SYMBOL ≠ b163 := Nat.ne_of_lt (Nat.lt_of_lt_of_le lt_w_SYMBOL (Nat.le_trans O162.2.1 zb163))
          have ne_w_NAME_b163 : w_NAME ≠ b163 := Nat.ne_of_lt (Nat.lt_of_lt_of_le lt_w_NAME (Nat.le_trans O162.2.1 zb163))
          have ne_w_END_b163 : w_END ≠ b163 := Nat.ne_of_lt (Nat.lt_of_lt_of_le lt_w_END (Nat.le_trans O162.2.1 zb163))
          have ne_w_STRING_b163 : w_STRING ≠ b163 := Nat.ne_of_lt (Nat.lt_of_lt_of_le lt_w_STRING (Nat.le_trans O162.2.1 zb163))
          have g_b163 : n0 ≤ b163 := Nat.le_trans (O162.1 ▸ O162.2.1) zb163
          have sn_b163 : Safe Z EL s.vm T162.heap b163 := Safe.new zb163
          have ne_b162_tt163 : b162 ≠ tt163 := Nat.ne_of_lt (Nat.lt_of_lt_of_le lt_b162 zq163)
          have ne_tt162_tt163 : tt162 ≠ tt163 := Nat.ne_of_lt (Nat.lt_of_lt_of_le lt_tt162 zq163)
          have ne_w_NUMBER_tt163 : w_NUMBER ≠ tt163 := Nat.ne_of_lt (Nat.lt_of_lt_of_le lt_w_NUMBER (Nat.le_trans O162.2.1 zq163))
          have ne_w_SYMBOL_tt163 : w_SYMBOL ≠ tt163 := Nat.ne_of_lt (Nat.lt_of_lt_of_le lt_w_SYMBOL (Nat.le_trans O162.2.1 zq163))
          have ne_w_NAME_tt163 : w_NAME ≠ tt163 := Nat.ne_of_lt (Nat.lt_of_lt_of_le lt_w_NAME (Nat.le_trans O162.2.1 zq163))
          have ne_w_END_tt163 : w_END ≠ tt163 := Nat.ne_of_lt (Nat.lt_of_lt_of_le lt_w_END (Nat.le_trans O162.2.1 zq163))
          have ne_w_STRING_tt163 : w_STRING ≠ tt163 := Nat.ne_of_lt (Nat.lt_of_lt_of_le lt_w_STRING (Nat.le_trans O162.2.1 zq163))
          have g_tt163 : n0 ≤ tt163 := Nat.le_trans (O162.1 ▸ O162.2.1) zq163
          have sn_tt163 : Safe Z EL s.vm T162.heap tt163 := Safe.new zq163
          have O163 : Old Z n0 T163.heap := O162.keep kq163 all0
          have CR163 : CHr Z EL s.vm h0 s.vm T163.heap := CR162.trans (CHr.keep kq163 sf0 CR162.1)
          have lt_b163 := eq163.lt
          have lt_tt163 := vq163.lt
          refine Go.st (f' := (mkF m 149 #[iv p1, iv p2, iv p3, iv p4, rv kd, iv 2, iv yy3, iv yy4, iv 1, iv z9, iv z10, iv 0, rv b162, .unset, .unset, .unset] [(.ref b163)])) (fun _ k => st163 _ k) ?_
          refine Go.st (f' := (mkF m 151 #[iv p1, iv p2, iv p3, iv p4, rv kd, iv 2, iv yy3, iv yy4, iv 1, iv z9, iv z10, iv 0, rv b162, rv b163, .unset, .unset] [])) (fun _ k => XS.astore X163.here hx rfl (hb hby at_149) rfl rfl (l' := #[iv p1, iv p2, iv p3, iv p4, rv kd, iv 2, iv yy3, iv yy4, iv 1, iv z9, iv z10, iv 0, rv b162, rv b163, .unset, .unset]) rfl k) ?_
          refine Go.st (f' := (mkF m 153 #[iv p1, iv p2, iv p3, iv p4, rv kd, iv 2, iv yy3, iv yy4, iv 1, iv z9, iv z10, iv 0, rv b162, rv b163, .unset, .unset] [(.ref kd)])) (fun _ k => XS.aload X163.here hx rfl (hb hby at_151) rfl rfl k) ?_
          obtain ⟨T164, X164, e164, st164⟩ := getS2 X163 hx hZ hown (host := "") (Or.inl (hw _ (List.mem_of_getElem? (i := 44) rfl))) Via.refl rfl (S_w_SYMBOL.ext O163.2) (g := (mkF m 153 #[iv p1, iv p2, iv p3, iv p4, rv kd, iv 2, iv yy3, iv yy4, iv 1, iv z9, iv z10, iv 0, rv b162, rv b163, .unset, .unset] [(.ref kd)])) rfl (hb hby at_153)
          refine Go.st (f' := (mkF m 156 #[iv p1, iv p2, iv p3, iv p4, rv kd, iv 2, iv yy3, iv yy4, iv 1, iv z9, iv z10, iv 0, rv b162, rv b163, .unset, .unset] [(.ref w_SYMBOL), (.ref kd)])) (fun _ k => st164 _ k) ?_
          have J2 : ∀ (z14 : Int32), (z14 = (syI_2_1 kd w_SYMBOL (nar .byte ((nar .char yy3).toInt8.toInt32)) (nar .byte ((nar .char yy4).toInt8.toInt32)) (nar .byte ((nar .char z9).toInt8.toInt32)))) → Go p e below (DoneW s Z EL (QL n0) room_1.cells room_1.slots) T164 (mkF m 232 #[iv p1, iv p2, iv p3, iv p4, rv kd, iv 2, iv yy3, iv yy4, iv 1, iv z9, iv z10, iv 0, rv b162, rv b163, iv z14, .unset] []) := by
            intro z14 hz14
            obtain ⟨T165, h165, X165, e165, E165, A165, D165, -, st165⟩ := newO X164 hx hZ hown (hw _ (List.mem_of_getElem? (i := 46) rfl)) (hw _ (List.mem_of_getElem? (i := 47) rfl)) (hw _ (List.mem_of_getElem? (i := 48) rfl)) e164 (g := (mkF m 232 #[iv p1, iv p2, iv p3, iv p4, rv kd, iv 2, iv yy3, iv yy4, iv 1, iv z9, iv z10, iv 0, rv b162, rv b163, iv z14, .unset] [])) rfl (hb hby at_232) (by decide) (by decide)
            obtain ⟨b165, g165⟩ : ∃ z, z = T163.heap.size := ⟨_, rfl⟩
            rw [← g165] at A165 D165 st165
            have ft166 := (Nat.lt_of_lt_of_le lt_b162 kq163.1)
            have ne_b162_b165 : b162 ≠ b165 := Nat.ne_of_lt (Nat.lt_of_lt_of_eq ft166 g165.symm)
            have ft167 := (Nat.lt_of_lt_of_le lt_tt162 kq163.1)
            have ne_tt162_b165 : tt162 ≠ b165 := Nat.ne_of_lt (Nat.lt_of_lt_of_eq ft167 g165.symm)
            have ne_b163_b165 : b163 ≠ b165 := Nat.ne_of_lt (Nat.lt_of_lt_of_eq lt_b163 g165.symm)
            have ne_tt163_b165 : tt163 ≠ b165 := Nat.ne_of_lt (Nat.lt_of_lt_of_eq lt_tt163 g165.symm)
            have ne_w_NUMBER_b165 : w_NUMBER ≠ b165 := Nat.ne_of_lt (Nat.lt_of_lt_of_le lt_w_NUMBER (Nat.le_trans O163.2.1 (Nat.le_of_eq g165.symm)))
            have ne_w_SYMBOL_b165 : w_SYMBOL ≠ b165 := Nat.ne_of_lt (Nat.lt_of_lt_of_le lt_w_SYMBOL (Nat.le_trans O163.2.1 (Nat.le_of_eq g165.symm)))
            have ne_w_NAME_b165 : w_NAME ≠ b165 := Nat.ne_of_lt (Nat.lt_of_lt_of_le lt_w_NAME (Nat.le_trans O163.2.1 (Nat.le_of_eq g165.symm)))
            have ne_w_END_b165 : w_END ≠ b165 := Nat.ne_of_lt (Nat.lt_of_lt_of_le lt_w_END (Nat.le_trans O163.2.1 (Nat.le_of_eq g165.symm)))
            have ne_w_STRING_b165 : w_STRING ≠ b165 := Nat.ne_of_lt (Nat.lt_of_lt_of_le lt_w_STRING (Nat.le_trans O163.2.1 (Nat.le_of_eq g165.symm)))
            have g_b165 : n0 ≤ b165 := Nat.le_trans (O163.1 ▸ O163.2.1) (Nat.le_of_eq g165.symm)
            have O165 : Old Z n0 h165 := O163.ext E165
            have CR165 : CHr Z EL s.vm h0 s.vm h165 := CR163.trans (CHr.ext E165 CR163.1)
            have sf_b165 : Safe Z EL s.vm h165 b165 := (Safe.new (Nat.le_of_eq g165.symm)).ext E165 CR163.1
            have lt_b165 := A165.lt
            have F_kind_b165 : Fld Z h165 b165 "com/example/naysay/naysay/rules/Token" "kind" "Lcom/example/naysay/naysay/rules/Token$Kind;" .null := D165 (Or.inr (hw _ (List.mem_of_getElem? (i := 59) rfl))) (ty := (.object "com/example/naysay/naysay/rules/Token$Kind")) (by decide)
            have F_text_b165 : Fld Z h165 b165 "com/example/naysay/naysay/rules/Token" "text" "Ljava/lang/String;" .null := D165 (Or.inr (hw _ (List.mem_of_getElem? (i := 61) rfl))) (ty := (.object "java/lang/String")) (by decide)
            have F_column_b165 : Fld Z h165 b165 "com/example/naysay/naysay/rules/Token" "column" "I" (.int (0 : Int32)) := D165 (Or.inr (hw _ (List.mem_of_getElem? (i := 63) rfl))) (ty := .int) (by decide)
            refine Go.st (f' := (mkF m 235 #[iv p1, iv p2, iv p3, iv p4, rv kd, iv 2, iv yy3, iv yy4, iv 1, iv z9, iv z10, iv 0, rv b162, rv b163, iv z14, .unset] [(.ref b165)])) (fun _ k => st165 _ k) ?_
            refine Go.st (f' := (mkF m 236 #[iv p1, iv p2, iv p3, iv p4, rv kd, iv 2, iv yy3, iv yy4, iv 1, iv z9, iv z10, iv 0, rv b162, rv b163, iv z14, .unset] [(.ref b165), (.ref b165)])) (fun _ k => XS.dup X165.here hx rfl (hb hby at_235) rfl rfl k) ?_
            refine Go.st (f' := (mkF m 238 #[iv p1, iv p2, iv p3, iv p4, rv kd, iv 2, iv yy3, iv yy4, iv 1, iv z9, iv z10, iv 0, rv b162, rv b163, iv z14, .unset] [(.ref kd), (.ref b165), (.ref b165)])) (fun _ k => XS.aload X165.here hx rfl (hb hby at_236) rfl rfl k) ?_
            refine Go.st (f' := (mkF m 240 #[iv p1, iv p2, iv p3, iv p4, rv kd, iv 2, iv yy3, iv yy4, iv 1, iv z9, iv z10, iv 0, rv b162, rv b163, iv z14, .unset] [(.ref b162), (.ref kd), (.ref b165), (.ref b165)])) (fun _ k => XS.aload X165.here hx rfl (hb hby at_238) rfl rfl k) ?_
            refine Go.st (f' := (mkF m 241 #[iv p1, iv p2, iv p3, iv p4, rv kd, iv 2, iv yy3, iv yy4, iv 1, iv z9, iv z10, iv 0, rv b162, rv b163, iv z14, .unset] [(.int p4), (.ref b162), (.ref kd), (.ref b165), (.ref b165)])) (fun _ k => XS.iloadN X165.here hx rfl (hb hby at_240) rfl k) ?_
            obtain ⟨_, _, ⟨T168, L168, kk168, nn168⟩, -, X168, ⟨Lc168, hQ168, lq168, yq168, zz168⟩, st168⟩ := X165.specialBack hx (y := (⟨"com/example/naysay/naysay/rules/Token", "<init>", "(Lcom/example/naysay/naysay/rules/Token$Kind;Ljava/lang/String;I)V"⟩ : MethodName)) rfl hown (mvT hZ (hw _ (List.mem_of_getElem? (i := 49) rfl))) (mvT hZ (hw _ (List.mem_of_getElem? (i := 50) rfl))) (mvT hZ (hw _ (List.mem_of_getElem? (i := 51) rfl))) (by decide) (own_back (W := 1) (rmT l Z a0 hw [] b165 kd b162 p4 h165 n0 O165 g_b165 A165 F_kind_b165 F_text_b165 F_column_b165 ) hZ (hw _ (List.mem_of_getElem? (i := 51) rfl)) (hw _ (List.mem_of_getElem? (i := 48) rfl)) (by decide) (by decide)) (g := (mkF m 241 #[iv p1, iv p2, iv p3, iv p4, rv kd, iv 2, iv yy3, iv yy4, iv 1, iv z9, iv z10, iv 0, rv b162, rv b163, iv z14, .unset] [(.int p4), (.ref b162), (.ref kd), (.ref b165), (.ref b165)])) rfl (by rw [hml]; rfl) (Steps.refl _) (a := b165) (argsL := [(.ref kd), (.ref b162), (.int p4)]) (rest := [(.ref b165)]) (lenOf pd__Lcom_example_naysay_naysay_rules_Token_Kind_Ljava_lang_String_I_V rfl) rfl (by show 2 * 0 + _ ≤ _; exact Nat.le_of_eq rfl) (hb hby at_241) (fun _ _ => ⟨rfl, e165, (by decide : 7 + 0 ≤ _), (by decide : 17 + 0 ≤ _)⟩)
            dsimp only [Pt.U, Pt.locs, Pt.cells, Pt.slots] at X168 lq168 yq168 zz168 st168 hQ168
            subst lq168 yq168 zz168
            obtain ⟨rfl, Nq168, kq168, eq168, fq168_0, fq168_1, fq168_2⟩ := hQ168
            have N168 := Fr.app N163 Nq168
            have O168 : Old Z n0 T168.heap := O165.keep kq168 (allS g_b165 all0)
            have CR168 : CHr Z EL s.vm h0 s.vm T168.heap := CR165.trans (CHr.keep kq168 (sfS sf_b165 sf0) CR165.1)
            refine Go.tr (f' := (mkF m 244 #[iv p1, iv p2, iv p3, iv p4, rv kd, iv 2, iv yy3, iv yy4, iv 1, iv z9, iv z10, iv 0, rv b162, rv b163, iv z14, .unset] [(.ref b165)])) st168 ?_
            refine Go.st (f' := (mkF m 246 #[iv p1, iv p2, iv p3, iv p4, rv kd, iv 2, iv yy3, iv yy4, iv 1, iv z9, iv z10, iv 0, rv b162, rv b163, iv z14, rv b165] [])) (fun _ k => XS.astore X168.here hx rfl (hb hby at_244) rfl rfl (l' := #[iv p1, iv p2, iv p3, iv p4, rv kd, iv 2, iv yy3, iv yy4, iv 1, iv z9, iv z10, iv 0, rv b162, rv b163, iv z14, rv b165]) rfl k) ?_
            refine Go.st (f' := (mkF m 248 #[iv p1, iv p2, iv p3, iv p4, rv kd, iv 2, iv yy3, iv yy4, iv 1, iv z9, iv z10, iv 0, rv b162, rv b163, iv z14, rv b165] [(.ref b165)])) (fun _ k => XS.aload X168.here hx rfl (hb hby at_246) rfl rfl k) ?_
            refine Go.st (f' := (mkF m 250 #[iv p1, iv p2, iv p3, iv p4, rv kd, iv 2, iv yy3, iv yy4, iv 1, iv z9, iv z10, iv 0, rv b162, rv b163, iv z14, rv b165] [(.ref b163), (.ref b165)])) (fun _ k => XS.aload X168.here hx rfl (hb hby at_248) rfl rfl k) ?_
            have ft170 := (((eq162.keep kq163).ext E165).keep kq168)
            have ft171 := (((cq162.keep kq163 nin0).ext E165).keep kq168 (ninS ne_b162_b165 nin0))
            have ft172 := (((fq162.keep kq163 nin0).ext E165).keep kq168 (ninS ne_b162_b165 nin0))
            have ft173 := (((vq162.keep kq163 nin0).ext E165).keep kq168 (ninS ne_tt162_b165 nin0))
            have ft174 := ((eq163.ext E165).keep kq168)
            have ft175 := ((cq163.ext E165).keep kq168 (ninS ne_b163_b165 nin0))
            have ft176 := ((fq163.ext E165).keep kq168 (ninS ne_b163_b165 nin0))
            have ft177 := ((vq163.ext E165).keep kq168 (ninS ne_tt163_b165 nin0))
            obtain ⟨cq169, kq169, q169a, q169b, q169c⟩ := isOf hZ rfl eq168
            obtain ⟨_, _, ⟨T169, L169, kk169, nn169⟩, -, X169, ⟨Lc169, hQ169, lq169, yq169, zz169⟩, st169⟩ := X168.virtualBack hx (y := (⟨"com/example/naysay/naysay/rules/Token", "isSymbol", "(Ljava/lang/String;)Z"⟩ : MethodName)) (z := (⟨"com/example/naysay/naysay/rules/Token", "isSymbol", "(Ljava/lang/String;)Z"⟩ : MethodName)) hown (mvT hZ (hw _ (List.mem_of_getElem? (i := 64) rfl))) (mvT hZ (hw _ (List.mem_of_getElem? (i := 65) rfl))) (notFace_of_selects (args := #[]) (mvT hZ (hw _ (List.mem_of_getElem? (i := 67) rfl)))) (mvT hZ (hw _ (List.mem_of_getElem? (i := 67) rfl))) (mvT hZ (hw _ (List.mem_of_getElem? (i := 66) rfl))) (by decide) (own_back (W := 0) (rmS_2_1 l Z a0 hw [] b165 kd b162 tt162 kt162 b163 tt163 kt163 (nar .byte ((nar .char yy3).toInt8.toInt32)) (nar .byte ((nar .char yy4).toInt8.toInt32)) (nar .byte ((nar .char z9).toInt8.toInt32)) w_NUMBER w_SYMBOL w_NAME w_END w_STRING i_COMPACT_STRINGS v_SIOOBE_FORMATTER T168.heap n0 O168 eq168 fq168_0 fq168_1 ft170 ft171 ft172 ft173 ne_b162_b163 ft174 ft175 ft176 ft177 WW) hZ (hw _ (List.mem_of_getElem? (i := 68) rfl)) (hw _ (List.mem_of_getElem? (i := 48) rfl)) (by decide) (by decide)) q169a q169c (g := (mkF m 250 #[iv p1, iv p2, iv p3, iv p4, rv kd, iv 2, iv yy3, iv yy4, iv 1, iv z9, iv z10, iv 0, rv b162, rv b163, iv z14, rv b165] [(.ref b163), (.ref b165)])) rfl (by rw [hml]; rfl) (Steps.refl _) (argsL := [(.ref b163)]) (rest := []) (lenOf pd__Ljava_lang_String__Z rfl) rfl (by show 2 * 0 + _ ≤ _; exact Nat.le_of_eq rfl) (hb hby at_250) (fun _ _ => ⟨rfl, rfl, (by decide : 7 + 0 ≤ _), (by decide : 17 + 0 ≤ _)⟩)
            dsimp only [Pt.U, Pt.locs, Pt.cells, Pt.slots] at X169 lq169 yq169 zz169 st169 hQ169
            subst lq169 yq169 zz169
            obtain ⟨rfl, Nq169, kq169⟩ := hQ169
            have N169 := Fr.app N168 Nq169
            refine Go.tr (f' := (mkF m 253 #[iv p1, iv p2, iv p3, iv p4, rv kd, iv 2, iv yy3, iv yy4, iv 1, iv z9, iv z10, iv 0, rv b162, rv b163, iv z14, rv b165] [(.int (syI_2_1 kd w_SYMBOL (nar .byte ((nar .char yy3).toInt8.toInt32)) (nar .byte ((nar .char yy4).toInt8.toInt32)) (nar .byte ((nar .char z9).toInt8.toInt32))))])) st169 ?_
            refine Go.st (f' := (mkF m 255 #[iv p1, iv p2, iv p3, iv p4, rv kd, iv 2, iv yy3, iv yy4, iv 1, iv z9, iv z10, iv 0, rv b162, rv b163, iv z14, rv b165] [(.int z14), (.int (syI_2_1 kd w_SYMBOL (nar .byte ((nar .char yy3).toInt8.toInt32)) (nar .byte ((nar .char yy4).toInt8.toInt32)) (nar .byte ((nar .char z9).toInt8.toInt32))))])) (fun _ k => XS.iload X169.here hx rfl (hb hby at_253) rfl k) ?_
            refine Go.st (f' := (mkF m 258 #[iv p1, iv p2, iv p3, iv p4, rv kd, iv 2, iv yy3, iv yy4, iv 1, iv z9, iv z10, iv 0, rv b162, rv b163, iv z14, rv b165] [])) (fun _ k => XS.icmpNo X169.here hx rfl (hb hby at_255) rfl (teq hz14.symm).2 k) ?_
            refine Go.st (f' := (mkF m 259 #[iv p1, iv p2, iv p3, iv p4, rv kd, iv 2, iv yy3, iv yy4, iv 1, iv z9, iv z10, iv 0, rv b162, rv b163, iv z14, rv b165] [(.int 1)])) (fun _ k => XS.iconst X169.here hx rfl (hb hby at_258) k) ?_
            refine Go.st (f' := (mkF m 263 #[iv p1, iv p2, iv p3, iv p4, rv kd, iv 2, iv yy3, iv yy4, iv 1, iv z9, iv z10, iv 0, rv b162, rv b163, iv z14, rv b165] [(.int 1)])) (fun _ k => XS.goto X169.here hx rfl (pc0 := 259) (pc' := 263) rfl (hb hby at_259) (by decide) (by decide) k) ?_
            refine GoW.retB X169 hlk hx (t := .boolean) hret (by simp) (hb hby at_263) kq169 hS (Nat.zero_le _) hZ hEL CR168 hh ?_ (by decide) (by decide)
            exact ⟨rfl, N169⟩
          by_cases cd178 : kd = w_SYMBOL
          · refine Go.st (f' := (mkF m 159 #[iv p1, iv p2, iv p3, iv p4, rv kd, iv 2, iv yy3, iv yy4, iv 1, iv z9, iv z10, iv 0, rv b162, rv b163, .unset, .unset] [])) (fun _ k => Jvm.RoadKit.acmp (g := (mkF m 156 #[iv p1, iv p2, iv p3, iv p4, rv kd, iv 2, iv yy3, iv yy4, iv 1, iv z9, iv z10, iv 0, rv b162, rv b163, .unset, .unset] [(.ref w_SYMBOL), (.ref kd)])) X164 hx rfl rfl rfl (pc0 := 156) (pc' := 159) (same := true) rfl (hb hby at_156) rfl (decide_eq_true (congrArg Value.ref cd178)) (by decide) (by decide) k) ?_
            refine Go.st (f' := (mkF m 161 #[iv p1, iv p2, iv p3, iv p4, rv kd, iv 2, iv yy3, iv yy4, iv 1, iv z9, iv z10, iv 0, rv b162, rv b163, .unset, .unset] [(.int 0)])) (fun _ k => XS.iload X164.here hx rfl (hb hby at_159) rfl k) ?_
            refine Go.st (f' := (mkF m 164 #[iv p1, iv p2, iv p3, iv p4, rv kd, iv 2, iv yy3, iv yy4, iv 1, iv z9, iv z10, iv 0, rv b162, rv b163, .unset, .unset] [])) (fun _ k => XS.ifNo X164.here hx rfl (hb hby at_161) rfl (by decide) k) ?_
            refine Go.st (f' := (mkF m 166 #[iv p1, iv p2, iv p3, iv p4, rv kd, iv 2, iv yy3, iv yy4, iv 1, iv z9, iv z10, iv 0, rv b162, rv b163, .unset, .unset] [(.int 2)])) (fun _ k => XS.iload X164.here hx rfl (hb hby at_164) rfl k) ?_
            refine Go.st (f' := (mkF m 168 #[iv p1, iv p2, iv p3, iv p4, rv kd, iv 2, iv yy3, iv yy4, iv 1, iv z9, iv z10, iv 0, rv b162, rv b163, .unset, .unset] [(.int 1), (.int 2)])) (fun _ k => XS.iload X164.here hx rfl (hb hby at_166) rfl k) ?_
            refine Go.st (f' := (mkF m 171 #[iv p1, iv p2, iv p3, iv p4, rv kd, iv 2, iv yy3, iv yy4, iv 1, iv z9, iv z10, iv 0, rv b162, rv b163, .unset, .unset] [])) (fun _ k => XS.icmpNo X164.here hx rfl (hb hby at_168) rfl (by decide) k) ?_
            refine Go.st (f' := (mkF m 172 #[iv p1, iv p2, iv p3, iv p4, rv kd, iv 2, iv yy3, iv yy4, iv 1, iv z9, iv z10, iv 0, rv b162, rv b163, .unset, .unset] [(.int 0)])) (fun _ k => XS.iconst X164.here hx rfl (hb hby at_171) k) ?_
            refine Go.st (f' := (mkF m 174 #[iv p1, iv p2, iv p3, iv p4, rv kd, iv 2, iv yy3, iv yy4, iv 1, iv z9, iv z10, iv 0, rv b162, rv b163, iv 0, .unset] [])) (fun _ k => XS.istore X164.here hx rfl (hb hby at_172) rfl (l' := #[iv p1, iv p2, iv p3, iv p4, rv kd, iv 2, iv yy3, iv yy4, iv 1, iv z9, iv z10, iv 0, rv b162, rv b163, iv 0, .unset]) rfl k) ?_
            refine Go.st (f' := (mkF m 232 #[iv p1, iv p2, iv p3, iv p4, rv kd, iv 2, iv yy3, iv yy4, iv 1, iv z9, iv z10, iv 0, rv b162, rv b163, iv 0, .unset] [])) (fun _ k => XS.goto X164.here hx rfl (pc0 := 174) (pc' := 232) rfl (hb hby at_174) (by decide) (by decide) k) ?_
            exact J2 (0 : Int32) (by rw [syI_2_1, if_pos cd178] <;> rfl)
          · refine Go.st (f' := (mkF m 171 #[iv p1, iv p2, iv p3, iv p4, rv kd, iv 2, iv yy3, iv yy4, iv 1, iv z9, iv z10, iv 0, rv b162, rv b163, .unset, .unset] [])) (fun _ k => Jvm.RoadKit.acmp (g := (mkF m 156 #[iv p1, iv p2, iv p3, iv p4, rv kd, iv 2, iv yy3, iv yy4, iv 1, iv z9, iv z10, iv 0, rv b162, rv b163, .unset, .unset] [(.ref w_SYMBOL), (.ref kd)])) X164 hx rfl rfl rfl (pc0 := 156) (pc' := 171) (same := false) rfl (hb hby at_156) rfl (decide_eq_false fun q => cd178 (Value.ref.inj q)) (by decide) (by decide) k) ?_
            refine Go.st (f' := (mkF m 172 #[iv p1, iv p2, iv p3, iv p4, rv kd, iv 2, iv yy3, iv yy4, iv 1, iv z9, iv z10, iv 0, rv b162, rv b163, .unset, .unset] [(.int 0)])) (fun _ k => XS.iconst X164.here hx rfl (hb hby at_171) k) ?_
            refine Go.st (f' := (mkF m 174 #[iv p1, iv p2, iv p3, iv p4, rv kd, iv 2, iv yy3, iv yy4, iv 1, iv z9, iv z10, iv 0, rv b162, rv b163, iv 0, .unset] [])) (fun _ k => XS.istore X164.here hx rfl (hb hby at_172) rfl (l' := #[iv p1, iv p2, iv p3, iv p4, rv kd, iv 2, iv yy3, iv yy4, iv 1, iv z9, iv z10, iv 0, rv b162, rv b163, iv 0, .unset]) rfl k) ?_
            refine Go.st (f' := (mkF m 232 #[iv p1, iv p2, iv p3, iv p4, rv kd, iv 2, iv yy3, iv yy4, iv 1, iv z9, iv z10, iv 0, rv b162, rv b163, iv 0, .unset] [])) (fun _ k => XS.goto X164.here hx rfl (pc0 := 174) (pc' := 232) rfl (hb hby at_174) (by decide) (by decide) k) ?_
            exact J2 (0 : Int32) (by rw [syI_2_1, if_neg cd178])
        · refine Go.st (f' := (mkF m 122 #[iv p1, iv p2, iv p3, iv p4, rv kd, iv 2, iv yy3, iv yy4, iv 2, iv z9, iv z10, iv 0, .unset, .unset, .unset, .unset] [(.int 2)])) (fun _ k => XS.iload X1.here hx rfl (hb hby at_120) rfl k) ?_
          refine Go.st (f' := (mkF m 124 #[iv p1, iv p2, iv p3, iv p4, rv kd, iv 2, iv yy3, iv yy4, iv 2, iv z9, iv z10, iv 0, .unset, .unset, .unset, .unset] [(.int yy3), (.int 2)])) (fun _ k => XS.iload X1.here hx rfl (hb hby at_122) rfl k) ?_
          refine Go.st (f' := (mkF m 126 #[iv p1, iv p2, iv p3, iv p4, rv kd, iv 2, iv yy3, iv yy4, iv 2, iv z9, iv z10, iv 0, .unset, .unset, .unset, .unset] [(.int yy4), (.int yy3), (.int 2)])) (fun _ k => XS.iload X1.here hx rfl (hb hby at_124) rfl k) ?_
          obtain ⟨_, _, ⟨T179, L179, kk179, nn179⟩, -, X179, ⟨Lc179, hQ179, lq179, yq179, zz179⟩, st179⟩ := Jvm.LawKit.callS X1 hx (y := (⟨"com/example/naysay/naysay/rules/TokenIsSymbolPinLaw", "mk", "(ICC)Ljava/lang/String;"⟩ : MethodName)) hown (mvT hZ (hw _ (List.mem_of_getElem? (i := 8) rfl))) (mvT hZ (hw _ (List.mem_of_getElem? (i := 9) rfl))) (mvT hZ (hw _ (List.mem_of_getElem? (i := 2) rfl))) (mvT hZ (hw _ (List.mem_of_getElem? (i := 10) rfl))) (by decide) (own_back (W := 0) (rmM_2 l Z a0 hw [] yy3 yy4 w_NUMBER w_SYMBOL w_NAME w_END w_STRING i_COMPACT_STRINGS v_SIOOBE_FORMATTER h0 n0 O0 (hyy3 ▸ own_b _).1 (hyy4 ▸ own_b _).1 (hyy3 ▸ own_b _).2 (hyy4 ▸ own_b _).2 WW) hZ (hw _ (List.mem_of_getElem? (i := 10) rfl)) (hw _ (List.mem_of_getElem? (i := 2) rfl)) (by decide) (by decide)) (g := (mkF m 126 #[iv p1, iv p2, iv p3, iv p4, rv kd, iv 2, iv yy3, iv yy4, iv 2, iv z9, iv z10, iv 0, .unset, .unset, .unset, .unset] [(.int yy4), (.int yy3), (.int 2)])) rfl (by rw [hml]; rfl) (argsL := [(.int (2 : Int32)), (.int yy3), (.int yy4)]) (rest := []) (lenOf pd__ICC_Ljava_lang_String_ rfl) rfl (by show 2 * 0 + _ ≤ _; exact Nat.le_of_eq rfl) (hb hby at_126) (fun _ _ => ⟨rfl, kq1, (by decide : 0 + 3 ≤ _), (by decide : 0 + 8 ≤ _)⟩)
          dsimp only [Pt.U, Pt.locs, Pt.cells, Pt.slots] at X179 lq179 yq179 zz179 st179 hQ179
          subst lq179 yq179 zz179
          obtain ⟨b179, rfl, Nq179, zb179, kq179, eq179, cq179, tt179, kt179, zq179, fq179, vq179⟩ := hQ179
          have N179 := Fr.app N1 Nq179
          have ne_w_NUMBER_b179 : w_NUMBER ≠ b179 := Nat.ne_of_lt (Nat.lt_of_lt_of_le lt_w_NUMBER (Nat.le_trans O0.2.1 zb179))
          have ne_w_SYMBOL_b179 : w_SYMBOL ≠ b179 := Nat.ne_of_lt (Nat.lt_of_lt_of_le lt_w_SYMBOL (Nat.le_trans O0.2.1 zb179))
          have ne_w_NAME_b179 : w_NAME ≠ b179 := Nat.ne_of_lt (Nat.lt_of_lt_of_le lt_w_NAME (Nat.le_trans O0.2.1 zb179))
          have ne_w_END_b179 : w_END ≠ b179 := Nat.ne_of_lt (Nat.lt_of_lt_of_le lt_w_END (Nat.le_trans O0.2.1 zb179))
          have ne_w_STRING_b179 : w_STRING ≠ b179 := Nat.ne_of_lt (Nat.lt_of_lt_of_le lt_w_STRING (Nat.le_trans O0.2.1 zb179))
          have g_b179 : n0 ≤ b179 := Nat.le_trans (O0.1 ▸ O0.2.1) zb179
          have sn_b179 : Safe Z EL s.vm h0 b179 := Safe.new zb179
          have ne_w_NUMBER_tt179 : w_NUMBER ≠ tt179 := Nat.ne_of_lt (Nat.lt_of_lt_of_le lt_w_NUMBER (Nat.le_trans O0.2.1 zq179))
          have ne_w_SYMBOL_tt179 : w_SYMBOL ≠ tt179 := Nat.ne_of_lt (Nat.lt_of_lt_of_le lt_w_SYMBOL (Nat.le_trans O0.2.1 zq179))
          have ne_w_NAME_tt179 : w_NAME ≠ tt179 := Nat.ne_of_lt (Nat.lt_of_lt_of_le lt_w_NAME (Nat.le_trans O0.2.1 zq179))
          have ne_w_END_tt179 : w_END ≠ tt179 := Nat.ne_of_lt (Nat.lt_of_lt_of_le lt_w_END (Nat.le_trans O0.2.1 zq179))
          have ne_w_STRING_tt179 : w_STRING ≠ tt179 := Nat.ne_of_lt (Nat.lt_of_lt_of_le lt_w_STRING (Nat.le_trans O0.2.1 zq179))
          have g_tt179 : n0 ≤ tt179 := Nat.le_trans (O0.1 ▸ O0.2.1) zq179
          have sn_tt179 : Safe Z EL s.vm h0 tt179 := Safe.new zq179
          have O179 : Old Z n0 T179.heap := O0.keep kq179 all0
          have CR179 : CHr Z EL s.vm h0 s.vm T179.heap := CR0.trans (CHr.keep kq179 sf0 CR0.1)
          have lt_b179 := eq179.lt
          have lt_tt179 := vq179.lt
          refine Go.st (f' := (mkF m 129 #[iv p1, iv p2, iv p3, iv p4, rv kd, iv 2, iv yy3, iv yy4, iv 2, iv z9, iv z10, iv 0, .unset, .unset, .unset, .unset] [(.ref b179)])) (fun _ k => st179 _ k) ?_
          refine Go.st (f' := (mkF m 131 #[iv p1, iv p2, iv p3, iv p4, rv kd, iv 2, iv yy3, iv yy4, iv 2, iv z9, iv z10, iv 0, rv b179, .unset, .unset, .unset] [])) (fun _ k => XS.astore X179.here hx rfl (hb hby at_129) rfl rfl (l' := #[iv p1, iv p2, iv p3, iv p4, rv kd, iv 2, iv yy3, iv yy4, iv 2, iv z9, iv z10, iv 0, rv b179, .unset, .unset, .unset]) rfl k) ?_
          refine Go.st (f' := (mkF m 133 #[iv p1, iv p2, iv p3, iv p4, rv kd, iv 2, iv yy3, iv yy4, iv 2, iv z9, iv z10, iv 0, rv b179, .unset, .unset, .unset] [(.int 0)])) (fun _ k => XS.iload X179.here hx rfl (hb hby at_131) rfl k) ?_
          refine Go.st (f' := (mkF m 140 #[iv p1, iv p2, iv p3, iv p4, rv kd, iv 2, iv yy3, iv yy4, iv 2, iv z9, iv z10, iv 0, rv b179, .unset, .unset, .unset] [])) (fun _ k => XS.ifYes X179.here hx rfl (pc0 := 133) (pc' := 140) rfl (hb hby at_133) rfl (by decide) (by decide) (by decide) k) ?_
          refine Go.st (f' := (mkF m 142 #[iv p1, iv p2, iv p3, iv p4, rv kd, iv 2, iv yy3, iv yy4, iv 2, iv z9, iv z10, iv 0, rv b179, .unset, .unset, .unset] [(.int 2)])) (fun _ k => XS.iload X179.here hx rfl (hb hby at_140) rfl k) ?_
          refine Go.st (f' := (mkF m 144 #[iv p1, iv p2, iv p3, iv p4, rv kd, iv 2, iv yy3, iv yy4, iv 2, iv z9, iv z10, iv 0, rv b179, .unset, .unset, .unset] [(.int z9), (.int 2)])) (fun _ k => XS.iload X179.here hx rfl (hb hby at_142) rfl k) ?_
          refine Go.st (f' := (mkF m 146 #[iv p1, iv p2, iv p3, iv p4, rv kd, iv 2, iv yy3, iv yy4, iv 2, iv z9, iv z10, iv 0, rv b179, .unset, .unset, .unset] [(.int z10), (.int z9), (.int 2)])) (fun _ k => XS.iload X179.here hx rfl (hb hby at_144) rfl k) ?_
          obtain ⟨_, _, ⟨T180, L180, kk180, nn180⟩, -, X180, ⟨Lc180, hQ180, lq180, yq180, zz180⟩, st180⟩ := Jvm.LawKit.callS X179 hx (y := (⟨"com/example/naysay/naysay/rules/TokenIsSymbolPinLaw", "mk", "(ICC)Ljava/lang/String;"⟩ : MethodName)) hown (mvT hZ (hw _ (List.mem_of_getElem? (i := 8) rfl))) (mvT hZ (hw _ (List.mem_of_getElem? (i := 9) rfl))) (mvT hZ (hw _ (List.mem_of_getElem? (i := 2) rfl))) (mvT hZ (hw _ (List.mem_of_getElem? (i := 10) rfl))) (by decide) (own_back (W := 0) (rmM_2 l Z a0 hw [] z9 z10 w_NUMBER w_SYMBOL w_NAME w_END w_STRING i_COMPACT_STRINGS v_SIOOBE_FORMATTER T179.heap n0 O179 hz9.1 hz10.1 hz9.2 hz10.2 WW) hZ (hw _ (List.mem_of_getElem? (i := 10) rfl)) (hw _ (List.mem_of_getElem? (i := 2) rfl)) (by decide) (by decide)) (g := (mkF m 146 #[iv p1, iv p2, iv p3, iv p4, rv kd, iv 2, iv yy3, iv yy4, iv 2, iv z9, iv z10, iv 0, rv b179, .unset, .unset, .unset] [(.int z10), (.int z9), (.int 2)])) rfl (by rw [hml]; rfl) (argsL := [(.int (2 : Int32)), (.int z9), (.int z10)]) (rest := []) (lenOf pd__ICC_Ljava_lang_String_ rfl) rfl (by show 2 * 0 + _ ≤ _; exact Nat.le_of_eq rfl) (hb hby at_146) (fun _ _ => ⟨rfl, rfl, (by decide : 3 + 3 ≤ _), (by decide : 8 + 8 ≤ _)⟩)
          dsimp only [Pt.U, Pt.locs, Pt.cells, Pt.slots] at X180 lq180 yq180 zz180 st180 hQ180
          subst lq180 yq180 zz180
          obtain ⟨b180, rfl, Nq180, zb180, kq180, eq180, cq180, tt180, kt180, zq180, fq180, vq180⟩ := hQ180
          have N180 := Fr.app N179 Nq180
          have ne_b179_b180 : b179 ≠ b180 := Nat.ne_of_lt (Nat.lt_of_lt_of_le lt_b179 zb180)
          have ne_tt179_b180 : tt179 ≠ b180 := Nat.ne_of_lt (Nat.lt_of_lt_of_le lt_tt179 zb180)
          have ne_w_NUMBER_b180 : w_NUMBER ≠ b180 := Nat.ne_of_lt (Nat.lt_of_lt_of_le lt_w_NUMBER (Nat.le_trans O179.2.1 zb180))
          have ne_w_SYMBOL_b180 : w_SYMBOL ≠ b180 := Nat.ne_of_lt (Nat.lt_of_lt_of_le lt_w_SYMBOL (Nat.le_trans O179.2.1 zb180))
          have ne_w_NAME_b180 : w_NAME ≠ b180 := Nat.ne_of_lt (Nat.lt_of_lt_of_le lt_w_NAME (Nat.le_trans O179.2.1 zb180))
          have ne_w_END_b180 : w_END ≠ b180 := Nat.ne_of_lt (Nat.lt_of_lt_of_le lt_w_END (Nat.le_trans O179.2.1 zb180))
          have ne_w_STRING_b180 : w_STRING ≠ b180 := Nat.ne_of_lt (Nat.lt_of_lt_of_le lt_w_STRING (Nat.le_trans O179.2.1 zb180))
          have g_b180 : n0 ≤ b180 := Nat.le_trans (O179.1 ▸ O179.2.1) zb180
          have sn_b180 : Safe Z EL s.vm T179.heap b180 := Safe.new zb180
          have ne_b179_tt180 : b179 ≠ tt180 := Nat.ne_of_lt (Nat.lt_of_lt_of_le lt_b179 zq180)
          have ne_tt179_tt180 : tt179 ≠ tt180 := Nat.ne_of_lt (Nat.lt_of_lt_of_le lt_tt179 zq180)
          have ne_w_NUMBER_tt180 : w_NUMBER ≠ tt180 := Nat.ne_of_lt (Nat.lt_of_lt_of_le lt_w_NUMBER (Nat.le_trans O179.2.1 zq180))
          have ne_w_SYMBOL_tt180 : w_SYMBOL ≠ tt180 := Nat.ne_of_lt (Nat.lt_of_lt_of_le lt_w_SYMBOL (Nat.le_trans O179.2.1 zq180))
          have ne_w_NAME_tt180 : w_NAME ≠ tt180 := Nat.ne_of_lt (Nat.lt_of_lt_of_le lt_w_NAME (Nat.le_trans O179.2.1 zq180))
          have ne_w_END_tt180 : w_END ≠ tt180 := Nat.ne_of_lt (Nat.lt_of_lt_of_le lt_w_END (Nat.le_trans O179.2.1 zq180))
          have ne_w_STRING_tt180 : w_STRING ≠ tt180 := Nat.ne_of_lt (Nat.lt_of_lt_of_le lt_w_STRING (Nat.le_trans O179.2.1 zq180))
          have g_tt180 : n0 ≤ tt180 := Nat.le_trans (O179.1 ▸ O179.2.1) zq180
          have sn_tt180 : Safe Z EL s.vm T179.heap tt180 := Safe.new zq180
          have O180 : Old Z n0 T180.heap := O179.keep kq180 all0
          have CR180 : CHr Z EL s.vm h0 s.vm T180.heap := CR179.trans (CHr.keep kq180 sf0 CR179.1)
          have lt_b180 := eq180.lt
          have lt_tt180 := vq180.lt
          refine Go.st (f' := (mkF m 149 #[iv p1, iv p2, iv p3, iv p4, rv kd, iv 2, iv yy3, iv yy4, iv 2, iv z9, iv z10, iv 0, rv b179, .unset, .unset, .unset] [(.ref b180)])) (fun _ k => st180 _ k) ?_
          refine Go.st (f' := (mkF m 151 #[iv p1, iv p2, iv p3, iv p4, rv kd, iv 2, iv yy3, iv yy4, iv 2, iv z9, iv z10, iv 0, rv b179, rv b180, .unset, .unset] [])) (fun _ k => XS.astore X180.here hx rfl (hb hby at_149) rfl rfl (l' := #[iv p1, iv p2, iv p3, iv p4, rv kd, iv 2, iv yy3, iv yy4, iv 2, iv z9, iv z10, iv 0, rv b179, rv b180, .unset, .unset]) rfl k) ?_
          refine Go.st (f' := (mkF m 153 #[iv p1, iv p2, iv p3, iv p4, rv kd, iv 2, iv yy3, iv yy4, iv 2, iv z9, iv z10, iv 0, rv b179, rv b180, .unset, .unset] [(.ref kd)])) (fun _ k => XS.aload X180.here hx rfl (hb hby at_151) rfl rfl k) ?_
          obtain ⟨T181, X181, e181, st181⟩ := getS2 X180 hx hZ hown (host := "") (Or.inl (hw _ (List.mem_of_getElem? (i := 44) rfl))) Via.refl rfl (S_w_SYMBOL.ext O180.2) (g := (mkF m 153 #[iv p1, iv p2, iv p3, iv p4, rv kd, iv 2, iv yy3, iv yy4, iv 2, iv z9, iv z10, iv 0, rv b179, rv b180, .unset, .unset] [(.ref kd)])) rfl (hb hby at_153)
          refine Go.st (f' := (mkF m 156 #[iv p1, iv p2, iv p3, iv p4, rv kd, iv 2, iv yy3, iv yy4, iv 2, iv z9, iv z10, iv 0, rv b179, rv b180, .unset, .unset] [(.ref w_SYMBOL), (.ref kd)])) (fun _ k => st181 _ k) ?_
          have J2 : ∀ (z14 : Int32), (z14 = (syI_2_2 kd w_SYMBOL (nar .byte ((nar .char yy3).toInt8.toInt32)) (nar .byte ((nar .char yy4).toInt8.toInt32)) (nar .byte ((nar .char z9).toInt8.toInt32)) (nar .byte ((nar .char z10).toInt8.toInt32)))) → Go p e below (DoneW s Z EL (QL n0) room_1.cells room_1.slots) T181 (mkF m 232 #[iv p1, iv p2, iv p3, iv p4, rv kd, iv 2, iv yy3, iv yy4, iv 2, iv z9, iv z10, iv 0, rv b179, rv b180, iv z14, .unset] []) := by
            intro z14 hz14
            obtain ⟨T182, h182, X182, e182, E182, A182, D182, -, st182⟩ := newO X181 hx hZ hown (hw _ (List.mem_of_getElem? (i := 46) rfl)) (hw _ (List.mem_of_getElem? (i := 47) rfl)) (hw _ (List.mem_of_getElem? (i := 48) rfl)) e181 (g := (mkF m 232 #[iv p1, iv p2, iv p3, iv p4, rv kd, iv 2, iv yy3, iv yy4, iv 2, iv z9, iv z10, iv 0, rv b179, rv b180, iv z14, .unset] [])) rfl (hb hby at_232) (by decide) (by decide)
            obtain ⟨b182, g182⟩ : ∃ z, z = T180.heap.size := ⟨_, rfl⟩
            rw [← g182] at A182 D182 st182
            have ft183 := (Nat.lt_of_lt_of_le lt_b179 kq180.1)
            have ne_b179_b182 : b179 ≠ b182 := Nat.ne_of_lt (Nat.lt_of_lt_of_eq ft183 g182.symm)
            have ft184 := (Nat.lt_of_lt_of_le lt_tt179 kq180.1)
            have ne_tt179_b182 : tt179 ≠ b182 := Nat.ne_of_lt (Nat.lt_of_lt_of_eq ft184 g182.symm)
            have ne_b180_b182 : b180 ≠ b182 := Nat.ne_of_lt (Nat.lt_of_lt_of_eq lt_b180 g182.symm)
            have ne_tt180_b182 : tt180 ≠ b182 := Nat.ne_of_lt (Nat.lt_of_lt_of_eq lt_tt180 g182.symm)
            have ne_w_NUMBER_b182 : w_NUMBER ≠ b182 := Nat.ne_of_lt (Nat.lt_of_lt_of_le lt_w_NUMBER (Nat.le_trans O180.2.1 (Nat.le_of_eq g182.symm)))
            have ne_w_SYMBOL_b182 : w_SYMBOL ≠ b182 := Nat.ne_of_lt (Nat.lt_of_lt_of_le lt_w_SYMBOL (Nat.le_trans O180.2.1 (Nat.le_of_eq g182.symm)))
            have ne_w_NAME_b182 : w_NAME ≠ b182 := Nat.ne_of_lt (Nat.lt_of_lt_of_le lt_w_NAME (Nat.le_trans O180.2.1 (Nat.le_of_eq g182.symm)))
            have ne_w_END_b182 : w_END ≠ b182 := Nat.ne_of_lt (Nat.lt_of_lt_of_le lt_w_END (Nat.le_trans O180.2.1 (Nat.le_of_eq g182.symm)))
            have ne_w_STRING_b182 : w_STRING ≠ b182 := Nat.ne_of_lt (Nat.lt_of_lt_of_le lt_w_STRING (Nat.le_trans O180.2.1 (Nat.le_of_eq g182.symm)))
            have g_b182 : n0 ≤ b182 := Nat.le_trans (O180.1 ▸ O180.2.1) (Nat.le_of_eq g182.symm)
            have O182 : Old Z n0 h182 := O180.ext E182
            have CR182 : CHr Z EL s.vm h0 s.vm h182 := CR180.trans (CHr.ext E182 CR180.1)
            have sf_b182 : Safe Z EL s.vm h182 b182 := (Safe.new (Nat.le_of_eq g182.symm)).ext E182 CR180.1
            have lt_b182 := A182.lt
            have F_kind_b182 : Fld Z h182 b182 "com/example/naysay/naysay/rules/Token" "kind" "Lcom/example/naysay/naysay/rules/Token$Kind;" .null := D182 (Or.inr (hw _ (List.mem_of_getElem? (i := 59) rfl))) (ty := (.object "com/example/naysay/naysay/rules/Token$Kind")) (by decide)
            have F_text_b182 : Fld Z h182 b182 "com/example/naysay/naysay/rules/Token" "text" "Ljava/lang/String;" .null := D182 (Or.inr (hw _ (List.mem_of_getElem? (i := 61) rfl))) (ty := (.object "java/lang/String")) (by decide)
            have F_column_b182 : Fld Z h182 b182 "com/example/naysay/naysay/rules/Token" "column" "I" (.int (0 : Int32)) := D182 (Or.inr (hw _ (List.mem_of_getElem? (i := 63) rfl))) (ty := .int) (by decide)
            refine Go.st (f' := (mkF m 235 #[iv p1, iv p2, iv p3, iv p4, rv kd, iv 2, iv yy3, iv yy4, iv 2, iv z9, iv z10, iv 0, rv b179, rv b180, iv z14, .unset] [(.ref b182)])) (fun _ k => st182 _ k) ?_
            refine Go.st (f' := (mkF m 236 #[iv p1, iv p2, iv p3, iv p4, rv kd, iv 2, iv yy3, iv yy4, iv 2, iv z9, iv z10, iv 0, rv b179, rv b180, iv z14, .unset] [(.ref b182), (.ref b182)])) (fun _ k => XS.dup X182.here hx rfl (hb hby at_235) rfl rfl k) ?_
            refine Go.st (f' := (mkF m 238 #[iv p1, iv p2, iv p3, iv p4, rv kd, iv 2, iv yy3, iv yy4, iv 2, iv z9, iv z10, iv 0, rv b179, rv b180, iv z14, .unset] [(.ref kd), (.ref b182), (.ref b182)])) (fun _ k => XS.aload X182.here hx rfl (hb hby at_236) rfl rfl k) ?_
            refine Go.st (f' := (mkF m 240 #[iv p1, iv p2, iv p3, iv p4, rv kd, iv 2, iv yy3, iv yy4, iv 2, iv z9, iv z10, iv 0, rv b179, rv b180, iv z14, .unset] [(.ref b179), (.ref kd), (.ref b182), (.ref b182)])) (fun _ k => XS.aload X182.here hx rfl (hb hby at_238) rfl rfl k) ?_
            refine Go.st (f' := (mkF m 241 #[iv p1, iv p2, iv p3, iv p4, rv kd, iv 2, iv yy3, iv yy4, iv 2, iv z9, iv z10, iv 0, rv b179, rv b180, iv z14, .unset] [(.int p4), (.ref b179), (.ref kd), (.ref b182), (.ref b182)])) (fun _ k => XS.iloadN X182.here hx rfl (hb hby at_240) rfl k) ?_
            obtain ⟨_, _, ⟨T185, L185, kk185, nn185⟩, -, X185, ⟨Lc185, hQ185, lq185, yq185, zz185⟩, st185⟩ := X182.specialBack hx (y := (⟨"com/example/naysay/naysay/rules/Token", "<init>", "(Lcom/example/naysay/naysay/rules/Token$Kind;Ljava/lang/String;I)V"⟩ : MethodName)) rfl hown (mvT hZ (hw _ (List.mem_of_getElem? (i := 49) rfl))) (mvT hZ (hw _ (List.mem_of_getElem? (i := 50) rfl))) (mvT hZ (hw _ (List.mem_of_getElem? (i := 51) rfl))) (by decide) (own_back (W := 1) (rmT l Z a0 hw [] b182 kd b179 p4 h182 n0 O182 g_b182 A182 F_kind_b182 F_text_b182 F_column_b182 ) hZ (hw _ (List.mem_of_getElem? (i := 51) rfl)) (hw _ (List.mem_of_getElem? (i := 48) rfl)) (by decide) (by decide)) (g := (mkF m 241 #[iv p1, iv p2, iv p3, iv p4, rv kd, iv 2, iv yy3, iv yy4, iv 2, iv z9, iv z10, iv 0, rv b179, rv b180, iv z14, .unset] [(.int p4), (.ref b179), (.ref kd), (.ref b182), (.ref b182)])) rfl (by rw [hml]; rfl) (Steps.refl _) (a := b182) (argsL := [(.ref kd), (.ref b179), (.int p4)]) (rest := [(.ref b182)]) (lenOf pd__Lcom_example_naysay_naysay_rules_Token_Kind_Ljava_lang_String_I_V rfl) rfl (by show 2 * 0 + _ ≤ _; exact Nat.le_of_eq rfl) (hb hby at_241) (fun _ _ => ⟨rfl, e182, (by decide : 7 + 0 ≤ _), (by decide : 19 + 0 ≤ _)⟩)
            dsimp only [Pt.U, Pt.locs, Pt.cells, Pt.slots] at X185 lq185 yq185 zz185 st185 hQ185
            subst lq185 yq185 zz185
            obtain ⟨rfl, Nq185, kq185, eq185, fq185_0, fq185_1, fq185_2⟩ := hQ185
            have N185 := Fr.app N180 Nq185
            have O185 : Old Z n0 T185.heap := O182.keep kq185 (allS g_b182 all0)
            have CR185 : CHr Z EL s.vm h0 s.vm T185.heap := CR182.trans (CHr.keep kq185 (sfS sf_b182 sf0) CR182.1)
            refine Go.tr (f' := (mkF m 244 #[iv p1, iv p2, iv p3, iv p4, rv kd, iv 2, iv yy3, iv yy4, iv 2, iv z9, iv z10, iv 0, rv b179, rv b180, iv z14, .unset] [(.ref b182)])) st185 ?_
            refine Go.st (f' := (mkF m 246 #[iv p1, iv p2, iv p3, iv p4, rv kd, iv 2, iv yy3, iv yy4, iv 2, iv z9, iv z10, iv 0, rv b179, rv b180, iv z14, rv b182] [])) (fun _ k => XS.astore X185.here hx rfl (hb hby at_244) rfl rfl (l' := #[iv p1, iv p2, iv p3, iv p4, rv kd, iv 2, iv yy3, iv yy4, iv 2, iv z9, iv z10, iv 0, rv b179, rv b180, iv z14, rv b182]) rfl k) ?_
            refine Go.st (f' := (mkF m 248 #[iv p1, iv p2, iv p3, iv p4, rv kd, iv 2, iv yy3, iv yy4, iv 2, iv z9, iv z10, iv 0, rv b179, rv b180, iv z14, rv b182] [(.ref b182)])) (fun _ k => XS.aload X185.here hx rfl (hb hby at_246) rfl rfl k) ?_
            refine Go.st (f' := (mkF m 250 #[iv p1, iv p2, iv p3, iv p4, rv kd, iv 2, iv yy3, iv yy4, iv 2, iv z9, iv z10, iv 0, rv b179, rv b180, iv z14, rv b182] [(.ref b180), (.ref b182)])) (fun _ k => XS.aload X185.here hx rfl (hb hby at_248) rfl rfl k) ?_
            have ft187 := (((eq179.keep kq180).ext E182).keep kq185)
            have ft188 := (((cq179.keep kq180 nin0).ext E182).keep kq185 (ninS ne_b179_b182 nin0))
            have ft189 := (((fq179.keep kq180 nin0).ext E182).keep kq185 (ninS ne_b179_b182 nin0))
            have ft190 := (((vq179.keep kq180 nin0).ext E182).keep kq185 (ninS ne_tt179_b182 nin0))
            have ft191 := ((eq180.ext E182).keep kq185)
            have ft192 := ((cq180.ext E182).keep kq185 (ninS ne_b180_b182 nin0))
            have ft193 := ((fq180.ext E182).keep kq185 (ninS ne_b180_b182 nin0))
            have ft194 := ((vq180.ext E182).keep kq185 (ninS ne_tt180_b182 nin0))
            obtain ⟨cq186, kq186, q186a, q186b, q186c⟩ := isOf hZ rfl eq185
            obtain ⟨_, _, ⟨T186, L186, kk186, nn186⟩, -, X186, ⟨Lc186, hQ186, lq186, yq186, zz186⟩, st186⟩ := X185.virtualBack hx (y := (⟨"com/example/naysay/naysay/rules/Token", "isSymbol", "(Ljava/lang/String;)Z"⟩ : MethodName)) (z := (⟨"com/example/naysay/naysay/rules/Token", "isSymbol", "(Ljava/lang/String;)Z"⟩ : MethodName)) hown (mvT hZ (hw _ (List.mem_of_getElem? (i := 64) rfl))) (mvT hZ (hw _ (List.mem_of_getElem? (i := 65) rfl))) (notFace_of_selects (args := #[]) (mvT hZ (hw _ (List.mem_of_getElem? (i := 67) rfl)))) (mvT hZ (hw _ (List.mem_of_getElem? (i := 67) rfl))) (mvT hZ (hw _ (List.mem_of_getElem? (i := 66) rfl))) (by decide) (own_back (W := 0) (rmS_2_2 l Z a0 hw [] b182 kd b179 tt179 kt179 b180 tt180 kt180 (nar .byte ((nar .char yy3).toInt8.toInt32)) (nar .byte ((nar .char yy4).toInt8.toInt32)) (nar .byte ((nar .char z9).toInt8.toInt32)) (nar .byte ((nar .char z10).toInt8.toInt32)) w_NUMBER w_SYMBOL w_NAME w_END w_STRING i_COMPACT_STRINGS v_SIOOBE_FORMATTER T185.heap n0 O185 eq185 fq185_0 fq185_1 ft187 ft188 ft189 ft190 ne_b179_b180 ft191 ft192 ft193 ft194 WW) hZ (hw _ (List.mem_of_getElem? (i := 68) rfl)) (hw _ (List.mem_of_getElem? (i := 48) rfl)) (by decide) (by decide)) q186a q186c (g := (mkF m 250 #[iv p1, iv p2, iv p3, iv p4, rv kd, iv 2, iv yy3, iv yy4, iv 2, iv z9, iv z10, iv 0, rv b179, rv b180, iv z14, rv b182] [(.ref b180), (.ref b182)])) rfl (by rw [hml]; rfl) (Steps.refl _) (argsL := [(.ref b180)]) (rest := []) (lenOf pd__Ljava_lang_String__Z rfl) rfl (by show 2 * 0 + _ ≤ _; exact Nat.le_of_eq rfl) (hb hby at_250) (fun _ _ => ⟨rfl, rfl, (by decide : 7 + 0 ≤ _), (by decide : 19 + 0 ≤ _)⟩)
            dsimp only [Pt.U, Pt.locs, Pt.cells, Pt.slots] at X186 lq186 yq186 zz186 st186 hQ186
            subst lq186 yq186 zz186
            obtain ⟨rfl, Nq186, kq186⟩ := hQ186
            have N186 := Fr.app N185 Nq186
            refine Go.tr (f' := (mkF m 253 #[iv p1, iv p2, iv p3, iv p4, rv kd, iv 2, iv yy3, iv yy4, iv 2, iv z9, iv z10, iv 0, rv b179, rv b180, iv z14, rv b182] [(.int (syI_2_2 kd w_SYMBOL (nar .byte ((nar .char yy3).toInt8.toInt32)) (nar .byte ((nar .char yy4).toInt8.toInt32)) (nar .byte ((nar .char z9).toInt8.toInt32)) (nar .byte ((nar .char z10).toInt8.toInt32))))])) st186 ?_
            refine Go.st (f' := (mkF m 255 #[iv p1, iv p2, iv p3, iv p4, rv kd, iv 2, iv yy3, iv yy4, iv 2, iv z9, iv z10, iv 0, rv b179, rv b180, iv z14, rv b182] [(.int z14), (.int (syI_2_2 kd w_SYMBOL (nar .byte ((nar .char yy3).toInt8.toInt32)) (nar .byte ((nar .char yy4).toInt8.toInt32)) (nar .byte ((nar .char z9).toInt8.toInt32)) (nar .byte ((nar .char z10).toInt8.toInt32))))])) (fun _ k => XS.iload X186.here hx rfl (hb hby at_253) rfl k) ?_
            refine Go.st (f' := (mkF m 258 #[iv p1, iv p2, iv p3, iv p4, rv kd, iv 2, iv yy3, iv yy4, iv 2, iv z9, iv z10, iv 0, rv b179, rv b180, iv z14, rv b182] [])) (fun _ k => XS.icmpNo X186.here hx rfl (hb hby at_255) rfl (teq hz14.symm).2 k) ?_
            refine Go.st (f' := (mkF m 259 #[iv p1, iv p2, iv p3, iv p4, rv kd, iv 2, iv yy3, iv yy4, iv 2, iv z9, iv z10, iv 0, rv b179, rv b180, iv z14, rv b182] [(.int 1)])) (fun _ k => XS.iconst X186.here hx rfl (hb hby at_258) k) ?_
            refine Go.st (f' := (mkF m 263 #[iv p1, iv p2, iv p3, iv p4, rv kd, iv 2, iv yy3, iv yy4, iv 2, iv z9, iv z10, iv 0, rv b179, rv b180, iv z14, rv b182] [(.int 1)])) (fun _ k => XS.goto X186.here hx rfl (pc0 := 259) (pc' := 263) rfl (hb hby at_259) (by decide) (by decide) k) ?_
            refine GoW.retB X186 hlk hx (t := .boolean) hret (by simp) (hb hby at_263) kq186 hS (Nat.zero_le _) hZ hEL CR185 hh ?_ (by decide) (by decide)
            exact ⟨rfl, N186⟩
          by_cases cd195 : kd = w_SYMBOL
          · refine Go.st (f' := (mkF m 159 #[iv p1, iv p2, iv p3, iv p4, rv kd, iv 2, iv yy3, iv yy4, iv 2, iv z9, iv z10, iv 0, rv b179, rv b180, .unset, .unset] [])) (fun _ k => Jvm.RoadKit.acmp (g := (mkF m 156 #[iv p1, iv p2, iv p3, iv p4, rv kd, iv 2, iv yy3, iv yy4, iv 2, iv z9, iv z10, iv 0, rv b179, rv b180, .unset, .unset] [(.ref w_SYMBOL), (.ref kd)])) X181 hx rfl rfl rfl (pc0 := 156) (pc' := 159) (same := true) rfl (hb hby at_156) rfl (decide_eq_true (congrArg Value.ref cd195)) (by decide) (by decide) k) ?_
            refine Go.st (f' := (mkF m 161 #[iv p1, iv p2, iv p3, iv p4, rv kd, iv 2, iv yy3, iv yy4, iv 2, iv z9, iv z10, iv 0, rv b179, rv b180, .unset, .unset] [(.int 0)])) (fun _ k => XS.iload X181.here hx rfl (hb hby at_159) rfl k) ?_
            refine Go.st (f' := (mkF m 164 #[iv p1, iv p2, iv p3, iv p4, rv kd, iv 2, iv yy3, iv yy4, iv 2, iv z9, iv z10, iv 0, rv b179, rv b180, .unset, .unset] [])) (fun _ k => XS.ifNo X181.here hx rfl (hb hby at_161) rfl (by decide) k) ?_
            refine Go.st (f' := (mkF m 166 #[iv p1, iv p2, iv p3, iv p4, rv kd, iv 2, iv yy3, iv yy4, iv 2, iv z9, iv z10, iv 0, rv b179, rv b180, .unset, .unset] [(.int 2)])) (fun _ k => XS.iload X181.here hx rfl (hb hby at_164) rfl k) ?_
            refine Go.st (f' := (mkF m 168 #[iv p1, iv p2, iv p3, iv p4, rv kd, iv 2, iv yy3, iv yy4, iv 2, iv z9, iv z10, iv 0, rv b179, rv b180, .unset, .unset] [(.int 2), (.int 2)])) (fun _ k => XS.iload X181.here hx rfl (hb hby at_166) rfl k) ?_
            refine Go.st (f' := (mkF m 177 #[iv p1, iv p2, iv p3, iv p4, rv kd, iv 2, iv yy3, iv yy4, iv 2, iv z9, iv z10, iv 0, rv b179, rv b180, .unset, .unset] [])) (fun _ k => XS.icmpYes X181.here hx rfl (pc0 := 168) (pc' := 177) rfl (hb hby at_168) rfl (by decide) (by decide) (by decide) k) ?_
            refine Go.st (f' := (mkF m 179 #[iv p1, iv p2, iv p3, iv p4, rv kd, iv 2, iv yy3, iv yy4, iv 2, iv z9, iv z10, iv 0, rv b179, rv b180, .unset, .unset] [(.int 2)])) (fun _ k => XS.iload X181.here hx rfl (hb hby at_177) rfl k) ?_
            refine Go.st (f' := (mkF m 188 #[iv p1, iv p2, iv p3, iv p4, rv kd, iv 2, iv yy3, iv yy4, iv 2, iv z9, iv z10, iv 0, rv b179, rv b180, .unset, .unset] [])) (fun _ k => XS.ifYes X181.here hx rfl (pc0 := 179) (pc' := 188) rfl (hb hby at_179) rfl (by decide) (by decide) (by decide) k) ?_
            refine Go.st (f' := (mkF m 190 #[iv p1, iv p2, iv p3, iv p4, rv kd, iv 2, iv yy3, iv yy4, iv 2, iv z9, iv z10, iv 0, rv b179, rv b180, .unset, .unset] [(.int 2)])) (fun _ k => XS.iload X181.here hx rfl (hb hby at_188) rfl k) ?_
            refine Go.st (f' := (mkF m 191 #[iv p1, iv p2, iv p3, iv p4, rv kd, iv 2, iv yy3, iv yy4, iv 2, iv z9, iv z10, iv 0, rv b179, rv b180, .unset, .unset] [(.int 1), (.int 2)])) (fun _ k => XS.iconst X181.here hx rfl (hb hby at_190) k) ?_
            refine Go.st (f' := (mkF m 211 #[iv p1, iv p2, iv p3, iv p4, rv kd, iv 2, iv yy3, iv yy4, iv 2, iv z9, iv z10, iv 0, rv b179, rv b180, .unset, .unset] [])) (fun _ k => XS.icmpYes X181.here hx rfl (pc0 := 191) (pc' := 211) rfl (hb hby at_191) rfl (by decide) (by decide) (by decide) k) ?_
            refine Go.st (f' := (mkF m 213 #[iv p1, iv p2, iv p3, iv p4, rv kd, iv 2, iv yy3, iv yy4, iv 2, iv z9, iv z10, iv 0, rv b179, rv b180, .unset, .unset] [(.int yy3)])) (fun _ k => XS.iload X181.here hx rfl (hb hby at_211) rfl k) ?_
            refine Go.st (f' := (mkF m 215 #[iv p1, iv p2, iv p3, iv p4, rv kd, iv 2, iv yy3, iv yy4, iv 2, iv z9, iv z10, iv 0, rv b179, rv b180, .unset, .unset] [(.int z9), (.int yy3)])) (fun _ k => XS.iload X181.here hx rfl (hb hby at_213) rfl k) ?_
            by_cases cd196 : yy3 = z9
            · refine Go.st (f' := (mkF m 218 #[iv p1, iv p2, iv p3, iv p4, rv kd, iv 2, iv yy3, iv yy4, iv 2, iv z9, iv z10, iv 0, rv b179, rv b180, .unset, .unset] [])) (fun _ k => XS.icmpNo X181.here hx rfl (hb hby at_215) rfl (teq cd196).2 k) ?_
              refine Go.st (f' := (mkF m 220 #[iv p1, iv p2, iv p3, iv p4, rv kd, iv 2, iv yy3, iv yy4, iv 2, iv z9, iv z10, iv 0, rv b179, rv b180, .unset, .unset] [(.int yy4)])) (fun _ k => XS.iload X181.here hx rfl (hb hby at_218) rfl k) ?_
              refine Go.st (f' := (mkF m 222 #[iv p1, iv p2, iv p3, iv p4, rv kd, iv 2, iv yy3, iv yy4, iv 2, iv z9, iv z10, iv 0, rv b179, rv b180, .unset, .unset] [(.int z10), (.int yy4)])) (fun _ k => XS.iload X181.here hx rfl (hb hby at_220) rfl k) ?_
              by_cases cd197 : yy4 = z10
              · refine Go.st (f' := (mkF m 225 #[iv p1, iv p2, iv p3, iv p4, rv kd, iv 2, iv yy3, iv yy4, iv 2, iv z9, iv z10, iv 0, rv b179, rv b180, .unset, .unset] [])) (fun _ k => XS.icmpNo X181.here hx rfl (hb hby at_222) rfl (teq cd197).2 k) ?_
                refine Go.st (f' := (mkF m 226 #[iv p1, iv p2, iv p3, iv p4, rv kd, iv 2, iv yy3, iv yy4, iv 2, iv z9, iv z10, iv 0, rv b179, rv b180, .unset, .unset] [(.int 1)])) (fun _ k => XS.iconst X181.here hx rfl (hb hby at_225) k) ?_
                refine Go.st (f' := (mkF m 230 #[iv p1, iv p2, iv p3, iv p4, rv kd, iv 2, iv yy3, iv yy4, iv 2, iv z9, iv z10, iv 0, rv b179, rv b180, .unset, .unset] [(.int 1)])) (fun _ k => XS.goto X181.here hx rfl (pc0 := 226) (pc' := 230) rfl (hb hby at_226) (by decide) (by decide) k) ?_
                refine Go.st (f' := (mkF m 232 #[iv p1, iv p2, iv p3, iv p4, rv kd, iv 2, iv yy3, iv yy4, iv 2, iv z9, iv z10, iv 0, rv b179, rv b180, iv 1, .unset] [])) (fun _ k => XS.istore X181.here hx rfl (hb hby at_230) rfl (l' := #[iv p1, iv p2, iv p3, iv p4, rv kd, iv 2, iv yy3, iv yy4, iv 2, iv z9, iv z10, iv 0, rv b179, rv b180, iv 1, .unset]) rfl k) ?_
                exact J2 (1 : Int32) (by rw [syI_2_2, if_pos cd195]; show _ = (if eqI_2_2 _ _ _ _ = 0 then _ else _); rw [eqI_2_2]; show _ = (if (if elI_2_2 _ _ _ _ = 0 then _ else _) = 0 then _ else _); rw [elI_2_2, if_pos ((own_lb ⟨(hyy3 ▸ own_b _).1, (hyy3 ▸ own_b _).2⟩ ⟨hz9.1, hz9.2⟩).mpr cd196), if_pos ((own_lb ⟨(hyy4 ▸ own_b _).1, (hyy4 ▸ own_b _).2⟩ ⟨hz10.1, hz10.2⟩).mpr cd197)] <;> rfl)
              · refine Go.st (f' := (mkF m 229 #[iv p1, iv p2, iv p3, iv p4, rv kd, iv 2, iv yy3, iv yy4, iv 2, iv z9, iv z10, iv 0, rv b179, rv b180, .unset, .unset] [])) (fun _ k => XS.icmpYes X181.here hx rfl (pc0 := 222) (pc' := 229) rfl (hb hby at_222) rfl (feq cd197).2 (by decide) (by decide) k) ?_
                refine Go.st (f' := (mkF m 230 #[iv p1, iv p2, iv p3, iv p4, rv kd, iv 2, iv yy3, iv yy4, iv 2, iv z9, iv z10, iv 0, rv b179, rv b180, .unset, .unset] [(.int 0)])) (fun _ k => XS.iconst X181.here hx rfl (hb hby at_229) k) ?_
                refine Go.st (f' := (mkF m 232 #[iv p1, iv p2, iv p3, iv p4, rv kd, iv 2, iv yy3, iv yy4, iv 2, iv z9, iv z10, iv 0, rv b179, rv b180, iv 0, .unset] [])) (fun _ k => XS.istore X181.here hx rfl (hb hby at_230) rfl (l' := #[iv p1, iv p2, iv p3, iv p4, rv kd, iv 2, iv yy3, iv yy4, iv 2, iv z9, iv z10, iv 0, rv b179, rv b180, iv 0, .unset]) rfl k) ?_
                exact J2 (0 : Int32) (by rw [syI_2_2, if_pos cd195]; show _ = (if eqI_2_2 _ _ _ _ = 0 then _ else _); rw [eqI_2_2]; show _ = (if (if elI_2_2 _ _ _ _ = 0 then _ else _) = 0 then _ else _); rw [elI_2_2, if_pos ((own_lb ⟨(hyy3 ▸ own_b _).1, (hyy3 ▸ own_b _).2⟩ ⟨hz9.1, hz9.2⟩).mpr cd196), if_neg (fun z => cd197 ((own_lb ⟨(hyy4 ▸ own_b _).1, (hyy4 ▸ own_b _).2⟩ ⟨hz10.1, hz10.2⟩).mp z))] <;> rfl)
            · refine Go.st (f' := (mkF m 229 #[iv p1, iv p2, iv p3, iv p4, rv kd, iv 2, iv yy3, iv yy4, iv 2, iv z9, iv z10, iv 0, rv b179, rv b180, .unset, .unset] [])) (fun _ k => XS.icmpYes X181.here hx rfl (pc0 := 215) (pc' := 229) rfl (hb hby at_215) rfl (feq cd196).2 (by decide) (by decide) k) ?_
              refine Go.st (f' := (mkF m 230 #[iv p1, iv p2, iv p3, iv p4, rv kd, iv 2, iv yy3, iv yy4, iv 2, iv z9, iv z10, iv 0, rv b179, rv b180, .unset, .unset] [(.int 0)])) (fun _ k => XS.iconst X181.here hx rfl (hb hby at_229) k) ?_
              refine Go.st (f' := (mkF m 232 #[iv p1, iv p2, iv p3, iv p4, rv kd, iv 2, iv yy3, iv yy4, iv 2, iv z9, iv z10, iv 0, rv b179, rv b180, iv 0, .unset] [])) (fun _ k => XS.istore X181.here hx rfl (hb hby at_230) rfl (l' := #[iv p1, iv p2, iv p3, iv p4, rv kd, iv 2, iv yy3, iv yy4, iv 2, iv z9, iv z10, iv 0, rv b179, rv b180, iv 0, .unset]) rfl k) ?_
              exact J2 (0 : Int32) (by rw [syI_2_2, if_pos cd195]; show _ = (if eqI_2_2 _ _ _ _ = 0 then _ else _); rw [eqI_2_2]; show _ = (if (if elI_2_2 _ _ _ _ = 0 then _ else _) = 0 then _ else _); rw [elI_2_2, if_neg (fun z => cd196 ((own_lb ⟨(hyy3 ▸ own_b _).1, (hyy3 ▸ own_b _).2⟩ ⟨hz9.1, hz9.2⟩).mp z))] <;> rfl)
          · refine Go.st (f' := (mkF m 171 #[iv p1, iv p2, iv p3, iv p4, rv kd, iv 2, iv yy3, iv yy4, iv 2, iv z9, iv z10, iv 0, rv b179, rv b180, .unset, .unset] [])) (fun _ k => Jvm.RoadKit.acmp (g := (mkF m 156 #[iv p1, iv p2, iv p3, iv p4, rv kd, iv 2, iv yy3, iv yy4, iv 2, iv z9, iv z10, iv 0, rv b179, rv b180, .unset, .unset] [(.ref w_SYMBOL), (.ref kd)])) X181 hx rfl rfl rfl (pc0 := 156) (pc' := 171) (same := false) rfl (hb hby at_156) rfl (decide_eq_false fun q => cd195 (Value.ref.inj q)) (by decide) (by decide) k) ?_
            refine Go.st (f' := (mkF m 172 #[iv p1, iv p2, iv p3, iv p4, rv kd, iv 2, iv yy3, iv yy4, iv 2, iv z9, iv z10, iv 0, rv b179, rv b180, .unset, .unset] [(.int 0)])) (fun _ k => XS.iconst X181.here hx rfl (hb hby at_171) k) ?_
            refine Go.st (f' := (mkF m 174 #[iv p1, iv p2, iv p3, iv p4, rv kd, iv 2, iv yy3, iv yy4, iv 2, iv z9, iv z10, iv 0, rv b179, rv b180, iv 0, .unset] [])) (fun _ k => XS.istore X181.here hx rfl (hb hby at_172) rfl (l' := #[iv p1, iv p2, iv p3, iv p4, rv kd, iv 2, iv yy3, iv yy4, iv 2, iv z9, iv z10, iv 0, rv b179, rv b180, iv 0, .unset]) rfl k) ?_
            refine Go.st (f' := (mkF m 232 #[iv p1, iv p2, iv p3, iv p4, rv kd, iv 2, iv yy3, iv yy4, iv 2, iv z9, iv z10, iv 0, rv b179, rv b180, iv 0, .unset] [])) (fun _ k => XS.goto X181.here hx rfl (pc0 := 174) (pc' := 232) rfl (hb hby at_174) (by decide) (by decide) k) ?_
            exact J2 (0 : Int32) (by rw [syI_2_2, if_neg cd195])
      · refine Go.st (f' := (mkF m 122 #[iv p1, iv p2, iv p3, iv p4, rv kd, iv 2, iv yy3, iv yy4, iv z8, iv z9, iv z10, iv 1, .unset, .unset, .unset, .unset] [(.int 2)])) (fun _ k => XS.iload X1.here hx rfl (hb hby at_120) rfl k) ?_
        refine Go.st (f' := (mkF m 124 #[iv p1, iv p2, iv p3, iv p4, rv kd, iv 2, iv yy3, iv yy4, iv z8, iv z9, iv z10, iv 1, .unset, .unset, .unset, .unset] [(.int yy3), (.int 2)])) (fun _ k => XS.iload X1.here hx rfl (hb hby at_122) rfl k) ?_
        refine Go.st (f' := (mkF m 126 #[iv p1, iv p2, iv p3, iv p4, rv kd, iv 2, iv yy3, iv yy4, iv z8, iv z9, iv z10, iv 1, .unset, .unset, .unset, .unset] [(.int yy4), (.int yy3), (.int 2)])) (fun _ k => XS.iload X1.here hx rfl (hb hby at_124) rfl k) ?_
        obtain ⟨_, _, ⟨T198, L198, kk198, nn198⟩, -, X198, ⟨Lc198, hQ198, lq198, yq198, zz198⟩, st198⟩ := Jvm.LawKit.callS X1 hx (y := (⟨"com/example/naysay/naysay/rules/TokenIsSymbolPinLaw", "mk", "(ICC)Ljava/lang/String;"⟩ : MethodName)) hown (mvT hZ (hw _ (List.mem_of_getElem? (i := 8) rfl))) (mvT hZ (hw _ (List.mem_of_getElem? (i := 9) rfl))) (mvT hZ (hw _ (List.mem_of_getElem? (i := 2) rfl))) (mvT hZ (hw _ (List.mem_of_getElem? (i := 10) rfl))) (by decide) (own_back (W := 0) (rmM_2 l Z a0 hw [] yy3 yy4 w_NUMBER w_SYMBOL w_NAME w_END w_STRING i_COMPACT_STRINGS v_SIOOBE_FORMATTER h0 n0 O0 (hyy3 ▸ own_b _).1 (hyy4 ▸ own_b _).1 (hyy3 ▸ own_b _).2 (hyy4 ▸ own_b _).2 WW) hZ (hw _ (List.mem_of_getElem? (i := 10) rfl)) (hw _ (List.mem_of_getElem? (i := 2) rfl)) (by decide) (by decide)) (g := (mkF m 126 #[iv p1, iv p2, iv p3, iv p4, rv kd, iv 2, iv yy3, iv yy4, iv z8, iv z9, iv z10, iv 1, .unset, .unset, .unset, .unset] [(.int yy4), (.int yy3), (.int 2)])) rfl (by rw [hml]; rfl) (argsL := [(.int (2 : Int32)), (.int yy3), (.int yy4)]) (rest := []) (lenOf pd__ICC_Ljava_lang_String_ rfl) rfl (by show 2 * 0 + _ ≤ _; exact Nat.le_of_eq rfl) (hb hby at_126) (fun _ _ => ⟨rfl, kq1, (by decide : 0 + 3 ≤ _), (by decide : 0 + 8 ≤ _)⟩)
        dsimp only [Pt.U, Pt.locs, Pt.cells, Pt.slots] at X198 lq198 yq198 zz198 st198 hQ198
        subst lq198 yq198 zz198
        obtain ⟨b198, rfl, Nq198, zb198, kq198, eq198, cq198, tt198, kt198, zq198, fq198, vq198⟩ := hQ198
        have N198 := Fr.app N1 Nq198
        have ne_w_NUMBER_b198 : w_NUMBER ≠ b198 := Nat.ne_of_lt (Nat.lt_of_lt_of_le lt_w_NUMBER (Nat.le_trans O0.2.1 zb198))
        have ne_w_SYMBOL_b198 : w_SYMBOL ≠ b198 := Nat.ne_of_lt (Nat.lt_of_lt_of_le lt_w_SYMBOL (Nat.le_trans O0.2.1 zb198))
        have ne_w_NAME_b198 : w_NAME ≠ b198 := Nat.ne_of_lt (Nat.lt_of_lt_of_le lt_w_NAME (Nat.le_trans O0.2.1 zb198))
        have ne_w_END_b198 : w_END ≠ b198 := Nat.ne_of_lt (Nat.lt_of_lt_of_le lt_w_END (Nat.le_trans O0.2.1 zb198))
        have ne_w_STRING_b198 : w_STRING ≠ b198 := Nat.ne_of_lt (Nat.lt_of_lt_of_le lt_w_STRING (Nat.le_trans O0.2.1 zb198))
        have g_b198 : n0 ≤ b198 := Nat.le_trans (O0.1 ▸ O0.2.1) zb198
        have sn_b198 : Safe Z EL s.vm h0 b198 := Safe.new zb198
        have ne_w_NUMBER_tt198 : w_NUMBER ≠ tt198 := Nat.ne_of_lt (Nat.lt_of_lt_of_le lt_w_NUMBER (Nat.le_trans O0.2.1 zq198))
        have ne_w_SYMBOL_tt198 : w_SYMBOL ≠ tt198 := Nat.ne_of_lt (Nat.lt_of_lt_of_le lt_w_SYMBOL (Nat.le_trans O0.2.1 zq198))
        have ne_w_NAME_tt198 : w_NAME ≠ tt198 := Nat.ne_of_lt (Nat.lt_of_lt_of_le lt_w_NAME (Nat.le_trans O0.2.1 zq198))
        have ne_w_END_tt198 : w_END ≠ tt198 := Nat.ne_of_lt (Nat.lt_of_lt_of_le lt_w_END (Nat.le_trans O0.2.1 zq198))
        have ne_w_STRING_tt198 : w_STRING ≠ tt198 := Nat.ne_of_lt (Nat.lt_of_lt_of_le lt_w_STRING (Nat.le_trans O0.2.1 zq198))
        have g_tt198 : n0 ≤ tt198 := Nat.le_trans (O0.1 ▸ O0.2.1) zq198
        have sn_tt198 : Safe Z EL s.vm h0 tt198 := Safe.new zq198
        have O198 : Old Z n0 T198.heap := O0.keep kq198 all0
        have CR198 : CHr Z EL s.vm h0 s.vm T198.heap := CR0.trans (CHr.keep kq198 sf0 CR0.1)
        have lt_b198 := eq198.lt
        have lt_tt198 := vq198.lt
        refine Go.st (f' := (mkF m 129 #[iv p1, iv p2, iv p3, iv p4, rv kd, iv 2, iv yy3, iv yy4, iv z8, iv z9, iv z10, iv 1, .unset, .unset, .unset, .unset] [(.ref b198)])) (fun _ k => st198 _ k) ?_
        refine Go.st (f' := (mkF m 131 #[iv p1, iv p2, iv p3, iv p4, rv kd, iv 2, iv yy3, iv yy4, iv z8, iv z9, iv z10, iv 1, rv b198, .unset, .unset, .unset] [])) (fun _ k => XS.astore X198.here hx rfl (hb hby at_129) rfl rfl (l' := #[iv p1, iv p2, iv p3, iv p4, rv kd, iv 2, iv yy3, iv yy4, iv z8, iv z9, iv z10, iv 1, rv b198, .unset, .unset, .unset]) rfl k) ?_
        refine Go.st (f' := (mkF m 133 #[iv p1, iv p2, iv p3, iv p4, rv kd, iv 2, iv yy3, iv yy4, iv z8, iv z9, iv z10, iv 1, rv b198, .unset, .unset, .unset] [(.int 1)])) (fun _ k => XS.iload X198.here hx rfl (hb hby at_131) rfl k) ?_
        refine Go.st (f' := (mkF m 136 #[iv p1, iv p2, iv p3, iv p4, rv kd, iv 2, iv yy3, iv yy4, iv z8, iv z9, iv z10, iv 1, rv b198, .unset, .unset, .unset] [])) (fun _ k => XS.ifNo X198.here hx rfl (hb hby at_133) rfl (by decide) k) ?_
        refine Go.st (f' := (mkF m 137 #[iv p1, iv p2, iv p3, iv p4, rv kd, iv 2, iv yy3, iv yy4, iv z8, iv z9, iv z10, iv 1, rv b198, .unset, .unset, .unset] [.null])) (fun _ k => XS.aconstNull X198.here hx rfl (hb hby at_136) k) ?_
        refine Go.st (f' := (mkF m 149 #[iv p1, iv p2, iv p3, iv p4, rv kd, iv 2, iv yy3, iv yy4, iv z8, iv z9, iv z10, iv 1, rv b198, .unset, .unset, .unset] [.null])) (fun _ k => XS.goto X198.here hx rfl (pc0 := 137) (pc' := 149) rfl (hb hby at_137) (by decide) (by decide) k) ?_
        refine Go.st (f' := (mkF m 151 #[iv p1, iv p2, iv p3, iv p4, rv kd, iv 2, iv yy3, iv yy4, iv z8, iv z9, iv z10, iv 1, rv b198, .val .null, .unset, .unset] [])) (fun _ k => XS.astore X198.here hx rfl (hb hby at_149) rfl rfl (l' := #[iv p1, iv p2, iv p3, iv p4, rv kd, iv 2, iv yy3, iv yy4, iv z8, iv z9, iv z10, iv 1, rv b198, .val .null, .unset, .unset]) rfl k) ?_
        refine Go.st (f' := (mkF m 153 #[iv p1, iv p2, iv p3, iv p4, rv kd, iv 2, iv yy3, iv yy4, iv z8, iv z9, iv z10, iv 1, rv b198, .val .null, .unset, .unset] [(.ref kd)])) (fun _ k => XS.aload X198.here hx rfl (hb hby at_151) rfl rfl k) ?_
        obtain ⟨T199, X199, e199, st199⟩ := getS2 X198 hx hZ hown (host := "") (Or.inl (hw _ (List.mem_of_getElem? (i := 44) rfl))) Via.refl rfl (S_w_SYMBOL.ext O198.2) (g := (mkF m 153 #[iv p1, iv p2, iv p3, iv p4, rv kd, iv 2, iv yy3, iv yy4, iv z8, iv z9, iv z10, iv 1, rv b198, .val .null, .unset, .unset] [(.ref kd)])) rfl (hb hby at_153)
        refine Go.st (f' := (mkF m 156 #[iv p1, iv p2, iv p3, iv p4, rv kd, iv 2, iv yy3, iv yy4, iv z8, iv z9, iv z10, iv 1, rv b198, .val .null, .unset, .unset] [(.ref w_SYMBOL), (.ref kd)])) (fun _ k => st199 _ k) ?_
        have J2 : ∀ (z14 : Int32), (z14 = (syI_2_N kd w_SYMBOL (nar .byte ((nar .char yy3).toInt8.toInt32)) (nar .byte ((nar .char yy4).toInt8.toInt32)))) → Go p e below (DoneW s Z EL (QL n0) room_1.cells room_1.slots) T199 (mkF m 232 #[iv p1, iv p2, iv p3, iv p4, rv kd, iv 2, iv yy3, iv yy4, iv z8, iv z9, iv z10, iv 1, rv b198, .val .null, iv z14, .unset] []) := by
          intro z14 hz14
          obtain ⟨T200, h200, X200, e200, E200, A200, D200, -, st200⟩ := newO X199 hx hZ hown (hw _ (List.mem_of_getElem? (i := 46) rfl)) (hw _ (List.mem_of_getElem? (i := 47) rfl)) (hw _ (List.mem_of_getElem? (i := 48) rfl)) e199 (g := (mkF m 232 #[iv p1, iv p2, iv p3, iv p4, rv kd, iv 2, iv yy3, iv yy4, iv z8, iv z9, iv z10, iv 1, rv b198, .val .null, iv z14, .unset] [])) rfl (hb hby at_232) (by decide) (by decide)
          obtain ⟨b200, g200⟩ : ∃ z, z = T198.heap.size := ⟨_, rfl⟩
          rw [← g200] at A200 D200 st200
          have ne_b198_b200 : b198 ≠ b200 := Nat.ne_of_lt (Nat.lt_of_lt_of_eq lt_b198 g200.symm)
          have ne_tt198_b200 : tt198 ≠ b200 := Nat.ne_of_lt (Nat.lt_of_lt_of_eq lt_tt198 g200.symm)
          have ne_w_NUMBER_b200 : w_NUMBER ≠ b200 := Nat.ne_of_lt (Nat.lt_of_lt_of_le lt_w_NUMBER (Nat.le_trans O198.2.1 (Nat.le_of_eq g200.symm)))
          have ne_w_SYMBOL_b200 : w_SYMBOL ≠ b200 := Nat.ne_of_lt (Nat.lt_of_lt_of_le lt_w_SYMBOL (Nat.le_trans O198.2.1 (Nat.le_of_eq g200.symm)))
          have ne_w_NAME_b200 : w_NAME ≠ b200 := Nat.ne_of_lt (Nat.lt_of_lt_of_le lt_w_NAME (Nat.le_trans O198.2.1 (Nat.le_of_eq g200.symm)))
          have ne_w_END_b200 : w_END ≠ b200 := Nat.ne_of_lt (Nat.lt_of_lt_of_le lt_w_END (Nat.le_trans O198.2.1 (Nat.le_of_eq g200.symm)))
          have ne_w_STRING_b200 : w_STRING ≠ b200 := Nat.ne_of_lt (Nat.lt_of_lt_of_le lt_w_STRING (Nat.le_trans O198.2.1 (Nat.le_of_eq g200.symm)))
          have g_b200 : n0 ≤ b200 := Nat.le_trans (O198.1 ▸ O198.2.1) (Nat.le_of_eq g200.symm)
          have O200 : Old Z n0 h200 := O198.ext E200
          have CR200 : CHr Z EL s.vm h0 s.vm h200 := CR198.trans (CHr.ext E200 CR198.1)
          have sf_b200 : Safe Z EL s.vm h200 b200 := (Safe.new (Nat.le_of_eq g200.symm)).ext E200 CR198.1
          have lt_b200 := A200.lt
          have F_kind_b200 : Fld Z h200 b200 "com/example/naysay/naysay/rules/Token" "kind" "Lcom/example/naysay/naysay/rules/Token$Kind;" .null := D200 (Or.inr (hw _ (List.mem_of_getElem? (i := 59) rfl))) (ty := (.object "com/example/naysay/naysay/rules/Token$Kind")) (by decide)
          have F_text_b200 : Fld Z h200 b200 "com/example/naysay/naysay/rules/Token" "text" "Ljava/lang/String;" .null := D200 (Or.inr (hw _ (List.mem_of_getElem? (i := 61) rfl))) (ty := (.object "java/lang/String")) (by decide)
          have F_column_b200 : Fld Z h200 b200 "com/example/naysay/naysay/rules/Token" "column" "I" (.int (0 : Int32)) := D200 (Or.inr (hw _ (List.mem_of_getElem? (i := 63) rfl))) (ty := .int) (by decide)
          refine Go.st (f' := (mkF m 235 #[iv p1, iv p2, iv p3, iv p4, rv kd, iv 2, iv yy3, iv yy4, iv z8, iv z9, iv z10, iv 1, rv b198, .val .null, iv z14, .unset] [(.ref b200)])) (fun _ k => st200 _ k) ?_
          refine Go.st (f' := (mkF m 236 #[iv p1, iv p2, iv p3, iv p4, rv kd, iv 2, iv yy3, iv yy4, iv z8, iv z9, iv z10, iv 1, rv b198, .val .null, iv z14, .unset] [(.ref b200), (.ref b200)])) (fun _ k => XS.dup X200.here hx rfl (hb hby at_235) rfl rfl k) ?_
          refine Go.st (f' := (mkF m 238 #[iv p1, iv p2, iv p3, iv p4, rv kd, iv 2, iv yy3, iv yy4, iv z8, iv z9, iv z10, iv 1, rv b198, .val .null, iv z14, .unset] [(.ref kd), (.ref b200), (.ref b200)])) (fun _ k => XS.aload X200.here hx rfl (hb hby at_236) rfl rfl k) ?_
          refine Go.st (f' := (mkF m 240 #[iv p1, iv p2, iv p3, iv p4, rv kd, iv 2, iv yy3, iv yy4, iv z8, iv z9, iv z10, iv 1, rv b198, .val .null, iv z14, .unset] [(.ref b198), (.ref kd), (.ref b200), (.ref b200)])) (fun _ k => XS.aload X200.here hx rfl (hb hby at_238) rfl rfl k) ?_
          refine Go.st (f' := (mkF m 241 #[iv p1, iv p2, iv p3, iv p4, rv kd, iv 2, iv yy3, iv yy4, iv z8, iv z9, iv z10, iv 1, rv b198, .val .null, iv z14, .unset] [(.int p4), (.ref b198), (.ref kd), (.ref b200), (.ref b200)])) (fun _ k => XS.iloadN X200.here hx rfl (hb hby at_240) rfl k) ?_
          obtain ⟨_, _, ⟨T201, L201, kk201, nn201⟩, -, X201, ⟨Lc201, hQ201, lq201, yq201, zz201⟩, st201⟩ := X200.specialBack hx (y := (⟨"com/example/naysay/naysay/rules/Token", "<init>", "(Lcom/example/naysay/naysay/rules/Token$Kind;Ljava/lang/String;I)V"⟩ : MethodName)) rfl hown (mvT hZ (hw _ (List.mem_of_getElem? (i := 49) rfl))) (mvT hZ (hw _ (List.mem_of_getElem? (i := 50) rfl))) (mvT hZ (hw _ (List.mem_of_getElem? (i := 51) rfl))) (by decide) (own_back (W := 1) (rmT l Z a0 hw [] b200 kd b198 p4 h200 n0 O200 g_b200 A200 F_kind_b200 F_text_b200 F_column_b200 ) hZ (hw _ (List.mem_of_getElem? (i := 51) rfl)) (hw _ (List.mem_of_getElem? (i := 48) rfl)) (by decide) (by decide)) (g := (mkF m 241 #[iv p1, iv p2, iv p3, iv p4, rv kd, iv 2, iv yy3, iv yy4, iv z8, iv z9, iv z10, iv 1, rv b198, .val .null, iv z14, .unset] [(.int p4), (.ref b198), (.ref kd), (.ref b200), (.ref b200)])) rfl (by rw [hml]; rfl) (Steps.refl _) (a := b200) (argsL := [(.ref kd), (.ref b198), (.int p4)]) (rest := [(.ref b200)]) (lenOf pd__Lcom_example_naysay_naysay_rules_Token_Kind_Ljava_lang_String_I_V rfl) rfl (by show 2 * 0 + _ ≤ _; exact Nat.le_of_eq rfl) (hb hby at_241) (fun _ _ => ⟨rfl, e200, (by decide : 4 + 0 ≤ _), (by decide : 11 + 0 ≤ _)⟩)
          dsimp only [Pt.U, Pt.locs, Pt.cells, Pt.slots] at X201 lq201 yq201 zz201 st201 hQ201
          subst lq201 yq201 zz201
          obtain ⟨rfl, Nq201, kq201, eq201, fq201_0, fq201_1, fq201_2⟩ := hQ201
          have N201 := Fr.app N198 Nq201
          have O201 : Old Z n0 T201.heap := O200.keep kq201 (allS g_b200 all0)
          have CR201 : CHr Z EL s.vm h0 s.vm T201.heap := CR200.trans (CHr.keep kq201 (sfS sf_b200 sf0) CR200.1)
          refine Go.tr (f' := (mkF m 244 #[iv p1, iv p2, iv p3, iv p4, rv kd, iv 2, iv yy3, iv yy4, iv z8, iv z9, iv z10, iv 1, rv b198, .val .null, iv z14, .unset] [(.ref b200)])) st201 ?_
          refine Go.st (f' := (mkF m 246 #[iv p1, iv p2, iv p3, iv p4, rv kd, iv 2, iv yy3, iv yy4, iv z8, iv z9, iv z10, iv 1, rv b198, .val .null, iv z14, rv b200] [])) (fun _ k => XS.astore X201.here hx rfl (hb hby at_244) rfl rfl (l' := #[iv p1, iv p2, iv p3, iv p4, rv kd, iv 2, iv yy3, iv yy4, iv z8, iv z9, iv z10, iv 1, rv b198, .val .null, iv z14, rv b200]) rfl k) ?_
          refine Go.st (f' := (mkF m 248 #[iv p1, iv p2, iv p3, iv p4, rv kd, iv 2, iv yy3, iv yy4, iv z8, iv z9, iv z10, iv 1, rv b198, .val .null, iv z14, rv b200] [(.ref b200)])) (fun _ k => XS.aload X201.here hx rfl (hb hby at_246) rfl rfl k) ?_
          refine Go.st (f' := (mkF m 250 #[iv p1, iv p2, iv p3, iv p4, rv kd, iv 2, iv yy3, iv yy4, iv z8, iv z9, iv z10, iv 1, rv b198, .val .null, iv z14, rv b200] [.null, (.ref b200)])) (fun _ k => XS.aload X201.here hx rfl (hb hby at_248) rfl rfl k) ?_
          have ft203 := ((eq198.ext E200).keep kq201)
          have ft204 := ((cq198.ext E200).keep kq201 (ninS ne_b198_b200 nin0))
          have ft205 := ((fq198.ext E200).keep kq201 (ninS ne_b198_b200 nin0))
          have ft206 := ((vq198.ext E200).keep kq201 (ninS ne_tt198_b200 nin0))
          obtain ⟨cq202, kq202, q202a, q202b, q202c⟩ := isOf hZ rfl eq201
          obtain ⟨_, _, ⟨T202, L202, kk202, nn202⟩, -, X202, ⟨Lc202, hQ202, lq202, yq202, zz202⟩, st202⟩ := X201.virtualBack hx (y := (⟨"com/example/naysay/naysay/rules/Token", "isSymbol", "(Ljava/lang/String;)Z"⟩ : MethodName)) (z := (⟨"com/example/naysay/naysay/rules/Token", "isSymbol", "(Ljava/lang/String;)Z"⟩ : MethodName)) hown (mvT hZ (hw _ (List.mem_of_getElem? (i := 64) rfl))) (mvT hZ (hw _ (List.mem_of_getElem? (i := 65) rfl))) (notFace_of_selects (args := #[]) (mvT hZ (hw _ (List.mem_of_getElem? (i := 67) rfl)))) (mvT hZ (hw _ (List.mem_of_getElem? (i := 67) rfl))) (mvT hZ (hw _ (List.mem_of_getElem? (i := 66) rfl))) (by decide) (own_back (W := 0) (rmS_2_N l Z a0 hw [] b200 kd b198 tt198 kt198 (nar .byte ((nar .char yy3).toInt8.toInt32)) (nar .byte ((nar .char yy4).toInt8.toInt32)) w_NUMBER w_SYMBOL w_NAME w_END w_STRING i_COMPACT_STRINGS v_SIOOBE_FORMATTER T201.heap n0 O201 eq201 fq201_0 fq201_1 ft203 ft204 ft205 ft206 WW) hZ (hw _ (List.mem_of_getElem? (i := 68) rfl)) (hw _ (List.mem_of_getElem? (i := 48) rfl)) (by decide) (by decide)) q202a q202c (g := (mkF m 250 #[iv p1, iv p2, iv p3, iv p4, rv kd, iv 2, iv yy3, iv yy4, iv z8, iv z9, iv z10, iv 1, rv b198, .val .null, iv z14, rv b200] [.null, (.ref b200)])) rfl (by rw [hml]; rfl) (Steps.refl _) (argsL := [.null]) (rest := []) (lenOf pd__Ljava_lang_String__Z rfl) rfl (by show 2 * 0 + _ ≤ _; exact Nat.le_of_eq rfl) (hb hby at_250) (fun _ _ => ⟨rfl, rfl, (by decide : 4 + 0 ≤ _), (by decide : 11 + 0 ≤ _)⟩)
          dsimp only [Pt.U, Pt.locs, Pt.cells, Pt.slots] at X202 lq202 yq202 zz202 st202 hQ202
          subst lq202 yq202 zz202
          obtain ⟨rfl, Nq202, kq202⟩ := hQ202
          have N202 := Fr.app N201 Nq202
          refine Go.tr (f' := (mkF m 253 #[iv p1, iv p2, iv p3, iv p4, rv kd, iv 2, iv yy3, iv yy4, iv z8, iv z9, iv z10, iv 1, rv b198, .val .null, iv z14, rv b200] [(.int (syI_2_N kd w_SYMBOL (nar .byte ((nar .char yy3).toInt8.toInt32)) (nar .byte ((nar .char yy4).toInt8.toInt32))))])) st202 ?_
          refine Go.st (f' := (mkF m 255 #[iv p1, iv p2, iv p3, iv p4, rv kd, iv 2, iv yy3, iv yy4, iv z8, iv z9, iv z10, iv 1, rv b198, .val .null, iv z14, rv b200] [(.int z14), (.int (syI_2_N kd w_SYMBOL (nar .byte ((nar .char yy3).toInt8.toInt32)) (nar .byte ((nar .char yy4).toInt8.toInt32))))])) (fun _ k => XS.iload X202.here hx rfl (hb hby at_253) rfl k) ?_
          refine Go.st (f' := (mkF m 258 #[iv p1, iv p2, iv p3, iv p4, rv kd, iv 2, iv yy3, iv yy4, iv z8, iv z9, iv z10, iv 1, rv b198, .val .null, iv z14, rv b200] [])) (fun _ k => XS.icmpNo X202.here hx rfl (hb hby at_255) rfl (teq hz14.symm).2 k) ?_
          refine Go.st (f' := (mkF m 259 #[iv p1, iv p2, iv p3, iv p4, rv kd, iv 2, iv yy3, iv yy4, iv z8, iv z9, iv z10, iv 1, rv b198, .val .null, iv z14, rv b200] [(.int 1)])) (fun _ k => XS.iconst X202.here hx rfl (hb hby at_258) k) ?_
          refine Go.st (f' := (mkF m 263 #[iv p1, iv p2, iv p3, iv p4, rv kd, iv 2, iv yy3, iv yy4, iv z8, iv z9, iv z10, iv 1, rv b198, .val .null, iv z14, rv b200] [(.int 1)])) (fun _ k => XS.goto X202.here hx rfl (pc0 := 259) (pc' := 263) rfl (hb hby at_259) (by decide) (by decide) k) ?_
          refine GoW.retB X202 hlk hx (t := .boolean) hret (by simp) (hb hby at_263) kq202 hS (Nat.zero_le _) hZ hEL CR201 hh ?_ (by decide) (by decide)
          exact ⟨rfl, N202⟩
        by_cases cd207 : kd = w_SYMBOL
        · refine Go.st (f' := (mkF m 159 #[iv p1, iv p2, iv p3, iv p4, rv kd, iv 2, iv yy3, iv yy4, iv z8, iv z9, iv z10, iv 1, rv b198, .val .null, .unset, .unset] [])) (fun _ k => Jvm.RoadKit.acmp (g := (mkF m 156 #[iv p1, iv p2, iv p3, iv p4, rv kd, iv 2, iv yy3, iv yy4, iv z8, iv z9, iv z10, iv 1, rv b198, .val .null, .unset, .unset] [(.ref w_SYMBOL), (.ref kd)])) X199 hx rfl rfl rfl (pc0 := 156) (pc' := 159) (same := true) rfl (hb hby at_156) rfl (decide_eq_true (congrArg Value.ref cd207)) (by decide) (by decide) k) ?_
          refine Go.st (f' := (mkF m 161 #[iv p1, iv p2, iv p3, iv p4, rv kd, iv 2, iv yy3, iv yy4, iv z8, iv z9, iv z10, iv 1, rv b198, .val .null, .unset, .unset] [(.int 1)])) (fun _ k => XS.iload X199.here hx rfl (hb hby at_159) rfl k) ?_
          refine Go.st (f' := (mkF m 171 #[iv p1, iv p2, iv p3, iv p4, rv kd, iv 2, iv yy3, iv yy4, iv z8, iv z9, iv z10, iv 1, rv b198, .val .null, .unset, .unset] [])) (fun _ k => XS.ifYes X199.here hx rfl (pc0 := 161) (pc' := 171) rfl (hb hby at_161) rfl (by decide) (by decide) (by decide) k) ?_
          refine Go.st (f' := (mkF m 172 #[iv p1, iv p2, iv p3, iv p4, rv kd, iv 2, iv yy3, iv yy4, iv z8, iv z9, iv z10, iv 1, rv b198, .val .null, .unset, .unset] [(.int 0)])) (fun _ k => XS.iconst X199.here hx rfl (hb hby at_171) k) ?_
          refine Go.st (f' := (mkF m 174 #[iv p1, iv p2, iv p3, iv p4, rv kd, iv 2, iv yy3, iv yy4, iv z8, iv z9, iv z10, iv 1, rv b198, .val .null, iv 0, .unset] [])) (fun _ k => XS.istore X199.here hx rfl (hb hby at_172) rfl (l' := #[iv p1, iv p2, iv p3, iv p4, rv kd, iv 2, iv yy3, iv yy4, iv z8, iv z9, iv z10, iv 1, rv b198, .val .null, iv 0, .unset]) rfl k) ?_
          refine Go.st (f' := (mkF m 232 #[iv p1, iv p2, iv p3, iv p4, rv kd, iv 2, iv yy3, iv yy4, iv z8, iv z9, iv z10, iv 1, rv b198, .val .null, iv 0, .unset] [])) (fun _ k => XS.goto X199.here hx rfl (pc0 := 174) (pc' := 232) rfl (hb hby at_174) (by decide) (by decide) k) ?_
          exact J2 (0 : Int32) (by rw [syI_2_N, if_pos cd207] <;> rfl)
        · refine Go.st (f' := (mkF m 171 #[iv p1, iv p2, iv p3, iv p4, rv kd, iv 2, iv yy3, iv yy4, iv z8, iv z9, iv z10, iv 1, rv b198, .val .null, .unset, .unset] [])) (fun _ k => Jvm.RoadKit.acmp (g := (mkF m 156 #[iv p1, iv p2, iv p3, iv p4, rv kd, iv 2, iv yy3, iv yy4, iv z8, iv z9, iv z10, iv 1, rv b198, .val .null, .unset, .unset] [(.ref w_SYMBOL), (.ref kd)])) X199 hx rfl rfl rfl (pc0 := 156) (pc' := 171) (same := false) rfl (hb hby at_156) rfl (decide_eq_false fun q => cd207 (Value.ref.inj q)) (by decide) (by decide) k) ?_
          refine Go.st (f' := (mkF m 172 #[iv p1, iv p2, iv p3, iv p4, rv kd, iv 2, iv yy3, iv yy4, iv z8, iv z9, iv z10, iv 1, rv b198, .val .null, .unset, .unset] [(.int 0)])) (fun _ k => XS.iconst X199.here hx rfl (hb hby at_171) k) ?_
          refine Go.st (f' := (mkF m 174 #[iv p1, iv p2, iv p3, iv p4, rv kd, iv 2, iv yy3, iv yy4, iv z8, iv z9, iv z10, iv 1, rv b198, .val .null, iv 0, .unset] [])) (fun _ k => XS.istore X199.here hx rfl (hb hby at_172) rfl (l' := #[iv p1, iv p2, iv p3, iv p4, rv kd, iv 2, iv yy3, iv yy4, iv z8, iv z9, iv z10, iv 1, rv b198, .val .null, iv 0, .unset]) rfl k) ?_
          refine Go.st (f' := (mkF m 232 #[iv p1, iv p2, iv p3, iv p4, rv kd, iv 2, iv yy3, iv yy4, iv z8, iv z9, iv z10, iv 1, rv b198, .val .null, iv 0, .unset] [])) (fun _ k => XS.goto X199.here hx rfl (pc0 := 174) (pc' := 232) rfl (hb hby at_174) (by decide) (by decide) k) ?_
          exact J2 (0 : Int32) (by rw [syI_2_N, if_neg cd207])
  refine Go.st (f' := (mkF m 35 #[iv p1, iv p2, iv p3, iv p4, rv kd, iv yy2, iv yy3, iv yy4, .unset, .unset, .unset, .unset, .unset, .unset, .unset, .unset] [(.int p3)])) (fun _ k => XS.iloadN X1.here hx rfl (hb hby at_34) rfl k) ?_
  refine Go.st (f' := (mkF m 36 #[iv p1, iv p2, iv p3, iv p4, rv kd, iv yy2, iv yy3, iv yy4, .unset, .unset, .unset, .unset, .unset, .unset, .unset, .unset] [(.int 2), (.int p3)])) (fun _ k => XS.iconst X1.here hx rfl (hb hby at_35) k) ?_
  refine Go.st (f' := (mkF m 37 #[iv p1, iv p2, iv p3, iv p4, rv kd, iv yy2, iv yy3, iv yy4, .unset, .unset, .unset, .unset, .unset, .unset, .unset, .unset] [(.int ((p3.toUInt32 >>> ((2 : Int32) &&& 31).toUInt32).toInt32))])) (fun _ k => XS.iushr X1.here hx rfl (hb hby at_36) rfl k) ?_
  refine Go.st (f' := (mkF m 38 #[iv p1, iv p2, iv p3, iv p4, rv kd, iv yy2, iv yy3, iv yy4, .unset, .unset, .unset, .unset, .unset, .unset, .unset, .unset] [(.int 1), (.int ((p3.toUInt32 >>> ((2 : Int32) &&& 31).toUInt32).toInt32))])) (fun _ k => XS.iconst X1.here hx rfl (hb hby at_37) k) ?_
  refine Go.st (f' := (mkF m 39 #[iv p1, iv p2, iv p3, iv p4, rv kd, iv yy2, iv yy3, iv yy4, .unset, .unset, .unset, .unset, .unset, .unset, .unset, .unset] [(.int (((p3.toUInt32 >>> ((2 : Int32) &&& 31).toUInt32).toInt32) &&& (1 : Int32)))])) (fun _ k => XS.iand X1.here hx rfl (hb hby at_38) rfl k) ?_
  by_cases cd208 : (((p3.toUInt32 >>> ((2 : Int32) &&& 31).toUInt32).toInt32) &&& (1 : Int32)) = (0 : Int32)
  · refine Go.st (f' := (mkF m 47 #[iv p1, iv p2, iv p3, iv p4, rv kd, iv yy2, iv yy3, iv yy4, .unset, .unset, .unset, .unset, .unset, .unset, .unset, .unset] [])) (fun _ k => XS.ifYes X1.here hx rfl (pc0 := 39) (pc' := 47) rfl (hb hby at_39) rfl ((if0 _ _).trans (teq cd208).1) (by decide) (by decide) k) ?_
    refine Go.st (f' := (mkF m 48 #[iv p1, iv p2, iv p3, iv p4, rv kd, iv yy2, iv yy3, iv yy4, .unset, .unset, .unset, .unset, .unset, .unset, .unset, .unset] [(.int p3)])) (fun _ k => XS.iloadN X1.here hx rfl (hb hby at_47) rfl k) ?_
    refine Go.st (f' := (mkF m 49 #[iv p1, iv p2, iv p3, iv p4, rv kd, iv yy2, iv yy3, iv yy4, .unset, .unset, .unset, .unset, .unset, .unset, .unset, .unset] [(.int 3), (.int p3)])) (fun _ k => XS.iconst X1.here hx rfl (hb hby at_48) k) ?_
    refine Go.st (f' := (mkF m 50 #[iv p1, iv p2, iv p3, iv p4, rv kd, iv yy2, iv yy3, iv yy4, .unset, .unset, .unset, .unset, .unset, .unset, .unset, .unset] [(.int (p3 &&& (3 : Int32)))])) (fun _ k => XS.iand X1.here hx rfl (hb hby at_49) rfl k) ?_
    refine Go.st (f' := (mkF m 51 #[iv p1, iv p2, iv p3, iv p4, rv kd, iv yy2, iv yy3, iv yy4, .unset, .unset, .unset, .unset, .unset, .unset, .unset, .unset] [(.int 3), (.int (p3 &&& (3 : Int32)))])) (fun _ k => XS.iconst X1.here hx rfl (hb hby at_50) k) ?_
    refine Go.st (f' := (mkF m 52 #[iv p1, iv p2, iv p3, iv p4, rv kd, iv yy2, iv yy3, iv yy4, .unset, .unset, .unset, .unset, .unset, .unset, .unset, .unset] [(.int ((p3 &&& (3 : Int32)) % (3 : Int32)))])) (fun _ k => iremM (g := (mkF m 51 #[.val (.int p1), .val (.int p2), .val (.int p3), .val (.int p4), .val (.ref kd), .val (.int yy2), .val (.int yy3), .val (.int yy4), .unset, .unset, .unset, .unset, .unset, .unset, .unset, .unset] [(.int (3 : Int32)), (.int (p3 &&& (3 : Int32)))])) X1 hx rfl (hb hby at_51) rfl (by decide) k) ?_
    obtain ⟨yy209, hyy209⟩ : ∃ z, z = ((p3 &&& (3 : Int32)) % (3 : Int32)) := ⟨_, rfl⟩
    rw [← hyy209]
    refine Go.st (f' := (mkF m 54 #[iv p1, iv p2, iv p3, iv p4, rv kd, iv yy2, iv yy3, iv yy4, iv yy209, .unset, .unset, .unset, .unset, .unset, .unset, .unset] [])) (fun _ k => XS.istore X1.here hx rfl (hb hby at_52) rfl (l' := #[iv p1, iv p2, iv p3, iv p4, rv kd, iv yy2, iv yy3, iv yy4, iv yy209, .unset, .unset, .unset, .unset, .unset, .unset, .unset]) rfl k) ?_
    refine Go.st (f' := (mkF m 55 #[iv p1, iv p2, iv p3, iv p4, rv kd, iv yy2, iv yy3, iv yy4, iv yy209, .unset, .unset, .unset, .unset, .unset, .unset, .unset] [(.int p3)])) (fun _ k => XS.iloadN X1.here hx rfl (hb hby at_54) rfl k) ?_
    refine Go.st (f' := (mkF m 56 #[iv p1, iv p2, iv p3, iv p4, rv kd, iv yy2, iv yy3, iv yy4, iv yy209, .unset, .unset, .unset, .unset, .unset, .unset, .unset] [(.int 3), (.int p3)])) (fun _ k => XS.iconst X1.here hx rfl (hb hby at_55) k) ?_
    refine Go.st (f' := (mkF m 57 #[iv p1, iv p2, iv p3, iv p4, rv kd, iv yy2, iv yy3, iv yy4, iv yy209, .unset, .unset, .unset, .unset, .unset, .unset, .unset] [(.int ((p3.toUInt32 >>> ((3 : Int32) &&& 31).toUInt32).toInt32))])) (fun _ k => XS.iushr X1.here hx rfl (hb hby at_56) rfl k) ?_
    refine Go.st (f' := (mkF m 58 #[iv p1, iv p2, iv p3, iv p4, rv kd, iv yy2, iv yy3, iv yy4, iv yy209, .unset, .unset, .unset, .unset, .unset, .unset, .unset] [(.int 1), (.int ((p3.toUInt32 >>> ((3 : Int32) &&& 31).toUInt32).toInt32))])) (fun _ k => XS.iconst X1.here hx rfl (hb hby at_57) k) ?_
    refine Go.st (f' := (mkF m 59 #[iv p1, iv p2, iv p3, iv p4, rv kd, iv yy2, iv yy3, iv yy4, iv yy209, .unset, .unset, .unset, .unset, .unset, .unset, .unset] [(.int (((p3.toUInt32 >>> ((3 : Int32) &&& 31).toUInt32).toInt32) &&& (1 : Int32)))])) (fun _ k => XS.iand X1.here hx rfl (hb hby at_58) rfl k) ?_
    by_cases cd210 : (((p3.toUInt32 >>> ((3 : Int32) &&& 31).toUInt32).toInt32) &&& (1 : Int32)) = (0 : Int32)
    · refine Go.st (f' := (mkF m 67 #[iv p1, iv p2, iv p3, iv p4, rv kd, iv yy2, iv yy3, iv yy4, iv yy209, .unset, .unset, .unset, .unset, .unset, .unset, .unset] [])) (fun _ k => XS.ifYes X1.here hx rfl (pc0 := 59) (pc' := 67) rfl (hb hby at_59) rfl ((if0 _ _).trans (teq cd210).1) (by decide) (by decide) k) ?_
      refine Go.st (f' := (mkF m 68 #[iv p1, iv p2, iv p3, iv p4, rv kd, iv yy2, iv yy3, iv yy4, iv yy209, .unset, .unset, .unset, .unset, .unset, .unset, .unset] [(.int p3)])) (fun _ k => XS.iloadN X1.here hx rfl (hb hby at_67) rfl k) ?_
      refine Go.st (f' := (mkF m 69 #[iv p1, iv p2, iv p3, iv p4, rv kd, iv yy2, iv yy3, iv yy4, iv yy209, .unset, .unset, .unset, .unset, .unset, .unset, .unset] [(.int 5), (.int p3)])) (fun _ k => XS.iconst X1.here hx rfl (hb hby at_68) k) ?_
      refine Go.st (f' := (mkF m 70 #[iv p1, iv p2, iv p3, iv p4, rv kd, iv yy2, iv yy3, iv yy4, iv yy209, .unset, .unset, .unset, .unset, .unset, .unset, .unset] [(.int ((p3.toUInt32 >>> ((5 : Int32) &&& 31).toUInt32).toInt32))])) (fun _ k => XS.iushr X1.here hx rfl (hb hby at_69) rfl k) ?_
      refine Go.st (f' := (mkF m 73 #[iv p1, iv p2, iv p3, iv p4, rv kd, iv yy2, iv yy3, iv yy4, iv yy209, .unset, .unset, .unset, .unset, .unset, .unset, .unset] [(.int 255), (.int ((p3.toUInt32 >>> ((5 : Int32) &&& 31).toUInt32).toInt32))])) (fun _ k => XS.sipush X1.here hx rfl (hb hby at_70) k) ?_
      refine Go.st (f' := (mkF m 74 #[iv p1, iv p2, iv p3, iv p4, rv kd, iv yy2, iv yy3, iv yy4, iv yy209, .unset, .unset, .unset, .unset, .unset, .unset, .unset] [(.int (((p3.toUInt32 >>> ((5 : Int32) &&& 31).toUInt32).toInt32) &&& (255 : Int32)))])) (fun _ k => XS.iand X1.here hx rfl (hb hby at_73) rfl k) ?_
      refine Go.st (f' := (mkF m 75 #[iv p1, iv p2, iv p3, iv p4, rv kd, iv yy2, iv yy3, iv yy4, iv yy209, .unset, .unset, .unset, .unset, .unset, .unset, .unset] [(.int ((((p3.toUInt32 >>> ((5 : Int32) &&& 31).toUInt32).toInt32) &&& (255 : Int32)).toUInt32.toUInt16.toUInt32.toInt32))])) (fun _ k => XS.i2c X1.here hx rfl (hb hby at_74) rfl k) ?_
      obtain ⟨yy211, hyy211⟩ : ∃ z, z = ((((p3.toUInt32 >>> ((5 : Int32) &&& 31).toUInt32).toInt32) &&& (255 : Int32)).toUInt32.toUInt16.toUInt32.toInt32) := ⟨_, rfl⟩
      rw [← hyy211]
      refine Go.st (f' := (mkF m 77 #[iv p1, iv p2, iv p3, iv p4, rv kd, iv yy2, iv yy3, iv yy4, iv yy209, iv yy211, .unset, .unset, .unset, .unset, .unset, .unset] [])) (fun _ k => XS.istore X1.here hx rfl (hb hby at_75) rfl (l' := #[iv p1, iv p2, iv p3, iv p4, rv kd, iv yy2, iv yy3, iv yy4, iv yy209, iv yy211, .unset, .unset, .unset, .unset, .unset, .unset]) rfl k) ?_
      refine Go.st (f' := (mkF m 78 #[iv p1, iv p2, iv p3, iv p4, rv kd, iv yy2, iv yy3, iv yy4, iv yy209, iv yy211, .unset, .unset, .unset, .unset, .unset, .unset] [(.int p3)])) (fun _ k => XS.iloadN X1.here hx rfl (hb hby at_77) rfl k) ?_
      refine Go.st (f' := (mkF m 79 #[iv p1, iv p2, iv p3, iv p4, rv kd, iv yy2, iv yy3, iv yy4, iv yy209, iv yy211, .unset, .unset, .unset, .unset, .unset, .unset] [(.int 4), (.int p3)])) (fun _ k => XS.iconst X1.here hx rfl (hb hby at_78) k) ?_
      refine Go.st (f' := (mkF m 80 #[iv p1, iv p2, iv p3, iv p4, rv kd, iv yy2, iv yy3, iv yy4, iv yy209, iv yy211, .unset, .unset, .unset, .unset, .unset, .unset] [(.int ((p3.toUInt32 >>> ((4 : Int32) &&& 31).toUInt32).toInt32))])) (fun _ k => XS.iushr X1.here hx rfl (hb hby at_79) rfl k) ?_
      refine Go.st (f' := (mkF m 81 #[iv p1, iv p2, iv p3, iv p4, rv kd, iv yy2, iv yy3, iv yy4, iv yy209, iv yy211, .unset, .unset, .unset, .unset, .unset, .unset] [(.int 1), (.int ((p3.toUInt32 >>> ((4 : Int32) &&& 31).toUInt32).toInt32))])) (fun _ k => XS.iconst X1.here hx rfl (hb hby at_80) k) ?_
      refine Go.st (f' := (mkF m 82 #[iv p1, iv p2, iv p3, iv p4, rv kd, iv yy2, iv yy3, iv yy4, iv yy209, iv yy211, .unset, .unset, .unset, .unset, .unset, .unset] [(.int (((p3.toUInt32 >>> ((4 : Int32) &&& 31).toUInt32).toInt32) &&& (1 : Int32)))])) (fun _ k => XS.iand X1.here hx rfl (hb hby at_81) rfl k) ?_
      by_cases cd212 : (((p3.toUInt32 >>> ((4 : Int32) &&& 31).toUInt32).toInt32) &&& (1 : Int32)) = (0 : Int32)
      · refine Go.st (f' := (mkF m 90 #[iv p1, iv p2, iv p3, iv p4, rv kd, iv yy2, iv yy3, iv yy4, iv yy209, iv yy211, .unset, .unset, .unset, .unset, .unset, .unset] [])) (fun _ k => XS.ifYes X1.here hx rfl (pc0 := 82) (pc' := 90) rfl (hb hby at_82) rfl ((if0 _ _).trans (teq cd212).1) (by decide) (by decide) k) ?_
        refine Go.st (f' := (mkF m 91 #[iv p1, iv p2, iv p3, iv p4, rv kd, iv yy2, iv yy3, iv yy4, iv yy209, iv yy211, .unset, .unset, .unset, .unset, .unset, .unset] [(.int p3)])) (fun _ k => XS.iloadN X1.here hx rfl (hb hby at_90) rfl k) ?_
        refine Go.st (f' := (mkF m 93 #[iv p1, iv p2, iv p3, iv p4, rv kd, iv yy2, iv yy3, iv yy4, iv yy209, iv yy211, .unset, .unset, .unset, .unset, .unset, .unset] [(.int 13), (.int p3)])) (fun _ k => XS.bipush X1.here hx rfl (hb hby at_91) k) ?_
        refine Go.st (f' := (mkF m 94 #[iv p1, iv p2, iv p3, iv p4, rv kd, iv yy2, iv yy3, iv yy4, iv yy209, iv yy211, .unset, .unset, .unset, .unset, .unset, .unset] [(.int ((p3.toUInt32 >>> ((13 : Int32) &&& 31).toUInt32).toInt32))])) (fun _ k => XS.iushr X1.here hx rfl (hb hby at_93) rfl k) ?_
        refine Go.st (f' := (mkF m 97 #[iv p1, iv p2, iv p3, iv p4, rv kd, iv yy2, iv yy3, iv yy4, iv yy209, iv yy211, .unset, .unset, .unset, .unset, .unset, .unset] [(.int 255), (.int ((p3.toUInt32 >>> ((13 : Int32) &&& 31).toUInt32).toInt32))])) (fun _ k => XS.sipush X1.here hx rfl (hb hby at_94) k) ?_
        refine Go.st (f' := (mkF m 98 #[iv p1, iv p2, iv p3, iv p4, rv kd, iv yy2, iv yy3, iv yy4, iv yy209, iv yy211, .unset, .unset, .unset, .unset, .unset, .unset] [(.int (((p3.toUInt32 >>> ((13 : Int32) &&& 31).toUInt32).toInt32) &&& (255 : Int32)))])) (fun _ k => XS.iand X1.here hx rfl (hb hby at_97) rfl k) ?_
        refine Go.st (f' := (mkF m 99 #[iv p1, iv p2, iv p3, iv p4, rv kd, iv yy2, iv yy3, iv yy4, iv yy209, iv yy211, .unset, .unset, .unset, .unset, .unset, .unset] [(.int ((((p3.toUInt32 >>> ((13 : Int32) &&& 31).toUInt32).toInt32) &&& (255 : Int32)).toUInt32.toUInt16.toUInt32.toInt32))])) (fun _ k => XS.i2c X1.here hx rfl (hb hby at_98) rfl k) ?_
        obtain ⟨yy213, hyy213⟩ : ∃ z, z = ((((p3.toUInt32 >>> ((13 : Int32) &&& 31).toUInt32).toInt32) &&& (255 : Int32)).toUInt32.toUInt16.toUInt32.toInt32) := ⟨_, rfl⟩
        rw [← hyy213]
        refine Go.st (f' := (mkF m 101 #[iv p1, iv p2, iv p3, iv p4, rv kd, iv yy2, iv yy3, iv yy4, iv yy209, iv yy211, iv yy213, .unset, .unset, .unset, .unset, .unset] [])) (fun _ k => XS.istore X1.here hx rfl (hb hby at_99) rfl (l' := #[iv p1, iv p2, iv p3, iv p4, rv kd, iv yy2, iv yy3, iv yy4, iv yy209, iv yy211, iv yy213, .unset, .unset, .unset, .unset, .unset]) rfl k) ?_
        refine Go.st (f' := (mkF m 102 #[iv p1, iv p2, iv p3, iv p4, rv kd, iv yy2, iv yy3, iv yy4, iv yy209, iv yy211, iv yy213, .unset, .unset, .unset, .unset, .unset] [(.int p3)])) (fun _ k => XS.iloadN X1.here hx rfl (hb hby at_101) rfl k) ?_
        refine Go.st (f' := (mkF m 104 #[iv p1, iv p2, iv p3, iv p4, rv kd, iv yy2, iv yy3, iv yy4, iv yy209, iv yy211, iv yy213, .unset, .unset, .unset, .unset, .unset] [(.int 21), (.int p3)])) (fun _ k => XS.bipush X1.here hx rfl (hb hby at_102) k) ?_
        refine Go.st (f' := (mkF m 105 #[iv p1, iv p2, iv p3, iv p4, rv kd, iv yy2, iv yy3, iv yy4, iv yy209, iv yy211, iv yy213, .unset, .unset, .unset, .unset, .unset] [(.int ((p3.toUInt32 >>> ((21 : Int32) &&& 31).toUInt32).toInt32))])) (fun _ k => XS.iushr X1.here hx rfl (hb hby at_104) rfl k) ?_
        refine Go.st (f' := (mkF m 107 #[iv p1, iv p2, iv p3, iv p4, rv kd, iv yy2, iv yy3, iv yy4, iv yy209, iv yy211, iv yy213, .unset, .unset, .unset, .unset, .unset] [(.int 7), (.int ((p3.toUInt32 >>> ((21 : Int32) &&& 31).toUInt32).toInt32))])) (fun _ k => XS.bipush X1.here hx rfl (hb hby at_105) k) ?_
        refine Go.st (f' := (mkF m 108 #[iv p1, iv p2, iv p3, iv p4, rv kd, iv yy2, iv yy3, iv yy4, iv yy209, iv yy211, iv yy213, .unset, .unset, .unset, .unset, .unset] [(.int (((p3.toUInt32 >>> ((21 : Int32) &&& 31).toUInt32).toInt32) &&& (7 : Int32)))])) (fun _ k => XS.iand X1.here hx rfl (hb hby at_107) rfl k) ?_
        refine Go.st (f' := (mkF m 110 #[iv p1, iv p2, iv p3, iv p4, rv kd, iv yy2, iv yy3, iv yy4, iv yy209, iv yy211, iv yy213, .unset, .unset, .unset, .unset, .unset] [(.int 7), (.int (((p3.toUInt32 >>> ((21 : Int32) &&& 31).toUInt32).toInt32) &&& (7 : Int32)))])) (fun _ k => XS.bipush X1.here hx rfl (hb hby at_108) k) ?_
        by_cases cd214 : (((p3.toUInt32 >>> ((21 : Int32) &&& 31).toUInt32).toInt32) &&& (7 : Int32)) = (7 : Int32)
        · refine Go.st (f' := (mkF m 113 #[iv p1, iv p2, iv p3, iv p4, rv kd, iv yy2, iv yy3, iv yy4, iv yy209, iv yy211, iv yy213, .unset, .unset, .unset, .unset, .unset] [])) (fun _ k => XS.icmpNo X1.here hx rfl (hb hby at_110) rfl (teq cd214).2 k) ?_
          refine Go.st (f' := (mkF m 114 #[iv p1, iv p2, iv p3, iv p4, rv kd, iv yy2, iv yy3, iv yy4, iv yy209, iv yy211, iv yy213, .unset, .unset, .unset, .unset, .unset] [(.int 1)])) (fun _ k => XS.iconst X1.here hx rfl (hb hby at_113) k) ?_
          refine Go.st (f' := (mkF m 118 #[iv p1, iv p2, iv p3, iv p4, rv kd, iv yy2, iv yy3, iv yy4, iv yy209, iv yy211, iv yy213, .unset, .unset, .unset, .unset, .unset] [(.int 1)])) (fun _ k => XS.goto X1.here hx rfl (pc0 := 114) (pc' := 118) rfl (hb hby at_114) (by decide) (by decide) k) ?_
          refine Go.st (f' := (mkF m 120 #[iv p1, iv p2, iv p3, iv p4, rv kd, iv yy2, iv yy3, iv yy4, iv yy209, iv yy211, iv yy213, iv 1, .unset, .unset, .unset, .unset] [])) (fun _ k => XS.istore X1.here hx rfl (hb hby at_118) rfl (l' := #[iv p1, iv p2, iv p3, iv p4, rv kd, iv yy2, iv yy3, iv yy4, iv yy209, iv yy211, iv yy213, iv 1, .unset, .unset, .unset, .unset]) rfl k) ?_
          exact J yy209 yy211 yy213 (1 : Int32) (hyy209 ▸ own_m3 _) ⟨(hyy211 ▸ own_b _).1, (hyy211 ▸ own_b _).2⟩ ⟨(hyy213 ▸ own_b _).1, (hyy213 ▸ own_b _).2⟩ (Or.inr rfl)
        · refine Go.st (f' := (mkF m 117 #[iv p1, iv p2, iv p3, iv p4, rv kd, iv yy2, iv yy3, iv yy4, iv yy209, iv yy211, iv yy213, .unset, .unset, .unset, .unset, .unset] [])) (fun _ k => XS.icmpYes X1.here hx rfl (pc0 := 110) (pc' := 117) rfl (hb hby at_110) rfl (feq cd214).2 (by decide) (by decide) k) ?_
          refine Go.st (f' := (mkF m 118 #[iv p1, iv p2, iv p3, iv p4, rv kd, iv yy2, iv yy3, iv yy4, iv yy209, iv yy211, iv yy213, .unset, .unset, .unset, .unset, .unset] [(.int 0)])) (fun _ k => XS.iconst X1.here hx rfl (hb hby at_117) k) ?_
          refine Go.st (f' := (mkF m 120 #[iv p1, iv p2, iv p3, iv p4, rv kd, iv yy2, iv yy3, iv yy4, iv yy209, iv yy211, iv yy213, iv 0, .unset, .unset, .unset, .unset] [])) (fun _ k => XS.istore X1.here hx rfl (hb hby at_118) rfl (l' := #[iv p1, iv p2, iv p3, iv p4, rv kd, iv yy2, iv yy3, iv yy4, iv yy209, iv yy211, iv yy213, iv 0, .unset, .unset, .unset, .unset]) rfl k) ?_
          exact J yy209 yy211 yy213 (0 : Int32) (hyy209 ▸ own_m3 _) ⟨(hyy211 ▸ own_b _).1, (hyy211 ▸ own_b _).2⟩ ⟨(hyy213 ▸ own_b _).1, (hyy213 ▸ own_b _).2⟩ (Or.inl rfl)
      · refine Go.st (f' := (mkF m 85 #[iv p1, iv p2, iv p3, iv p4, rv kd, iv yy2, iv yy3, iv yy4, iv yy209, iv yy211, .unset, .unset, .unset, .unset, .unset, .unset] [])) (fun _ k => XS.ifNo X1.here hx rfl (hb hby at_82) rfl ((if0 _ _).trans (feq cd212).1) k) ?_
        refine Go.st (f' := (mkF m 87 #[iv p1, iv p2, iv p3, iv p4, rv kd, iv yy2, iv yy3, iv yy4, iv yy209, iv yy211, .unset, .unset, .unset, .unset, .unset, .unset] [(.int yy4)])) (fun _ k => XS.iload X1.here hx rfl (hb hby at_85) rfl k) ?_
        refine Go.st (f' := (mkF m 99 #[iv p1, iv p2, iv p3, iv p4, rv kd, iv yy2, iv yy3, iv yy4, iv yy209, iv yy211, .unset, .unset, .unset, .unset, .unset, .unset] [(.int yy4)])) (fun _ k => XS.goto X1.here hx rfl (pc0 := 87) (pc' := 99) rfl (hb hby at_87) (by decide) (by decide) k) ?_
        refine Go.st (f' := (mkF m 101 #[iv p1, iv p2, iv p3, iv p4, rv kd, iv yy2, iv yy3, iv yy4, iv yy209, iv yy211, iv yy4, .unset, .unset, .unset, .unset, .unset] [])) (fun _ k => XS.istore X1.here hx rfl (hb hby at_99) rfl (l' := #[iv p1, iv p2, iv p3, iv p4, rv kd, iv yy2, iv yy3, iv yy4, iv yy209, iv yy211, iv yy4, .unset, .unset, .unset, .unset, .unset]) rfl k) ?_
        refine Go.st (f' := (mkF m 102 #[iv p1, iv p2, iv p3, iv p4, rv kd, iv yy2, iv yy3, iv yy4, iv yy209, iv yy211, iv yy4, .unset, .unset, .unset, .unset, .unset] [(.int p3)])) (fun _ k => XS.iloadN X1.here hx rfl (hb hby at_101) rfl k) ?_
        refine Go.st (f' := (mkF m 104 #[iv p1, iv p2, iv p3, iv p4, rv kd, iv yy2, iv yy3, iv yy4, iv yy209, iv yy211, iv yy4, .unset, .unset, .unset, .unset, .unset] [(.int 21), (.int p3)])) (fun _ k => XS.bipush X1.here hx rfl (hb hby at_102) k) ?_
        refine Go.st (f' := (mkF m 105 #[iv p1, iv p2, iv p3, iv p4, rv kd, iv yy2, iv yy3, iv yy4, iv yy209, iv yy211, iv yy4, .unset, .unset, .unset, .unset, .unset] [(.int ((p3.toUInt32 >>> ((21 : Int32) &&& 31).toUInt32).toInt32))])) (fun _ k => XS.iushr X1.here hx rfl (hb hby at_104) rfl k) ?_
        refine Go.st (f' := (mkF m 107 #[iv p1, iv p2, iv p3, iv p4, rv kd, iv yy2, iv yy3, iv yy4, iv yy209, iv yy211, iv yy4, .unset, .unset, .unset, .unset, .unset] [(.int 7), (.int ((p3.toUInt32 >>> ((21 : Int32) &&& 31).toUInt32).toInt32))])) (fun _ k => XS.bipush X1.here hx rfl (hb hby at_105) k) ?_
        refine Go.st (f' := (mkF m 108 #[iv p1, iv p2, iv p3, iv p4, rv kd, iv yy2, iv yy3, iv yy4, iv yy209, iv yy211, iv yy4, .unset, .unset, .unset, .unset, .unset] [(.int (((p3.toUInt32 >>> ((21 : Int32) &&& 31).toUInt32).toInt32) &&& (7 : Int32)))])) (fun _ k => XS.iand X1.here hx rfl (hb hby at_107) rfl k) ?_
        refine Go.st (f' := (mkF m 110 #[iv p1, iv p2, iv p3, iv p4, rv kd, iv yy2, iv yy3, iv yy4, iv yy209, iv yy211, iv yy4, .unset, .unset, .unset, .unset, .unset] [(.int 7), (.int (((p3.toUInt32 >>> ((21 : Int32) &&& 31).toUInt32).toInt32) &&& (7 : Int32)))])) (fun _ k => XS.bipush X1.here hx rfl (hb hby at_108) k) ?_
        by_cases cd215 : (((p3.toUInt32 >>> ((21 : Int32) &&& 31).toUInt32).toInt32) &&& (7 : Int32)) = (7 : Int32)
        · refine Go.st (f' := (mkF m 113 #[iv p1, iv p2, iv p3, iv p4, rv kd, iv yy2, iv yy3, iv yy4, iv yy209, iv yy211, iv yy4, .unset, .unset, .unset, .unset, .unset] [])) (fun _ k => XS.icmpNo X1.here hx rfl (hb hby at_110) rfl (teq cd215).2 k) ?_
          refine Go.st (f' := (mkF m 114 #[iv p1, iv p2, iv p3, iv p4, rv kd, iv yy2, iv yy3, iv yy4, iv yy209, iv yy211, iv yy4, .unset, .unset, .unset, .unset, .unset] [(.int 1)])) (fun _ k => XS.iconst X1.here hx rfl (hb hby at_113) k) ?_
          refine Go.st (f' := (mkF m 118 #[iv p1, iv p2, iv p3, iv p4, rv kd, iv yy2, iv yy3, iv yy4, iv yy209, iv yy211, iv yy4, .unset, .unset, .unset, .unset, .unset] [(.int 1)])) (fun _ k => XS.goto X1.here hx rfl (pc0 := 114) (pc' := 118) rfl (hb hby at_114) (by decide) (by decide) k) ?_
          refine Go.st (f' := (mkF m 120 #[iv p1, iv p2, iv p3, iv p4, rv kd, iv yy2, iv yy3, iv yy4, iv yy209, iv yy211, iv yy4, iv 1, .unset, .unset, .unset, .unset] [])) (fun _ k => XS.istore X1.here hx rfl (hb hby at_118) rfl (l' := #[iv p1, iv p2, iv p3, iv p4, rv kd, iv yy2, iv yy3, iv yy4, iv yy209, iv yy211, iv yy4, iv 1, .unset, .unset, .unset, .unset]) rfl k) ?_
          exact J yy209 yy211 yy4 (1 : Int32) (hyy209 ▸ own_m3 _) ⟨(hyy211 ▸ own_b _).1, (hyy211 ▸ own_b _).2⟩ ⟨(hyy4 ▸ own_b _).1, (hyy4 ▸ own_b _).2⟩ (Or.inr rfl)
        · refine Go.st (f' := (mkF m 117 #[iv p1, iv p2, iv p3, iv p4, rv kd, iv yy2, iv yy3, iv yy4, iv yy209, iv yy211, iv yy4, .unset, .unset, .unset, .unset, .unset] [])) (fun _ k => XS.icmpYes X1.here hx rfl (pc0 := 110) (pc' := 117) rfl (hb hby at_110) rfl (feq cd215).2 (by decide) (by decide) k) ?_
          refine Go.st (f' := (mkF m 118 #[iv p1, iv p2, iv p3, iv p4, rv kd, iv yy2, iv yy3, iv yy4, iv yy209, iv yy211, iv yy4, .unset, .unset, .unset, .unset, .unset] [(.int 0)])) (fun _ k => XS.iconst X1.here hx rfl (hb hby at_117) k) ?_
          refine Go.st (f' := (mkF m 120 #[iv p1, iv p2, iv p3, iv p4, rv kd, iv yy2, iv yy3, iv yy4, iv yy209, iv yy211, iv yy4, iv 0, .unset, .unset, .unset, .unset] [])) (fun _ k => XS.istore X1.here hx rfl (hb hby at_118) rfl (l' := #[iv p1, iv p2, iv p3, iv p4, rv kd, iv yy2, iv yy3, iv yy4, iv yy209, iv yy211, iv yy4, iv 0, .unset, .unset, .unset, .unset]) rfl k) ?_
          exact J yy209 yy211 yy4 (0 : Int32) (hyy209 ▸ own_m3 _) ⟨(hyy211 ▸ own_b _).1, (hyy211 ▸ own_b _).2⟩ ⟨(hyy4 ▸ own_b _).1, (hyy4 ▸ own_b _).2⟩ (Or.inl rfl)
    · refine Go.st (f' := (mkF m 62 #[iv p1, iv p2, iv p3, iv p4, rv kd, iv yy2, iv yy3, iv yy4, iv yy209, .unset, .unset, .unset, .unset, .unset, .unset, .unset] [])) (fun _ k => XS.ifNo X1.here hx rfl (hb hby at_59) rfl ((if0 _ _).trans (feq cd210).1) k) ?_
      refine Go.st (f' := (mkF m 64 #[iv p1, iv p2, iv p3, iv p4, rv kd, iv yy2, iv yy3, iv yy4, iv yy209, .unset, .unset, .unset, .unset, .unset, .unset, .unset] [(.int yy3)])) (fun _ k => XS.iload X1.here hx rfl (hb hby at_62) rfl k) ?_
      refine Go.st (f' := (mkF m 75 #[iv p1, iv p2, iv p3, iv p4, rv kd, iv yy2, iv yy3, iv yy4, iv yy209, .unset, .unset, .unset, .unset, .unset, .unset, .unset] [(.int yy3)])) (fun _ k => XS.goto X1.here hx rfl (pc0 := 64) (pc' := 75) rfl (hb hby at_64) (by decide) (by decide) k) ?_
      refine Go.st (f' := (mkF m 77 #[iv p1, iv p2, iv p3, iv p4, rv kd, iv yy2, iv yy3, iv yy4, iv yy209, iv yy3, .unset, .unset, .unset, .unset, .unset, .unset] [])) (fun _ k => XS.istore X1.here hx rfl (hb hby at_75) rfl (l' := #[iv p1, iv p2, iv p3, iv p4, rv kd, iv yy2, iv yy3, iv yy4, iv yy209, iv yy3, .unset, .unset, .unset, .unset, .unset, .unset]) rfl k) ?_
      refine Go.st (f' := (mkF m 78 #[iv p1, iv p2, iv p3, iv p4, rv kd, iv yy2, iv yy3, iv yy4, iv yy209, iv yy3, .unset, .unset, .unset, .unset, .unset, .unset] [(.int p3)])) (fun _ k => XS.iloadN X1.here hx rfl (hb hby at_77) rfl k) ?_
      refine Go.st (f' := (mkF m 79 #[iv p1, iv p2, iv p3, iv p4, rv kd, iv yy2, iv yy3, iv yy4, iv yy209, iv yy3, .unset, .unset, .unset, .unset, .unset, .unset] [(.int 4), (.int p3)])) (fun _ k => XS.iconst X1.here hx rfl (hb hby at_78) k) ?_
      refine Go.st (f' := (mkF m 80 #[iv p1, iv p2, iv p3, iv p4, rv kd, iv yy2, iv yy3, iv yy4, iv yy209, iv yy3, .unset, .unset, .unset, .unset, .unset, .unset] [(.int ((p3.toUInt32 >>> ((4 : Int32) &&& 31).toUInt32).toInt32))])) (fun _ k => XS.iushr X1.here hx rfl (hb hby at_79) rfl k) ?_
      refine Go.st (f' := (mkF m 81 #[iv p1, iv p2, iv p3, iv p4, rv kd, iv yy2, iv yy3, iv yy4, iv yy209, iv yy3, .unset, .unset, .unset, .unset, .unset, .unset] [(.int 1), (.int ((p3.toUInt32 >>> ((4 : Int32) &&& 31).toUInt32).toInt32))])) (fun _ k => XS.iconst X1.here hx rfl (hb hby at_80) k) ?_
      refine Go.st (f' := (mkF m 82 #[iv p1, iv p2, iv p3, iv p4, rv kd, iv yy2, iv yy3, iv yy4, iv yy209, iv yy3, .unset, .unset, .unset, .unset, .unset, .unset] [(.int (((p3.toUInt32 >>> ((4 : Int32) &&& 31).toUInt32).toInt32) &&& (1 : Int32)))])) (fun _ k => XS.iand X1.here hx rfl (hb hby at_81) rfl k) ?_
      by_cases cd216 : (((p3.toUInt32 >>> ((4 : Int32) &&& 31).toUInt32).toInt32) &&& (1 : Int32)) = (0 : Int32)
      · refine Go.st (f' := (mkF m 90 #[iv p1, iv p2, iv p3, iv p4, rv kd, iv yy2, iv yy3, iv yy4, iv yy209, iv yy3, .unset, .unset, .unset, .unset, .unset, .unset] [])) (fun _ k => XS.ifYes X1.here hx rfl (pc0 := 82) (pc' := 90) rfl (hb hby at_82) rfl ((if0 _ _).trans (teq cd216).1) (by decide) (by decide) k) ?_
        refine Go.st (f' := (mkF m 91 #[iv p1, iv p2, iv p3, iv p4, rv kd, iv yy2, iv yy3, iv yy4, iv yy209, iv yy3, .unset, .unset, .unset, .unset, .unset, .unset] [(.int p3)])) (fun _ k => XS.iloadN X1.here hx rfl (hb hby at_90) rfl k) ?_
        refine Go.st (f' := (mkF m 93 #[iv p1, iv p2, iv p3, iv p4, rv kd, iv yy2, iv yy3, iv yy4, iv yy209, iv yy3, .unset, .unset, .unset, .unset, .unset, .unset] [(.int 13), (.int p3)])) (fun _ k => XS.bipush X1.here hx rfl (hb hby at_91) k) ?_
        refine Go.st (f' := (mkF m 94 #[iv p1, iv p2, iv p3, iv p4, rv kd, iv yy2, iv yy3, iv yy4, iv yy209, iv yy3, .unset, .unset, .unset, .unset, .unset, .unset] [(.int ((p3.toUInt32 >>> ((13 : Int32) &&& 31).toUInt32).toInt32))])) (fun _ k => XS.iushr X1.here hx rfl (hb hby at_93) rfl k) ?_
        refine Go.st (f' := (mkF m 97 #[iv p1, iv p2, iv p3, iv p4, rv kd, iv yy2, iv yy3, iv yy4, iv yy209, iv yy3, .unset, .unset, .unset, .unset, .unset, .unset] [(.int 255), (.int ((p3.toUInt32 >>> ((13 : Int32) &&& 31).toUInt32).toInt32))])) (fun _ k => XS.sipush X1.here hx rfl (hb hby at_94) k) ?_
        refine Go.st (f' := (mkF m 98 #[iv p1, iv p2, iv p3, iv p4, rv kd, iv yy2, iv yy3, iv yy4, iv yy209, iv yy3, .unset, .unset, .unset, .unset, .unset, .unset] [(.int (((p3.toUInt32 >>> ((13 : Int32) &&& 31).toUInt32).toInt32) &&& (255 : Int32)))])) (fun _ k => XS.iand X1.here hx rfl (hb hby at_97) rfl k) ?_
        refine Go.st (f' := (mkF m 99 #[iv p1, iv p2, iv p3, iv p4, rv kd, iv yy2, iv yy3, iv yy4, iv yy209, iv yy3, .unset, .unset, .unset, .unset, .unset, .unset] [(.int ((((p3.toUInt32 >>> ((13 : Int32) &&& 31).toUInt32).toInt32) &&& (255 : Int32)).toUInt32.toUInt16.toUInt32.toInt32))])) (fun _ k => XS.i2c X1.here hx rfl (hb hby at_98) rfl k) ?_
        obtain ⟨yy217, hyy217⟩ : ∃ z, z = ((((p3.toUInt32 >>> ((13 : Int32) &&& 31).toUInt32).toInt32) &&& (255 : Int32)).toUInt32.toUInt16.toUInt32.toInt32) := ⟨_, rfl⟩
        rw [← hyy217]
        refine Go.st (f' := (mkF m 101 #[iv p1, iv p2, iv p3, iv p4, rv kd, iv yy2, iv yy3, iv yy4, iv yy209, iv yy3, iv yy217, .unset, .unset, .unset, .unset, .unset] [])) (fun _ k => XS.istore X1.here hx rfl (hb hby at_99) rfl (l' := #[iv p1, iv p2, iv p3, iv p4, rv kd, iv yy2, iv yy3, iv yy4, iv yy209, iv yy3, iv yy217, .unset, .unset, .unset, .unset, .unset]) rfl k) ?_
        refine Go.st (f' := (mkF m 102 #[iv p1, iv p2, iv p3, iv p4, rv kd, iv yy2, iv yy3, iv yy4, iv yy209, iv yy3, iv yy217, .unset, .unset, .unset, .unset, .unset] [(.int p3)])) (fun _ k => XS.iloadN X1.here hx rfl (hb hby at_101) rfl k) ?_
        refine Go.st (f' := (mkF m 104 #[iv p1, iv p2, iv p3, iv p4, rv kd, iv yy2, iv yy3, iv yy4, iv yy209, iv yy3, iv yy217, .unset, .unset, .unset, .unset, .unset] [(.int 21), (.int p3)])) (fun _ k => XS.bipush X1.here hx rfl (hb hby at_102) k) ?_
        refine Go.st (f' := (mkF m 105 #[iv p1, iv p2, iv p3, iv p4, rv kd, iv yy2, iv yy3, iv yy4, iv yy209, iv yy3, iv yy217, .unset, .unset, .unset, .unset, .unset] [(.int ((p3.toUInt32 >>> ((21 : Int32) &&& 31).toUInt32).toInt32))])) (fun _ k => XS.iushr X1.here hx rfl (hb hby at_104) rfl k) ?_
        refine Go.st (f' := (mkF m 107 #[iv p1, iv p2, iv p3, iv p4, rv kd, iv yy2, iv yy3, iv yy4, iv yy209, iv yy3, iv yy217, .unset, .unset, .unset, .unset, .unset] [(.int 7), (.int ((p3.toUInt32 >>> ((21 : Int32) &&& 31).toUInt32).toInt32))])) (fun _ k => XS.bipush X1.here hx rfl (hb hby at_105) k) ?_
        refine Go.st (f' := (mkF m 108 #[iv p1, iv p2, iv p3, iv p4, rv kd, iv yy2, iv yy3, iv yy4, iv yy209, iv yy3, iv yy217, .unset, .unset, .unset, .unset, .unset] [(.int (((p3.toUInt32 >>> ((21 : Int32) &&& 31).toUInt32).toInt32) &&& (7 : Int32)))])) (fun _ k => XS.iand X1.here hx rfl (hb hby at_107) rfl k) ?_
        refine Go.st (f' := (mkF m 110 #[iv p1, iv p2, iv p3, iv p4, rv kd, iv yy2, iv yy3, iv yy4, iv yy209, iv yy3, iv yy217, .unset, .unset, .unset, .unset, .unset] [(.int 7), (.int (((p3.toUInt32 >>> ((21 : Int32) &&& 31).toUInt32).toInt32) &&& (7 : Int32)))])) (fun _ k => XS.bipush X1.here hx rfl (hb hby at_108) k) ?_
        by_cases cd218 : (((p3.toUInt32 >>> ((21 : Int32) &&& 31).toUInt32).toInt32) &&& (7 : Int32)) = (7 : Int32)
        · refine Go.st (f' := (mkF m 113 #[iv p1, iv p2, iv p3, iv p4, rv kd, iv yy2, iv yy3, iv yy4, iv yy209, iv yy3, iv yy217, .unset, .unset, .unset, .unset, .unset] [])) (fun _ k => XS.icmpNo X1.here hx rfl (hb hby at_110) rfl (teq cd218).2 k) ?_
          refine Go.st (f' := (mkF m 114 #[iv p1, iv p2, iv p3, iv p4, rv kd, iv yy2, iv yy3, iv yy4, iv yy209, iv yy3, iv yy217, .unset, .unset, .unset, .unset, .unset] [(.int 1)])) (fun _ k => XS.iconst X1.here hx rfl (hb hby at_113) k) ?_
          refine Go.st (f' := (mkF m 118 #[iv p1, iv p2, iv p3, iv p4, rv kd, iv yy2, iv yy3, iv yy4, iv yy209, iv yy3, iv yy217, .unset, .unset, .unset, .unset, .unset] [(.int 1)])) (fun _ k => XS.goto X1.here hx rfl (pc0 := 114) (pc' := 118) rfl (hb hby at_114) (by decide) (by decide) k) ?_
          refine Go.st (f' := (mkF m 120 #[iv p1, iv p2, iv p3, iv p4, rv kd, iv yy2, iv yy3, iv yy4, iv yy209, iv yy3, iv yy217, iv 1, .unset, .unset, .unset, .unset] [])) (fun _ k => XS.istore X1.here hx rfl (hb hby at_118) rfl (l' := #[iv p1, iv p2, iv p3, iv p4, rv kd, iv yy2, iv yy3, iv yy4, iv yy209, iv yy3, iv yy217, iv 1, .unset, .unset, .unset, .unset]) rfl k) ?_
          exact J yy209 yy3 yy217 (1 : Int32) (hyy209 ▸ own_m3 _) ⟨(hyy3 ▸ own_b _).1, (hyy3 ▸ own_b _).2⟩ ⟨(hyy217 ▸ own_b _).1, (hyy217 ▸ own_b _).2⟩ (Or.inr rfl)
        · refine Go.st (f' := (mkF m 117 #[iv p1, iv p2, iv p3, iv p4, rv kd, iv yy2, iv yy3, iv yy4, iv yy209, iv yy3, iv yy217, .unset, .unset, .unset, .unset, .unset] [])) (fun _ k => XS.icmpYes X1.here hx rfl (pc0 := 110) (pc' := 117) rfl (hb hby at_110) rfl (feq cd218).2 (by decide) (by decide) k) ?_
          refine Go.st (f' := (mkF m 118 #[iv p1, iv p2, iv p3, iv p4, rv kd, iv yy2, iv yy3, iv yy4, iv yy209, iv yy3, iv yy217, .unset, .unset, .unset, .unset, .unset] [(.int 0)])) (fun _ k => XS.iconst X1.here hx rfl (hb hby at_117) k) ?_
          refine Go.st (f' := (mkF m 120 #[iv p1, iv p2, iv p3, iv p4, rv kd, iv yy2, iv yy3, iv yy4, iv yy209, iv yy3, iv yy217, iv 0, .unset, .unset, .unset, .unset] [])) (fun _ k => XS.istore X1.here hx rfl (hb hby at_118) rfl (l' := #[iv p1, iv p2, iv p3, iv p4, rv kd, iv yy2, iv yy3, iv yy4, iv yy209, iv yy3, iv yy217, iv 0, .unset, .unset, .unset, .unset]) rfl k) ?_
          exact J yy209 yy3 yy217 (0 : Int32) (hyy209 ▸ own_m3 _) ⟨(hyy3 ▸ own_b _).1, (hyy3 ▸ own_b _).2⟩ ⟨(hyy217 ▸ own_b _).1, (hyy217 ▸ own_b _).2⟩ (Or.inl rfl)
      · refine Go.st (f' := (mkF m 85 #[iv p1, iv p2, iv p3, iv p4, rv kd, iv yy2, iv yy3, iv yy4, iv yy209, iv yy3, .unset, .unset, .unset, .unset, .unset, .unset] [])) (fun _ k => XS.ifNo X1.here hx rfl (hb hby at_82) rfl ((if0 _ _).trans (feq cd216).1) k) ?_
        refine Go.st (f' := (mkF m 87 #[iv p1, iv p2, iv p3, iv p4, rv kd, iv yy2, iv yy3, iv yy4, iv yy209, iv yy3, .unset, .unset, .unset, .unset, .unset, .unset] [(.int yy4)])) (fun _ k => XS.iload X1.here hx rfl (hb hby at_85) rfl k) ?_
        refine Go.st (f' := (mkF m 99 #[iv p1, iv p2, iv p3, iv p4, rv kd, iv yy2, iv yy3, iv yy4, iv yy209, iv yy3, .unset, .unset, .unset, .unset, .unset, .unset] [(.int yy4)])) (fun _ k => XS.goto X1.here hx rfl (pc0 := 87) (pc' := 99) rfl (hb hby at_87) (by decide) (by decide) k) ?_
        refine Go.st (f' := (mkF m 101 #[iv p1, iv p2, iv p3, iv p4, rv kd, iv yy2, iv yy3, iv yy4, iv yy209, iv yy3, iv yy4, .unset, .unset, .unset, .unset, .unset] [])) (fun _ k => XS.istore X1.here hx rfl (hb hby at_99) rfl (l' := #[iv p1, iv p2, iv p3, iv p4, rv kd, iv yy2, iv yy3, iv yy4, iv yy209, iv yy3, iv yy4, .unset, .unset, .unset, .unset, .unset]) rfl k) ?_
        refine Go.st (f' := (mkF m 102 #[iv p1, iv p2, iv p3, iv p4, rv kd, iv yy2, iv yy3, iv yy4, iv yy209, iv yy3, iv yy4, .unset, .unset, .unset, .unset, .unset] [(.int p3)])) (fun _ k => XS.iloadN X1.here hx rfl (hb hby at_101) rfl k) ?_
        refine Go.st (f' := (mkF m 104 #[iv p1, iv p2, iv p3, iv p4, rv kd, iv yy2, iv yy3, iv yy4, iv yy209, iv yy3, iv yy4, .unset, .unset, .unset, .unset, .unset] [(.int 21), (.int p3)])) (fun _ k => XS.bipush X1.here hx rfl (hb hby at_102) k) ?_
        refine Go.st (f' := (mkF m 105 #[iv p1, iv p2, iv p3, iv p4, rv kd, iv yy2, iv yy3, iv yy4, iv yy209, iv yy3, iv yy4, .unset, .unset, .unset, .unset, .unset] [(.int ((p3.toUInt32 >>> ((21 : Int32) &&& 31).toUInt32).toInt32))])) (fun _ k => XS.iushr X1.here hx rfl (hb hby at_104) rfl k) ?_
        refine Go.st (f' := (mkF m 107 #[iv p1, iv p2, iv p3, iv p4, rv kd, iv yy2, iv yy3, iv yy4, iv yy209, iv yy3, iv yy4, .unset, .unset, .unset, .unset, .unset] [(.int 7), (.int ((p3.toUInt32 >>> ((21 : Int32) &&& 31).toUInt32).toInt32))])) (fun _ k => XS.bipush X1.here hx rfl (hb hby at_105) k) ?_
        refine Go.st (f' := (mkF m 108 #[iv p1, iv p2, iv p3, iv p4, rv kd, iv yy2, iv yy3, iv yy4, iv yy209, iv yy3, iv yy4, .unset, .unset, .unset, .unset, .unset] [(.int (((p3.toUInt32 >>> ((21 : Int32) &&& 31).toUInt32).toInt32) &&& (7 : Int32)))])) (fun _ k => XS.iand X1.here hx rfl (hb hby at_107) rfl k) ?_
        refine Go.st (f' := (mkF m 110 #[iv p1, iv p2, iv p3, iv p4, rv kd, iv yy2, iv yy3, iv yy4, iv yy209, iv yy3, iv yy4, .unset, .unset, .unset, .unset, .unset] [(.int 7), (.int (((p3.toUInt32 >>> ((21 : Int32) &&& 31).toUInt32).toInt32) &&& (7 : Int32)))])) (fun _ k => XS.bipush X1.here hx rfl (hb hby at_108) k) ?_
        by_cases cd219 : (((p3.toUInt32 >>> ((21 : Int32) &&& 31).toUInt32).toInt32) &&& (7 : Int32)) = (7 : Int32)
        · refine Go.st (f' := (mkF m 113 #[iv p1, iv p2, iv p3, iv p4, rv kd, iv yy2, iv yy3, iv yy4, iv yy209, iv yy3, iv yy4, .unset, .unset, .unset, .unset, .unset] [])) (fun _ k => XS.icmpNo X1.here hx rfl (hb hby at_110) rfl (teq cd219).2 k) ?_
          refine Go.st (f' := (mkF m 114 #[iv p1, iv p2, iv p3, iv p4, rv kd, iv yy2, iv yy3, iv yy4, iv yy209, iv yy3, iv yy4, .unset, .unset, .unset, .unset, .unset] [(.int 1)])) (fun _ k => XS.iconst X1.here hx rfl (hb hby at_113) k) ?_
          refine Go.st (f' := (mkF m 118 #[iv p1, iv p2, iv p3, iv p4, rv kd, iv yy2, iv yy3, iv yy4, iv yy209, iv yy3, iv yy4, .unset, .unset, .unset, .unset, .unset] [(.int 1)])) (fun _ k => XS.goto X1.here hx rfl (pc0 := 114) (pc' := 118) rfl (hb hby at_114) (by decide) (by decide) k) ?_
          refine Go.st (f' := (mkF m 120 #[iv p1, iv p2, iv p3, iv p4, rv kd, iv yy2, iv yy3, iv yy4, iv yy209, iv yy3, iv yy4, iv 1, .unset, .unset, .unset, .unset] [])) (fun _ k => XS.istore X1.here hx rfl (hb hby at_118) rfl (l' := #[iv p1, iv p2, iv p3, iv p4, rv kd, iv yy2, iv yy3, iv yy4, iv yy209, iv yy3, iv yy4, iv 1, .unset, .unset, .unset, .unset]) rfl k) ?_
          exact J yy209 yy3 yy4 (1 : Int32) (hyy209 ▸ own_m3 _) ⟨(hyy3 ▸ own_b _).1, (hyy3 ▸ own_b _).2⟩ ⟨(hyy4 ▸ own_b _).1, (hyy4 ▸ own_b _).2⟩ (Or.inr rfl)
        · refine Go.st (f' := (mkF m 117 #[iv p1, iv p2, iv p3, iv p4, rv kd, iv yy2, iv yy3, iv yy4, iv yy209, iv yy3, iv yy4, .unset, .unset, .unset, .unset, .unset] [])) (fun _ k => XS.icmpYes X1.here hx rfl (pc0 := 110) (pc' := 117) rfl (hb hby at_110) rfl (feq cd219).2 (by decide) (by decide) k) ?_
          refine Go.st (f' := (mkF m 118 #[iv p1, iv p2, iv p3, iv p4, rv kd, iv yy2, iv yy3, iv yy4, iv yy209, iv yy3, iv yy4, .unset, .unset, .unset, .unset, .unset] [(.int 0)])) (fun _ k => XS.iconst X1.here hx rfl (hb hby at_117) k) ?_
          refine Go.st (f' := (mkF m 120 #[iv p1, iv p2, iv p3, iv p4, rv kd, iv yy2, iv yy3, iv yy4, iv yy209, iv yy3, iv yy4, iv 0, .unset, .unset, .unset, .unset] [])) (fun _ k => XS.istore X1.here hx rfl (hb hby at_118) rfl (l' := #[iv p1, iv p2, iv p3, iv p4, rv kd, iv yy2, iv yy3, iv yy4, iv yy209, iv yy3, iv yy4, iv 0, .unset, .unset, .unset, .unset]) rfl k) ?_
          exact J yy209 yy3 yy4 (0 : Int32) (hyy209 ▸ own_m3 _) ⟨(hyy3 ▸ own_b _).1, (hyy3 ▸ own_b _).2⟩ ⟨(hyy4 ▸ own_b _).1, (hyy4 ▸ own_b _).2⟩ (Or.inl rfl)
  · refine Go.st (f' := (mkF m 42 #[iv p1, iv p2, iv p3, iv p4, rv kd, iv yy2, iv yy3, iv yy4, .unset, .unset, .unset, .unset, .unset, .unset, .unset, .unset] [])) (fun _ k => XS.ifNo X1.here hx rfl (hb hby at_39) rfl ((if0 _ _).trans (feq cd208).1) k) ?_
    refine Go.st (f' := (mkF m 44 #[iv p1, iv p2, iv p3, iv p4, rv kd, iv yy2, iv yy3, iv yy4, .unset, .unset, .unset, .unset, .unset, .unset, .unset, .unset] [(.int yy2)])) (fun _ k => XS.iload X1.here hx rfl (hb hby at_42) rfl k) ?_
    refine Go.st (f' := (mkF m 52 #[iv p1, iv p2, iv p3, iv p4, rv kd, iv yy2, iv yy3, iv yy4, .unset, .unset, .unset, .unset, .unset, .unset, .unset, .unset] [(.int yy2)])) (fun _ k => XS.goto X1.here hx rfl (pc0 := 44) (pc' := 52) rfl (hb hby at_44) (by decide) (by decide) k) ?_
    refine Go.st (f' := (mkF m 54 #[iv p1, iv p2, iv p3, iv p4, rv kd, iv yy2, iv yy3, iv yy4, iv yy2, .unset, .unset, .unset, .unset, .unset, .unset, .unset] [])) (fun _ k => XS.istore X1.here hx rfl (hb hby at_52) rfl (l' := #[iv p1, iv p2, iv p3, iv p4, rv kd, iv yy2, iv yy3, iv yy4, iv yy2, .unset, .unset, .unset, .unset, .unset, .unset, .unset]) rfl k) ?_
    refine Go.st (f' := (mkF m 55 #[iv p1, iv p2, iv p3, iv p4, rv kd, iv yy2, iv yy3, iv yy4, iv yy2, .unset, .unset, .unset, .unset, .unset, .unset, .unset] [(.int p3)])) (fun _ k => XS.iloadN X1.here hx rfl (hb hby at_54) rfl k) ?_
    refine Go.st (f' := (mkF m 56 #[iv p1, iv p2, iv p3, iv p4, rv kd, iv yy2, iv yy3, iv yy4, iv yy2, .unset, .unset, .unset, .unset, .unset, .unset, .unset] [(.int 3), (.int p3)])) (fun _ k => XS.iconst X1.here hx rfl (hb hby at_55) k) ?_
    refine Go.st (f' := (mkF m 57 #[iv p1, iv p2, iv p3, iv p4, rv kd, iv yy2, iv yy3, iv yy4, iv yy2, .unset, .unset, .unset, .unset, .unset, .unset, .unset] [(.int ((p3.toUInt32 >>> ((3 : Int32) &&& 31).toUInt32).toInt32))])) (fun _ k => XS.iushr X1.here hx rfl (hb hby at_56) rfl k) ?_
    refine Go.st (f' := (mkF m 58 #[iv p1, iv p2, iv p3, iv p4, rv kd, iv yy2, iv yy3, iv yy4, iv yy2, .unset, .unset, .unset, .unset, .unset, .unset, .unset] [(.int 1), (.int ((p3.toUInt32 >>> ((3 : Int32) &&& 31).toUInt32).toInt32))])) (fun _ k => XS.iconst X1.here hx rfl (hb hby at_57) k) ?_
    refine Go.st (f' := (mkF m 59 #[iv p1, iv p2, iv p3, iv p4, rv kd, iv yy2, iv yy3, iv yy4, iv yy2, .unset, .unset, .unset, .unset, .unset, .unset, .unset] [(.int (((p3.toUInt32 >>> ((3 : Int32) &&& 31).toUInt32).toInt32) &&& (1 : Int32)))])) (fun _ k => XS.iand X1.here hx rfl (hb hby at_58) rfl k) ?_
    by_cases cd220 : (((p3.toUInt32 >>> ((3 : Int32) &&& 31).toUInt32).toInt32) &&& (1 : Int32)) = (0 : Int32)
    · refine Go.st (f' := (mkF m 67 #[iv p1, iv p2, iv p3, iv p4, rv kd, iv yy2, iv yy3, iv yy4, iv yy2, .unset, .unset, .unset, .unset, .unset, .unset, .unset] [])) (fun _ k => XS.ifYes X1.here hx rfl (pc0 := 59) (pc' := 67) rfl (hb hby at_59) rfl ((if0 _ _).trans (teq cd220).1) (by decide) (by decide) k) ?_
      refine Go.st (f' := (mkF m 68 #[iv p1, iv p2, iv p3, iv p4, rv kd, iv yy2, iv yy3, iv yy4, iv yy2, .unset, .unset, .unset, .unset, .unset, .unset, .unset] [(.int p3)])) (fun _ k => XS.iloadN X1.here hx rfl (hb hby at_67) rfl k) ?_
      refine Go.st (f' := (mkF m 69 #[iv p1, iv p2, iv p3, iv p4, rv kd, iv yy2, iv yy3, iv yy4, iv yy2, .unset, .unset, .unset, .unset, .unset, .unset, .unset] [(.int 5), (.int p3)])) (fun _ k => XS.iconst X1.here hx rfl (hb hby at_68) k) ?_
      refine Go.st (f' := (mkF m 70 #[iv p1, iv p2, iv p3, iv p4, rv kd, iv yy2, iv yy3, iv yy4, iv yy2, .unset, .unset, .unset, .unset, .unset, .unset, .unset] [(.int ((p3.toUInt32 >>> ((5 : Int32) &&& 31).toUInt32).toInt32))])) (fun _ k => XS.iushr X1.here hx rfl (hb hby at_69) rfl k) ?_
      refine Go.st (f' := (mkF m 73 #[iv p1, iv p2, iv p3, iv p4, rv kd, iv yy2, iv yy3, iv yy4, iv yy2, .unset, .unset, .unset, .unset, .unset, .unset, .unset] [(.int 255), (.int ((p3.toUInt32 >>> ((5 : Int32) &&& 31).toUInt32).toInt32))])) (fun _ k => XS.sipush X1.here hx rfl (hb hby at_70) k) ?_
      refine Go.st (f' := (mkF m 74 #[iv p1, iv p2, iv p3, iv p4, rv kd, iv yy2, iv yy3, iv yy4, iv yy2, .unset, .unset, .unset, .unset, .unset, .unset, .unset] [(.int (((p3.toUInt32 >>> ((5 : Int32) &&& 31).toUInt32).toInt32) &&& (255 : Int32)))])) (fun _ k => XS.iand X1.here hx rfl (hb hby at_73) rfl k) ?_
      refine Go.st (f' := (mkF m 75 #[iv p1, iv p2, iv p3, iv p4, rv kd, iv yy2, iv yy3, iv yy4, iv yy2, .unset, .unset, .unset, .unset, .unset, .unset, .unset] [(.int ((((p3.toUInt32 >>> ((5 : Int32) &&& 31).toUInt32).toInt32) &&& (255 : Int32)).toUInt32.toUInt16.toUInt32.toInt32))])) (fun _ k => XS.i2c X1.here hx rfl (hb hby at_74) rfl k) ?_
      obtain ⟨yy221, hyy221⟩ : ∃ z, z = ((((p3.toUInt32 >>> ((5 : Int32) &&& 31).toUInt32).toInt32) &&& (255 : Int32)).toUInt32.toUInt16.toUInt32.toInt32) := ⟨_, rfl⟩
      rw [← hyy221]
      refine Go.st (f' := (mkF m 77 #[iv p1, iv p2, iv p3, iv p4, rv kd, iv yy2, iv yy3, iv yy4, iv yy2, iv yy221, .unset, .unset, .unset, .unset, .unset, .unset] [])) (fun _ k => XS.istore X1.here hx rfl (hb hby at_75) rfl (l' := #[iv p1, iv p2, iv p3, iv p4, rv kd, iv yy2, iv yy3, iv yy4, iv yy2, iv yy221, .unset, .unset, .unset, .unset, .unset, .unset]) rfl k) ?_
      refine Go.st (f' := (mkF m 78 #[iv p1, iv p2, iv p3, iv p4, rv kd, iv yy2, iv yy3, iv yy4, iv yy2, iv yy221, .unset, .unset, .unset, .unset, .unset, .unset] [(.int p3)])) (fun _ k => XS.iloadN X1.here hx rfl (hb hby at_77) rfl k) ?_
      refine Go.st (f' := (mkF m 79 #[iv p1, iv p2, iv p3, iv p4, rv kd, iv yy2, iv yy3, iv yy4, iv yy2, iv yy221, .unset, .unset, .unset, .unset, .unset, .unset] [(.int 4), (.int p3)])) (fun _ k => XS.iconst X1.here hx rfl (hb hby at_78) k) ?_
      refine Go.st (f' := (mkF m 80 #[iv p1, iv p2, iv p3, iv p4, rv kd, iv yy2, iv yy3, iv yy4, iv yy2, iv yy221, .unset, .unset, .unset, .unset, .unset, .unset] [(.int ((p3.toUInt32 >>> ((4 : Int32) &&& 31).toUInt32).toInt32))])) (fun _ k => XS.iushr X1.here hx rfl (hb hby at_79) rfl k) ?_
      refine Go.st (f' := (mkF m 81 #[iv p1, iv p2, iv p3, iv p4, rv kd, iv yy2, iv yy3, iv yy4, iv yy2, iv yy221, .unset, .unset, .unset, .unset, .unset, .unset] [(.int 1), (.int ((p3.toUInt32 >>> ((4 : Int32) &&& 31).toUInt32).toInt32))])) (fun _ k => XS.iconst X1.here hx rfl (hb hby at_80) k) ?_
      refine Go.st (f' := (mkF m 82 #[iv p1, iv p2, iv p3, iv p4, rv kd, iv yy2, iv yy3, iv yy4, iv yy2, iv yy221, .unset, .unset, .unset, .unset, .unset, .unset] [(.int (((p3.toUInt32 >>> ((4 : Int32) &&& 31).toUInt32).toInt32) &&& (1 : Int32)))])) (fun _ k => XS.iand X1.here hx rfl (hb hby at_81) rfl k) ?_
      by_cases cd222 : (((p3.toUInt32 >>> ((4 : Int32) &&& 31).toUInt32).toInt32) &&& (1 : Int32)) = (0 : Int32)
      · refine Go.st (f' := (mkF m 90 #[iv p1, iv p2, iv p3, iv p4, rv kd, iv yy2, iv yy3, iv yy4, iv yy2, iv yy221, .unset, .unset, .unset, .unset, .unset, .unset] [])) (fun _ k => XS.ifYes X1.here hx rfl (pc0 := 82) (pc' := 90) rfl (hb hby at_82) rfl ((if0 _ _).trans (teq cd222).1) (by decide) (by decide) k) ?_
        refine Go.st (f' := (mkF m 91 #[iv p1, iv p2, iv p3, iv p4, rv kd, iv yy2, iv yy3, iv yy4, iv yy2, iv yy221, .unset, .unset, .unset, .unset, .unset, .unset] [(.int p3)])) (fun _ k => XS.iloadN X1.here hx rfl (hb hby at_90) rfl k) ?_
        refine Go.st (f' := (mkF m 93 #[iv p1, iv p2, iv p3, iv p4, rv kd, iv yy2, iv yy3, iv yy4, iv yy2, iv yy221, .unset, .unset, .unset, .unset, .unset, .unset] [(.int 13), (.int p3)])) (fun _ k => XS.bipush X1.here hx rfl (hb hby at_91) k) ?_
        refine Go.st (f' := (mkF m 94 #[iv p1, iv p2, iv p3, iv p4, rv kd, iv yy2, iv yy3, iv yy4, iv yy2, iv yy221, .unset, .unset, .unset, .unset, .unset, .unset] [(.int ((p3.toUInt32 >>> ((13 : Int32) &&& 31).toUInt32).toInt32))])) (fun _ k => XS.iushr X1.here hx rfl (hb hby at_93) rfl k) ?_
        refine Go.st (f' := (mkF m 97 #[iv p1, iv p2, iv p3, iv p4, rv kd, iv yy2, iv yy3, iv yy4, iv yy2, iv yy221, .unset, .unset, .unset, .unset, .unset, .unset] [(.int 255), (.int ((p3.toUInt32 >>> ((13 : Int32) &&& 31).toUInt32).toInt32))])) (fun _ k => XS.sipush X1.here hx rfl (hb hby at_94) k) ?_
        refine Go.st (f' := (mkF m 98 #[iv p1, iv p2, iv p3, iv p4, rv kd, iv yy2, iv yy3, iv yy4, iv yy2, iv yy221, .unset, .unset, .unset, .unset, .unset, .unset] [(.int (((p3.toUInt32 >>> ((13 : Int32) &&& 31).toUInt32).toInt32) &&& (255 : Int32)))])) (fun _ k => XS.iand X1.here hx rfl (hb hby at_97) rfl k) ?_
        refine Go.st (f' := (mkF m 99 #[iv p1, iv p2, iv p3, iv p4, rv kd, iv yy2, iv yy3, iv yy4, iv yy2, iv yy221, .unset, .unset, .unset, .unset, .unset, .unset] [(.int ((((p3.toUInt32 >>> ((13 : Int32) &&& 31).toUInt32).toInt32) &&& (255 : Int32)).toUInt32.toUInt16.toUInt32.toInt32))])) (fun _ k => XS.i2c X1.here hx rfl (hb hby at_98) rfl k) ?_
        obtain ⟨yy223, hyy223⟩ : ∃ z, z = ((((p3.toUInt32 >>> ((13 : Int32) &&& 31).toUInt32).toInt32) &&& (255 : Int32)).toUInt32.toUInt16.toUInt32.toInt32) := ⟨_, rfl⟩
        rw [← hyy223]
        refine Go.st (f' := (mkF m 101 #[iv p1, iv p2, iv p3, iv p4, rv kd, iv yy2, iv yy3, iv yy4, iv yy2, iv yy221, iv yy223, .unset, .unset, .unset, .unset, .unset] [])) (fun _ k => XS.istore X1.here hx rfl (hb hby at_99) rfl (l' := #[iv p1, iv p2, iv p3, iv p4, rv kd, iv yy2, iv yy3, iv yy4, iv yy2, iv yy221, iv yy223, .unset, .unset, .unset, .unset, .unset]) rfl k) ?_
        refine Go.st (f' := (mkF m 102 #[iv p1, iv p2, iv p3, iv p4, rv kd, iv yy2, iv yy3, iv yy4, iv yy2, iv yy221, iv yy223, .unset, .unset, .unset, .unset, .unset] [(.int p3)])) (fun _ k => XS.iloadN X1.here hx rfl (hb hby at_101) rfl k) ?_
        refine Go.st (f' := (mkF m 104 #[iv p1, iv p2, iv p3, iv p4, rv kd, iv yy2, iv yy3, iv yy4, iv yy2, iv yy221, iv yy223, .unset, .unset, .unset, .unset, .unset] [(.int 21), (.int p3)])) (fun _ k => XS.bipush X1.here hx rfl (hb hby at_102) k) ?_
        refine Go.st (f' := (mkF m 105 #[iv p1, iv p2, iv p3, iv p4, rv kd, iv yy2, iv yy3, iv yy4, iv yy2, iv yy221, iv yy223, .unset, .unset, .unset, .unset, .unset] [(.int ((p3.toUInt32 >>> ((21 : Int32) &&& 31).toUInt32).toInt32))])) (fun _ k => XS.iushr X1.here hx rfl (hb hby at_104) rfl k) ?_
        refine Go.st (f' := (mkF m 107 #[iv p1, iv p2, iv p3, iv p4, rv kd, iv yy2, iv yy3, iv yy4, iv yy2, iv yy221, iv yy223, .unset, .unset, .unset, .unset, .unset] [(.int 7), (.int ((p3.toUInt32 >>> ((21 : Int32) &&& 31).toUInt32).toInt32))])) (fun _ k => XS.bipush X1.here hx rfl (hb hby at_105) k) ?_
        refine Go.st (f' := (mkF m 108 #[iv p1, iv p2, iv p3, iv p4, rv kd, iv yy2, iv yy3, iv yy4, iv yy2, iv yy221, iv yy223, .unset, .unset, .unset, .unset, .unset] [(.int (((p3.toUInt32 >>> ((21 : Int32) &&& 31).toUInt32).toInt32) &&& (7 : Int32)))])) (fun _ k => XS.iand X1.here hx rfl (hb hby at_107) rfl k) ?_
        refine Go.st (f' := (mkF m 110 #[iv p1, iv p2, iv p3, iv p4, rv kd, iv yy2, iv yy3, iv yy4, iv yy2, iv yy221, iv yy223, .unset, .unset, .unset, .unset, .unset] [(.int 7), (.int (((p3.toUInt32 >>> ((21 : Int32) &&& 31).toUInt32).toInt32) &&& (7 : Int32)))])) (fun _ k => XS.bipush X1.here hx rfl (hb hby at_108) k) ?_
        by_cases cd224 : (((p3.toUInt32 >>> ((21 : Int32) &&& 31).toUInt32).toInt32) &&& (7 : Int32)) = (7 : Int32)
        · refine Go.st (f' := (mkF m 113 #[iv p1, iv p2, iv p3, iv p4, rv kd, iv yy2, iv yy3, iv yy4, iv yy2, iv yy221, iv yy223, .unset, .unset, .unset, .unset, .unset] [])) (fun _ k => XS.icmpNo X1.here hx rfl (hb hby at_110) rfl (teq cd224).2 k) ?_
          refine Go.st (f' := (mkF m 114 #[iv p1, iv p2, iv p3, iv p4, rv kd, iv yy2, iv yy3, iv yy4, iv yy2, iv yy221, iv yy223, .unset, .unset, .unset, .unset, .unset] [(.int 1)])) (fun _ k => XS.iconst X1.here hx rfl (hb hby at_113) k) ?_
          refine Go.st (f' := (mkF m 118 #[iv p1, iv p2, iv p3, iv p4, rv kd, iv yy2, iv yy3, iv yy4, iv yy2, iv yy221, iv yy223, .unset, .unset, .unset, .unset, .unset] [(.int 1)])) (fun _ k => XS.goto X1.here hx rfl (pc0 := 114) (pc' := 118) rfl (hb hby at_114) (by decide) (by decide) k) ?_
          refine Go.st (f' := (mkF m 120 #[iv p1, iv p2, iv p3, iv p4, rv kd, iv yy2, iv yy3, iv yy4, iv yy2, iv yy221, iv yy223, iv 1, .unset, .unset, .unset, .unset] [])) (fun _ k => XS.istore X1.here hx rfl (hb hby at_118) rfl (l' := #[iv p1, iv p2, iv p3, iv p4, rv kd, iv yy2, iv yy3, iv yy4, iv yy2, iv yy221, iv yy223, iv 1, .unset, .unset, .unset, .unset]) rfl k) ?_
          exact J yy2 yy221 yy223 (1 : Int32) (hyy2 ▸ own_m3 _) ⟨(hyy221 ▸ own_b _).1, (hyy221 ▸ own_b _).2⟩ ⟨(hyy223 ▸ own_b _).1, (hyy223 ▸ own_b _).2⟩ (Or.inr rfl)
        · refine Go.st (f' := (mkF m 117 #[iv p1, iv p2, iv p3, iv p4, rv kd, iv yy2, iv yy3, iv yy4, iv yy2, iv yy221, iv yy223, .unset, .unset, .unset, .unset, .unset] [])) (fun _ k => XS.icmpYes X1.here hx rfl (pc0 := 110) (pc' := 117) rfl (hb hby at_110) rfl (feq cd224).2 (by decide) (by decide) k) ?_
          refine Go.st (f' := (mkF m 118 #[iv p1, iv p2, iv p3, iv p4, rv kd, iv yy2, iv yy3, iv yy4, iv yy2, iv yy221, iv yy223, .unset, .unset, .unset, .unset, .unset] [(.int 0)])) (fun _ k => XS.iconst X1.here hx rfl (hb hby at_117) k) ?_
          refine Go.st (f' := (mkF m 120 #[iv p1, iv p2, iv p3, iv p4, rv kd, iv yy2, iv yy3, iv yy4, iv yy2, iv yy221, iv yy223, iv 0, .unset, .unset, .unset, .unset] [])) (fun _ k => XS.istore X1.here hx rfl (hb hby at_118) rfl (l' := #[iv p1, iv p2, iv p3, iv p4, rv kd, iv yy2, iv yy3, iv yy4, iv yy2, iv yy221, iv yy223, iv 0, .unset, .unset, .unset, .unset]) rfl k) ?_
          exact J yy2 yy221 yy223 (0 : Int32) (hyy2 ▸ own_m3 _) ⟨(hyy221 ▸ own_b _).1, (hyy221 ▸ own_b _).2⟩ ⟨(hyy223 ▸ own_b _).1, (hyy223 ▸ own_b _).2⟩ (Or.inl rfl)
      · refine Go.st (f' := (mkF m 85 #[iv p1, iv p2, iv p3, iv p4, rv kd, iv yy2, iv yy3, iv yy4, iv yy2, iv yy221, .unset, .unset, .unset, .unset, .unset, .unset] [])) (fun _ k => XS.ifNo X1.here hx rfl (hb hby at_82) rfl ((if0 _ _).trans (feq cd222).1) k) ?_
        refine Go.st (f' := (mkF m 87 #[iv p1, iv p2, iv p3, iv p4, rv kd, iv yy2, iv yy3, iv yy4, iv yy2, iv yy221, .unset, .unset, .unset, .unset, .unset, .unset] [(.int yy4)])) (fun _ k => XS.iload X1.here hx rfl (hb hby at_85) rfl k) ?_
        refine Go.st (f' := (mkF m 99 #[iv p1, iv p2, iv p3, iv p4, rv kd, iv yy2, iv yy3, iv yy4, iv yy2, iv yy221, .unset, .unset, .unset, .unset, .unset, .unset] [(.int yy4)])) (fun _ k => XS.goto X1.here hx rfl (pc0 := 87) (pc' := 99) rfl (hb hby at_87) (by decide) (by decide) k) ?_
        refine Go.st (f' := (mkF m 101 #[iv p1, iv p2, iv p3, iv p4, rv kd, iv yy2, iv yy3, iv yy4, iv yy2, iv yy221, iv yy4, .unset, .unset, .unset, .unset, .unset] [])) (fun _ k => XS.istore X1.here hx rfl (hb hby at_99) rfl (l' := #[iv p1, iv p2, iv p3, iv p4, rv kd, iv yy2, iv yy3, iv yy4, iv yy2, iv yy221, iv yy4, .unset, .unset, .unset, .unset, .unset]) rfl k) ?_
        refine Go.st (f' := (mkF m 102 #[iv p1, iv p2, iv p3, iv p4, rv kd, iv yy2, iv yy3, iv yy4, iv yy2, iv yy221, iv yy4, .unset, .unset, .unset, .unset, .unset] [(.int p3)])) (fun _ k => XS.iloadN X1.here hx rfl (hb hby at_101) rfl k) ?_
        refine Go.st (f' := (mkF m 104 #[iv p1, iv p2, iv p3, iv p4, rv kd, iv yy2, iv yy3, iv yy4, iv yy2, iv yy221, iv yy4, .unset, .unset, .unset, .unset, .unset] [(.int 21), (.int p3)])) (fun _ k => XS.bipush X1.here hx rfl (hb hby at_102) k) ?_
        refine Go.st (f' := (mkF m 105 #[iv p1, iv p2, iv p3, iv p4, rv kd, iv yy2, iv yy3, iv yy4, iv yy2, iv yy221, iv yy4, .unset, .unset, .unset, .unset, .unset] [(.int ((p3.toUInt32 >>> ((21 : Int32) &&& 31).toUInt32).toInt32))])) (fun _ k => XS.iushr X1.here hx rfl (hb hby at_104) rfl k) ?_
        refine Go.st (f' := (mkF m 107 #[iv p1, iv p2, iv p3, iv p4, rv kd, iv yy2, iv yy3, iv yy4, iv yy2, iv yy221, iv yy4, .unset, .unset, .unset, .unset, .unset] [(.int 7), (.int ((p3.toUInt32 >>> ((21 : Int32) &&& 31).toUInt32).toInt32))])) (fun _ k => XS.bipush X1.here hx rfl (hb hby at_105) k) ?_
        refine Go.st (f' := (mkF m 108 #[iv p1, iv p2, iv p3, iv p4, rv kd, iv yy2, iv yy3, iv yy4, iv yy2, iv yy221, iv yy4, .unset, .unset, .unset, .unset, .unset] [(.int (((p3.toUInt32 >>> ((21 : Int32) &&& 31).toUInt32).toInt32) &&& (7 : Int32)))])) (fun _ k => XS.iand X1.here hx rfl (hb hby at_107) rfl k) ?_
        refine Go.st (f' := (mkF m 110 #[iv p1, iv p2, iv p3, iv p4, rv kd, iv yy2, iv yy3, iv yy4, iv yy2, iv yy221, iv yy4, .unset, .unset, .unset, .unset, .unset] [(.int 7), (.int (((p3.toUInt32 >>> ((21 : Int32) &&& 31).toUInt32).toInt32) &&& (7 : Int32)))])) (fun _ k => XS.bipush X1.here hx rfl (hb hby at_108) k) ?_
        by_cases cd225 : (((p3.toUInt32 >>> ((21 : Int32) &&& 31).toUInt32).toInt32) &&& (7 : Int32)) = (7 : Int32)
        · refine Go.st (f' := (mkF m 113 #[iv p1, iv p2, iv p3, iv p4, rv kd, iv yy2, iv yy3, iv yy4, iv yy2, iv yy221, iv yy4, .unset, .unset, .unset, .unset, .unset] [])) (fun _ k => XS.icmpNo X1.here hx rfl (hb hby at_110) rfl (teq cd225).2 k) ?_
          refine Go.st (f' := (mkF m 114 #[iv p1, iv p2, iv p3, iv p4, rv kd, iv yy2, iv yy3, iv yy4, iv yy2, iv yy221, iv yy4, .unset, .unset, .unset, .unset, .unset] [(.int 1)])) (fun _ k => XS.iconst X1.here hx rfl (hb hby at_113) k) ?_
          refine Go.st (f' := (mkF m 118 #[iv p1, iv p2, iv p3, iv p4, rv kd, iv yy2, iv yy3, iv yy4, iv yy2, iv yy221, iv yy4, .unset, .unset, .unset, .unset, .unset] [(.int 1)])) (fun _ k => XS.goto X1.here hx rfl (pc0 := 114) (pc' := 118) rfl (hb hby at_114) (by decide) (by decide) k) ?_
          refine Go.st (f' := (mkF m 120 #[iv p1, iv p2, iv p3, iv p4, rv kd, iv yy2, iv yy3, iv yy4, iv yy2, iv yy221, iv yy4, iv 1, .unset, .unset, .unset, .unset] [])) (fun _ k => XS.istore X1.here hx rfl (hb hby at_118) rfl (l' := #[iv p1, iv p2, iv p3, iv p4, rv kd, iv yy2, iv yy3, iv yy4, iv yy2, iv yy221, iv yy4, iv 1, .unset, .unset, .unset, .unset]) rfl k) ?_
          exact J yy2 yy221 yy4 (1 : Int32) (hyy2 ▸ own_m3 _) ⟨(hyy221 ▸ own_b _).1, (hyy221 ▸ own_b _).2⟩ ⟨(hyy4 ▸ own_b _).1, (hyy4 ▸ own_b _).2⟩ (Or.inr rfl)
        · refine Go.st (f' := (mkF m 117 #[iv p1, iv p2, iv p3, iv p4, rv kd, iv yy2, iv yy3, iv yy4, iv yy2, iv yy221, iv yy4, .unset, .unset, .unset, .unset, .unset] [])) (fun _ k => XS.icmpYes X1.here hx rfl (pc0 := 110) (pc' := 117) rfl (hb hby at_110) rfl (feq cd225).2 (by decide) (by decide) k) ?_
          refine Go.st (f' := (mkF m 118 #[iv p1, iv p2, iv p3, iv p4, rv kd, iv yy2, iv yy3, iv yy4, iv yy2, iv yy221, iv yy4, .unset, .unset, .unset, .unset, .unset] [(.int 0)])) (fun _ k => XS.iconst X1.here hx rfl (hb hby at_117) k) ?_
          refine Go.st (f' := (mkF m 120 #[iv p1, iv p2, iv p3, iv p4, rv kd, iv yy2, iv yy3, iv yy4, iv yy2, iv yy221, iv yy4, iv 0, .unset, .unset, .unset, .unset] [])) (fun _ k => XS.istore X1.here hx rfl (hb hby at_118) rfl (l' := #[iv p1, iv p2, iv p3, iv p4, rv kd, iv yy2, iv yy3, iv yy4, iv yy2, iv yy221, iv yy4, iv 0, .unset, .unset, .unset, .unset]) rfl k) ?_
          exact J yy2 yy221 yy4 (0 : Int32) (hyy2 ▸ own_m3 _) ⟨(hyy221 ▸ own_b _).1, (hyy221 ▸ own_b _).2⟩ ⟨(hyy4 ▸ own_b _).1, (hyy4 ▸ own_b _).2⟩ (Or.inl rfl)
    · refine Go.st (f' := (mkF m 62 #[iv p1, iv p2, iv p3, iv p4, rv kd, iv yy2, iv yy3, iv yy4, iv yy2, .unset, .unset, .unset, .unset, .unset, .unset, .unset] [])) (fun _ k => XS.ifNo X1.here hx rfl (hb hby at_59) rfl ((if0 _ _).trans (feq cd220).1) k) ?_
      refine Go.st (f' := (mkF m 64 #[iv p1, iv p2, iv p3, iv p4, rv kd, iv yy2, iv yy3, iv yy4, iv yy2, .unset, .unset, .unset, .unset, .unset, .unset, .unset] [(.int yy3)])) (fun _ k => XS.iload X1.here hx rfl (hb hby at_62) rfl k) ?_
      refine Go.st (f' := (mkF m 75 #[iv p1, iv p2, iv p3, iv p4, rv kd, iv yy2, iv yy3, iv yy4, iv yy2, .unset, .unset, .unset, .unset, .unset, .unset, .unset] [(.int yy3)])) (fun _ k => XS.goto X1.here hx rfl (pc0 := 64) (pc' := 75) rfl (hb hby at_64) (by decide) (by decide) k) ?_
      refine Go.st (f' := (mkF m 77 #[iv p1, iv p2, iv p3, iv p4, rv kd, iv yy2, iv yy3, iv yy4, iv yy2, iv yy3, .unset, .unset, .unset, .unset, .unset, .unset] [])) (fun _ k => XS.istore X1.here hx rfl (hb hby at_75) rfl (l' := #[iv p1, iv p2, iv p3, iv p4, rv kd, iv yy2, iv yy3, iv yy4, iv yy2, iv yy3, .unset, .unset, .unset, .unset, .unset, .unset]) rfl k) ?_
      refine Go.st (f' := (mkF m 78 #[iv p1, iv p2, iv p3, iv p4, rv kd, iv yy2, iv yy3, iv yy4, iv yy2, iv yy3, .unset, .unset, .unset, .unset, .unset, .unset] [(.int p3)])) (fun _ k => XS.iloadN X1.here hx rfl (hb hby at_77) rfl k) ?_
      refine Go.st (f' := (mkF m 79 #[iv p1, iv p2, iv p3, iv p4, rv kd, iv yy2, iv yy3, iv yy4, iv yy2, iv yy3, .unset, .unset, .unset, .unset, .unset, .unset] [(.int 4), (.int p3)])) (fun _ k => XS.iconst X1.here hx rfl (hb hby at_78) k) ?_
      refine Go.st (f' := (mkF m 80 #[iv p1, iv p2, iv p3, iv p4, rv kd, iv yy2, iv yy3, iv yy4, iv yy2, iv yy3, .unset, .unset, .unset, .unset, .unset, .unset] [(.int ((p3.toUInt32 >>> ((4 : Int32) &&& 31).toUInt32).toInt32))])) (fun _ k => XS.iushr X1.here hx rfl (hb hby at_79) rfl k) ?_
      refine Go.st (f' := (mkF m 81 #[iv p1, iv p2, iv p3, iv p4, rv kd, iv yy2, iv yy3, iv yy4, iv yy2, iv yy3, .unset, .unset, .unset, .unset, .unset, .unset] [(.int 1), (.int ((p3.toUInt32 >>> ((4 : Int32) &&& 31).toUInt32).toInt32))])) (fun _ k => XS.iconst X1.here hx rfl (hb hby at_80) k) ?_
      refine Go.st (f' := (mkF m 82 #[iv p1, iv p2, iv p3, iv p4, rv kd, iv yy2, iv yy3, iv yy4, iv yy2, iv yy3, .unset, .unset, .unset, .unset, .unset, .unset] [(.int (((p3.toUInt32 >>> ((4 : Int32) &&& 31).toUInt32).toInt32) &&& (1 : Int32)))])) (fun _ k => XS.iand X1.here hx rfl (hb hby at_81) rfl k) ?_
      by_cases cd226 : (((p3.toUInt32 >>> ((4 : Int32) &&& 31).toUInt32).toInt32) &&& (1 : Int32)) = (0 : Int32)
      · refine Go.st (f' := (mkF m 90 #[iv p1, iv p2, iv p3, iv p4, rv kd, iv yy2, iv yy3, iv yy4, iv yy2, iv yy3, .unset, .unset, .unset, .unset, .unset, .unset] [])) (fun _ k => XS.ifYes X1.here hx rfl (pc0 := 82) (pc' := 90) rfl (hb hby at_82) rfl ((if0 _ _).trans (teq cd226).1) (by decide) (by decide) k) ?_
        refine Go.st (f' := (mkF m 91 #[iv p1, iv p2, iv p3, iv p4, rv kd, iv yy2, iv yy3, iv yy4, iv yy2, iv yy3, .unset, .unset, .unset, .unset, .unset, .unset] [(.int p3)])) (fun _ k => XS.iloadN X1.here hx rfl (hb hby at_90) rfl k) ?_
        refine Go.st (f' := (mkF m 93 #[iv p1, iv p2, iv p3, iv p4, rv kd, iv yy2, iv yy3, iv yy4, iv yy2, iv yy3, .unset, .unset, .unset, .unset, .unset, .unset] [(.int 13), (.int p3)])) (fun _ k => XS.bipush X1.here hx rfl (hb hby at_91) k) ?_
        refine Go.st (f' := (mkF m 94 #[iv p1, iv p2, iv p3, iv p4, rv kd, iv yy2, iv yy3, iv yy4, iv yy2, iv yy3, .unset, .unset, .unset, .unset, .unset, .unset] [(.int ((p3.toUInt32 >>> ((13 : Int32) &&& 31).toUInt32).toInt32))])) (fun _ k => XS.iushr X1.here hx rfl (hb hby at_93) rfl k) ?_
        refine Go.st (f' := (mkF m 97 #[iv p1, iv p2, iv p3, iv p4, rv kd, iv yy2, iv yy3, iv yy4, iv yy2, iv yy3, .unset, .unset, .unset, .unset, .unset, .unset] [(.int 255), (.int ((p3.toUInt32 >>> ((13 : Int32) &&& 31).toUInt32).toInt32))])) (fun _ k => XS.sipush X1.here hx rfl (hb hby at_94) k) ?_
        refine Go.st (f' := (mkF m 98 #[iv p1, iv p2, iv p3, iv p4, rv kd, iv yy2, iv yy3, iv yy4, iv yy2, iv yy3, .unset, .unset, .unset, .unset, .unset, .unset] [(.int (((p3.toUInt32 >>> ((13 : Int32) &&& 31).toUInt32).toInt32) &&& (255 : Int32)))])) (fun _ k => XS.iand X1.here hx rfl (hb hby at_97) rfl k) ?_
        refine Go.st (f' := (mkF m 99 #[iv p1, iv p2, iv p3, iv p4, rv kd, iv yy2, iv yy3, iv yy4, iv yy2, iv yy3, .unset, .unset, .unset, .unset, .unset, .unset] [(.int ((((p3.toUInt32 >>> ((13 : Int32) &&& 31).toUInt32).toInt32) &&& (255 : Int32)).toUInt32.toUInt16.toUInt32.toInt32))])) (fun _ k => XS.i2c X1.here hx rfl (hb hby at_98) rfl k) ?_
        obtain ⟨yy227, hyy227⟩ : ∃ z, z = ((((p3.toUInt32 >>> ((13 : Int32) &&& 31).toUInt32).toInt32) &&& (255 : Int32)).toUInt32.toUInt16.toUInt32.toInt32) := ⟨_, rfl⟩
        rw [← hyy227]
        refine Go.st (f' := (mkF m 101 #[iv p1, iv p2, iv p3, iv p4, rv kd, iv yy2, iv yy3, iv yy4, iv yy2, iv yy3, iv yy227, .unset, .unset, .unset, .unset, .unset] [])) (fun _ k => XS.istore X1.here hx rfl (hb hby at_99) rfl (l' := #[iv p1, iv p2, iv p3, iv p4, rv kd, iv yy2, iv yy3, iv yy4, iv yy2, iv yy3, iv yy227, .unset, .unset, .unset, .unset, .unset]) rfl k) ?_
        refine Go.st (f' := (mkF m 102 #[iv p1, iv p2, iv p3, iv p4, rv kd, iv yy2, iv yy3, iv yy4, iv yy2, iv yy3, iv yy227, .unset, .unset, .unset, .unset, .unset] [(.int p3)])) (fun _ k => XS.iloadN X1.here hx rfl (hb hby at_101) rfl k) ?_
        refine Go.st (f' := (mkF m 104 #[iv p1, iv p2, iv p3, iv p4, rv kd, iv yy2, iv yy3, iv yy4, iv yy2, iv yy3, iv yy227, .unset, .unset, .unset, .unset, .unset] [(.int 21), (.int p3)])) (fun _ k => XS.bipush X1.here hx rfl (hb hby at_102) k) ?_
        refine Go.st (f' := (mkF m 105 #[iv p1, iv p2, iv p3, iv p4, rv kd, iv yy2, iv yy3, iv yy4, iv yy2, iv yy3, iv yy227, .unset, .unset, .unset, .unset, .unset] [(.int ((p3.toUInt32 >>> ((21 : Int32) &&& 31).toUInt32).toInt32))])) (fun _ k => XS.iushr X1.here hx rfl (hb hby at_104) rfl k) ?_
        refine Go.st (f' := (mkF m 107 #[iv p1, iv p2, iv p3, iv p4, rv kd, iv yy2, iv yy3, iv yy4, iv yy2, iv yy3, iv yy227, .unset, .unset, .unset, .unset, .unset] [(.int 7), (.int ((p3.toUInt32 >>> ((21 : Int32) &&& 31).toUInt32).toInt32))])) (fun _ k => XS.bipush X1.here hx rfl (hb hby at_105) k) ?_
        refine Go.st (f' := (mkF m 108 #[iv p1, iv p2, iv p3, iv p4, rv kd, iv yy2, iv yy3, iv yy4, iv yy2, iv yy3, iv yy227, .unset, .unset, .unset, .unset, .unset] [(.int (((p3.toUInt32 >>> ((21 : Int32) &&& 31).toUInt32).toInt32) &&& (7 : Int32)))])) (fun _ k => XS.iand X1.here hx rfl (hb hby at_107) rfl k) ?_
        refine Go.st (f' := (mkF m 110 #[iv p1, iv p2, iv p3, iv p4, rv kd, iv yy2, iv yy3, iv yy4, iv yy2, iv yy3, iv yy227, .unset, .unset, .unset, .unset, .unset] [(.int 7), (.int (((p3.toUInt32 >>> ((21 : Int32) &&& 31).toUInt32).toInt32) &&& (7 : Int32)))])) (fun _ k => XS.bipush X1.here hx rfl (hb hby at_108) k) ?_
        by_cases cd228 : (((p3.toUInt32 >>> ((21 : Int32) &&& 31).toUInt32).toInt32) &&& (7 : Int32)) = (7 : Int32)
        · refine Go.st (f' := (mkF m 113 #[iv p1, iv p2, iv p3, iv p4, rv kd, iv yy2, iv yy3, iv yy4, iv yy2, iv yy3, iv yy227, .unset, .unset, .unset, .unset, .unset] [])) (fun _ k => XS.icmpNo X1.here hx rfl (hb hby at_110) rfl (teq cd228).2 k) ?_
          refine Go.st (f' := (mkF m 114 #[iv p1, iv p2, iv p3, iv p4, rv kd, iv yy2, iv yy3, iv yy4, iv yy2, iv yy3, iv yy227, .unset, .unset, .unset, .unset, .unset] [(.int 1)])) (fun _ k => XS.iconst X1.here hx rfl (hb hby at_113) k) ?_
          refine Go.st (f' := (mkF m 118 #[iv p1, iv p2, iv p3, iv p4, rv kd, iv yy2, iv yy3, iv yy4, iv yy2, iv yy3, iv yy227, .unset, .unset, .unset, .unset, .unset] [(.int 1)])) (fun _ k => XS.goto X1.here hx rfl (pc0 := 114) (pc' := 118) rfl (hb hby at_114) (by decide) (by decide) k) ?_
          refine Go.st (f' := (mkF m 120 #[iv p1, iv p2, iv p3, iv p4, rv kd, iv yy2, iv yy3, iv yy4, iv yy2, iv yy3, iv yy227, iv 1, .unset, .unset, .unset, .unset] [])) (fun _ k => XS.istore X1.here hx rfl (hb hby at_118) rfl (l' := #[iv p1, iv p2, iv p3, iv p4, rv kd, iv yy2, iv yy3, iv yy4, iv yy2, iv yy3, iv yy227, iv 1, .unset, .unset, .unset, .unset]) rfl k) ?_
          exact J yy2 yy3 yy227 (1 : Int32) (hyy2 ▸ own_m3 _) ⟨(hyy3 ▸ own_b _).1, (hyy3 ▸ own_b _).2⟩ ⟨(hyy227 ▸ own_b _).1, (hyy227 ▸ own_b _).2⟩ (Or.inr rfl)
        · refine Go.st (f' := (mkF m 117 #[iv p1, iv p2, iv p3, iv p4, rv kd, iv yy2, iv yy3, iv yy4, iv yy2, iv yy3, iv yy227, .unset, .unset, .unset, .unset, .unset] [])) (fun _ k => XS.icmpYes X1.here hx rfl (pc0 := 110) (pc' := 117) rfl (hb hby at_110) rfl (feq cd228).2 (by decide) (by decide) k) ?_
          refine Go.st (f' := (mkF m 118 #[iv p1, iv p2, iv p3, iv p4, rv kd, iv yy2, iv yy3, iv yy4, iv yy2, iv yy3, iv yy227, .unset, .unset, .unset, .unset, .unset] [(.int 0)])) (fun _ k => XS.iconst X1.here hx rfl (hb hby at_117) k) ?_
          refine Go.st (f' := (mkF m 120 #[iv p1, iv p2, iv p3, iv p4, rv kd, iv yy2, iv yy3, iv yy4, iv yy2, iv yy3, iv yy227, iv 0, .unset, .unset, .unset, .unset] [])) (fun _ k => XS.istore X1.here hx rfl (hb hby at_118) rfl (l' := #[iv p1, iv p2, iv p3, iv p4, rv kd, iv yy2, iv yy3, iv yy4, iv yy2, iv yy3, iv yy227, iv 0, .unset, .unset, .unset, .unset]) rfl k) ?_
          exact J yy2 yy3 yy227 (0 : Int32) (hyy2 ▸ own_m3 _) ⟨(hyy3 ▸ own_b _).1, (hyy3 ▸ own_b _).2⟩ ⟨(hyy227 ▸ own_b _).1, (hyy227 ▸ own_b _).2⟩ (Or.inl rfl)
      · refine Go.st (f' := (mkF m 85 #[iv p1, iv p2, iv p3, iv p4, rv kd, iv yy2, iv yy3, iv yy4, iv yy2, iv yy3, .unset, .unset, .unset, .unset, .unset, .unset] [])) (fun _ k => XS.ifNo X1.here hx rfl (hb hby at_82) rfl ((if0 _ _).trans (feq cd226).1) k) ?_
        refine Go.st (f' := (mkF m 87 #[iv p1, iv p2, iv p3, iv p4, rv kd, iv yy2, iv yy3, iv yy4, iv yy2, iv yy3, .unset, .unset, .unset, .unset, .unset, .unset] [(.int yy4)])) (fun _ k => XS.iload X1.here hx rfl (hb hby at_85) rfl k) ?_
        refine Go.st (f' := (mkF m 99 #[iv p1, iv p2, iv p3, iv p4, rv kd, iv yy2, iv yy3, iv yy4, iv yy2, iv yy3, .unset, .unset, .unset, .unset, .unset, .unset] [(.int yy4)])) (fun _ k => XS.goto X1.here hx rfl (pc0 := 87) (pc' := 99) rfl (hb hby at_87) (by decide) (by decide) k) ?_
        refine Go.st (f' := (mkF m 101 #[iv p1, iv p2, iv p3, iv p4, rv kd, iv yy2, iv yy3, iv yy4, iv yy2, iv yy3, iv yy4, .unset, .unset, .unset, .unset, .unset] [])) (fun _ k => XS.istore X1.here hx rfl (hb hby at_99) rfl (l' := #[iv p1, iv p2, iv p3, iv p4, rv kd, iv yy2, iv yy3, iv yy4, iv yy2, iv yy3, iv yy4, .unset, .unset, .unset, .unset, .unset]) rfl k) ?_
        refine Go.st (f' := (mkF m 102 #[iv p1, iv p2, iv p3, iv p4, rv kd, iv yy2, iv yy3, iv yy4, iv yy2, iv yy3, iv yy4, .unset, .unset, .unset, .unset, .unset] [(.int p3)])) (fun _ k => XS.iloadN X1.here hx rfl (hb hby at_101) rfl k) ?_
        refine Go.st (f' := (mkF m 104 #[iv p1, iv p2, iv p3, iv p4, rv kd, iv yy2, iv yy3, iv yy4, iv yy2, iv yy3, iv yy4, .unset, .unset, .unset, .unset, .unset] [(.int 21), (.int p3)])) (fun _ k => XS.bipush X1.here hx rfl (hb hby at_102) k) ?_
        refine Go.st (f' := (mkF m 105 #[iv p1, iv p2, iv p3, iv p4, rv kd, iv yy2, iv yy3, iv yy4, iv yy2, iv yy3, iv yy4, .unset, .unset, .unset, .unset, .unset] [(.int ((p3.toUInt32 >>> ((21 : Int32) &&& 31).toUInt32).toInt32))])) (fun _ k => XS.iushr X1.here hx rfl (hb hby at_104) rfl k) ?_
        refine Go.st (f' := (mkF m 107 #[iv p1, iv p2, iv p3, iv p4, rv kd, iv yy2, iv yy3, iv yy4, iv yy2, iv yy3, iv yy4, .unset, .unset, .unset, .unset, .unset] [(.int 7), (.int ((p3.toUInt32 >>> ((21 : Int32) &&& 31).toUInt32).toInt32))])) (fun _ k => XS.bipush X1.here hx rfl (hb hby at_105) k) ?_
        refine Go.st (f' := (mkF m 108 #[iv p1, iv p2, iv p3, iv p4, rv kd, iv yy2, iv yy3, iv yy4, iv yy2, iv yy3, iv yy4, .unset, .unset, .unset, .unset, .unset] [(.int (((p3.toUInt32 >>> ((21 : Int32) &&& 31).toUInt32).toInt32) &&& (7 : Int32)))])) (fun _ k => XS.iand X1.here hx rfl (hb hby at_107) rfl k) ?_
        refine Go.st (f' := (mkF m 110 #[iv p1, iv p2, iv p3, iv p4, rv kd, iv yy2, iv yy3, iv yy4, iv yy2, iv yy3, iv yy4, .unset, .unset, .unset, .unset, .unset] [(.int 7), (.int (((p3.toUInt32 >>> ((21 : Int32) &&& 31).toUInt32).toInt32) &&& (7 : Int32)))])) (fun _ k => XS.bipush X1.here hx rfl (hb hby at_108) k) ?_
        by_cases cd229 : (((p3.toUInt32 >>> ((21 : Int32) &&& 31).toUInt32).toInt32) &&& (7 : Int32)) = (7 : Int32)
        · refine Go.st (f' := (mkF m 113 #[iv p1, iv p2, iv p3, iv p4, rv kd, iv yy2, iv yy3, iv yy4, iv yy2, iv yy3, iv yy4, .unset, .unset, .unset, .unset, .unset] [])) (fun _ k => XS.icmpNo X1.here hx rfl (hb hby at_110) rfl (teq cd229).2 k) ?_
          refine Go.st (f' := (mkF m 114 #[iv p1, iv p2, iv p3, iv p4, rv kd, iv yy2, iv yy3, iv yy4, iv yy2, iv yy3, iv yy4, .unset, .unset, .unset, .unset, .unset] [(.int 1)])) (fun _ k => XS.iconst X1.here hx rfl (hb hby at_113) k) ?_
          refine Go.st (f' := (mkF m 118 #[iv p1, iv p2, iv p3, iv p4, rv kd, iv yy2, iv yy3, iv yy4, iv yy2, iv yy3, iv yy4, .unset, .unset, .unset, .unset, .unset] [(.int 1)])) (fun _ k => XS.goto X1.here hx rfl (pc0 := 114) (pc' := 118) rfl (hb hby at_114) (by decide) (by decide) k) ?_
          refine Go.st (f' := (mkF m 120 #[iv p1, iv p2, iv p3, iv p4, rv kd, iv yy2, iv yy3, iv yy4, iv yy2, iv yy3, iv yy4, iv 1, .unset, .unset, .unset, .unset] [])) (fun _ k => XS.istore X1.here hx rfl (hb hby at_118) rfl (l' := #[iv p1, iv p2, iv p3, iv p4, rv kd, iv yy2, iv yy3, iv yy4, iv yy2, iv yy3, iv yy4, iv 1, .unset, .unset, .unset, .unset]) rfl k) ?_
          exact J yy2 yy3 yy4 (1 : Int32) (hyy2 ▸ own_m3 _) ⟨(hyy3 ▸ own_b _).1, (hyy3 ▸ own_b _).2⟩ ⟨(hyy4 ▸ own_b _).1, (hyy4 ▸ own_b _).2⟩ (Or.inr rfl)
        · refine Go.st (f' := (mkF m 117 #[iv p1, iv p2, iv p3, iv p4, rv kd, iv yy2, iv yy3, iv yy4, iv yy2, iv yy3, iv yy4, .unset, .unset, .unset, .unset, .unset] [])) (fun _ k => XS.icmpYes X1.here hx rfl (pc0 := 110) (pc' := 117) rfl (hb hby at_110) rfl (feq cd229).2 (by decide) (by decide) k) ?_
          refine Go.st (f' := (mkF m 118 #[iv p1, iv p2, iv p3, iv p4, rv kd, iv yy2, iv yy3, iv yy4, iv yy2, iv yy3, iv yy4, .unset, .unset, .unset, .unset, .unset] [(.int 0)])) (fun _ k => XS.iconst X1.here hx rfl (hb hby at_117) k) ?_
          refine Go.st (f' := (mkF m 120 #[iv p1, iv p2, iv p3, iv p4, rv kd, iv yy2, iv yy3, iv yy4, iv yy2, iv yy3, iv yy4, iv 0, .unset, .unset, .unset, .unset] [])) (fun _ k => XS.istore X1.here hx rfl (hb hby at_118) rfl (l' := #[iv p1, iv p2, iv p3, iv p4, rv kd, iv yy2, iv yy3, iv yy4, iv yy2, iv yy3, iv yy4, iv 0, .unset, .unset, .unset, .unset]) rfl k) ?_
          exact J yy2 yy3 yy4 (0 : Int32) (hyy2 ▸ own_m3 _) ⟨(hyy3 ▸ own_b _).1, (hyy3 ▸ own_b _).2⟩ ⟨(hyy4 ▸ own_b _).1, (hyy4 ▸ own_b _).2⟩ (Or.inl rfl)
set_option maxRecDepth 65536 in
set_option maxHeartbeats 40000000 in
theorem comes_1 {Post : Tables → Env → Array Value → State → Outcome → State → Prop} (hpost : ∀ tb e args s v u, (limb_1_1.after args s (.returned v) u = true ∧ limb_1_2.after args s (.returned v) u = true ∧ True) → ReturnedEndW s (.returned v) u (Jvm.fieldLocs frame_1_writes args s ++ Jvm.arrayLocs frame_1_arrays args s ++ Jvm.staticLocs frame_1_statics s) 24 1152 → Post tb e args s (.returned v) u) :
    ArmFor flags0 classFile x code maxLocals ret World_1 tables_1 room_1 Calls_1 rest_1 Pre_1 Post := by
  intro l hfl _ _ p e ha hc hk s m args below hf hA hF happ hP
  obtain ⟨hcalls, hrest, hpre⟩ := hP
  obtain ⟨-, -, -, hnamed, -, -, -, hat⟩ := (Spec.applies_iff hf).mp happ
  obtain ⟨hg, hn⟩ := and_e (Cond.before_iff.mp (show (Jvm.Cond.and given_1 narrow_1).before args s = true from hpre))
  obtain ⟨g1, g2⟩ := and_e hg
  obtain ⟨g3, g4⟩ := and_e g2
  obtain ⟨g5, g6⟩ := and_e g4
  obtain ⟨g7, g8⟩ := and_e g6
  obtain ⟨v0, v1, v2, v3, rfl⟩ : ∃ v0 v1 v2 v3 : Value, args = #[v0, v1, v2, v3] := by
    have hs : args.size = 4 := by simpa [Cond.value, given_1] using g1
    obtain ⟨L⟩ := args
    match L, hs with
    | [v0, v1, v2, v3], _ => exact ⟨v0, v1, v2, v3, rfl⟩
  have hw := fun d (hd : d ∈ tables_1) => atoms_spec (ws := Jvm.Cond.code x code maxLocals ret :: tables_1) hat d (List.mem_cons_of_mem _ hd)
  have hfit : Fit s := fun {y c} hc i hi => by
    obtain ⟨ha, rfl⟩ := Array.getElem?_eq_some_iff.mp hc
    have q := List.all_eq_true.mp ((Array.all_eq_true_iff_forall_mem.mp hF) _ (Array.getElem_mem ha)) i (List.mem_range.mpr hi)
    simpa [Array.getElem?_eq_getElem hi] using q
  obtain ⟨hsets, hown0⟩ := atoms_of _ (rest_1_c_eq ▸ (show rest_1_c.before _ s = true from hrest))
  have hr0 := Cond.before_iff.mp hown0
  obtain ⟨i0, ei0⟩ := is_v g3
  obtain rfl : v0 = (.int i0) := Option.some.inj ei0
  obtain ⟨i1, ei1⟩ := is_v g5
  obtain rfl : v1 = (.int i1) := Option.some.inj ei1
  obtain ⟨i2, ei2⟩ := is_v g7
  obtain rfl : v2 = (.int i2) := Option.some.inj ei2
  obtain ⟨i3, ei3⟩ := is_v g8
  obtain rfl : v3 = (.int i3) := Option.some.inj ei3
  obtain ⟨q1, q2⟩ := and_e hn
  obtain ⟨q3, q4⟩ := and_e q2
  obtain ⟨q5, q6⟩ := and_e q4
  obtain ⟨q7, q8⟩ := and_e q6
  obtain ⟨q9, q10⟩ := and_e q8
  obtain ⟨q11, q12⟩ := and_e q10
  obtain ⟨q13, q14⟩ := and_e q12
  obtain ⟨q15, q16⟩ := and_e q14
  obtain ⟨q17, q18⟩ := and_e q16
  obtain ⟨w_NUMBER, ev_w_NUMBER⟩ := exa_v q1
  obtain ⟨w_SYMBOL, ev_w_SYMBOL⟩ := exa_v q3
  obtain ⟨w_NAME, ev_w_NAME⟩ := exa_v q9
  obtain ⟨w_END, ev_w_END⟩ := exa_v q13
  obtain ⟨w_STRING, ev_w_STRING⟩ := exa_v q17
  have S_w_NUMBER := Sta.start ev_w_NUMBER (Or.inr ⟨hw _ (List.mem_of_getElem? (i := 6) rfl), hw _ (List.mem_of_getElem? (i := 7) rfl)⟩)
  have E_w_NUMBER := Exa.start ev_w_NUMBER q1
  have S_w_SYMBOL := Sta.start ev_w_SYMBOL (Or.inr ⟨hw _ (List.mem_of_getElem? (i := 6) rfl), hw _ (List.mem_of_getElem? (i := 45) rfl)⟩)
  have E_w_SYMBOL := Exa.start ev_w_SYMBOL q3
  have S_w_NAME := Sta.start ev_w_NAME (Or.inr ⟨hw _ (List.mem_of_getElem? (i := 6) rfl), hw _ (List.mem_of_getElem? (i := 71) rfl)⟩)
  have E_w_NAME := Exa.start ev_w_NAME q9
  have S_w_END := Sta.start ev_w_END (Or.inr ⟨hw _ (List.mem_of_getElem? (i := 6) rfl), hw _ (List.mem_of_getElem? (i := 73) rfl)⟩)
  have E_w_END := Exa.start ev_w_END q13
  have S_w_STRING := Sta.start ev_w_STRING (Or.inr ⟨hw _ (List.mem_of_getElem? (i := 6) rfl), hw _ (List.mem_of_getElem? (i := 75) rfl)⟩)
  have E_w_STRING := Exa.start ev_w_STRING q17
  obtain ⟨i_COMPACT_STRINGS, ev_i_COMPACT_STRINGS⟩ := is_v (Cond.before_iff.mp (hsets _ (List.mem_of_getElem? (i := 1) rfl)))
  have S_i_COMPACT_STRINGS := Sta.start ev_i_COMPACT_STRINGS (Or.inl (hsets _ (List.mem_of_getElem? (i := 0) rfl)))
  have nz_i_COMPACT_STRINGS : ¬ i_COMPACT_STRINGS = (0 : Int32) := own_ne_int (Cond.before_iff.mp (hsets _ (List.mem_of_getElem? (i := 2) rfl))) ev_i_COMPACT_STRINGS
  obtain ⟨v_SIOOBE_FORMATTER, ev_v_SIOOBE_FORMATTER, r_v_SIOOBE_FORMATTER⟩ := isR_v (Cond.before_iff.mp (hsets _ (List.mem_of_getElem? (i := 8) rfl)))
  have S_v_SIOOBE_FORMATTER := Sta.start ev_v_SIOOBE_FORMATTER (Or.inl (hsets _ (List.mem_of_getElem? (i := 7) rfl)))
  have F_w_NUMBER_ordinal := own_fld q5 ev_w_NUMBER
  have F_w_SYMBOL_ordinal := own_fld q7 ev_w_SYMBOL
  have F_w_NAME_ordinal := own_fld q11 ev_w_NAME
  have F_w_END_ordinal := own_fld q15 ev_w_END
  have F_w_STRING_ordinal := own_fld q18 ev_w_STRING
  have WW : World1 s w_NUMBER w_SYMBOL w_NAME w_END w_STRING  i_COMPACT_STRINGS v_SIOOBE_FORMATTER := ⟨S_i_COMPACT_STRINGS, nz_i_COMPACT_STRINGS, S_v_SIOOBE_FORMATTER, r_v_SIOOBE_FORMATTER, S_w_NUMBER, E_w_NUMBER, S_w_SYMBOL, E_w_SYMBOL, S_w_NAME, E_w_NAME, S_w_END, E_w_END, S_w_STRING, E_w_STRING, F_w_NUMBER_ordinal, F_w_SYMBOL_ordinal, F_w_NAME_ordinal, F_w_END_ordinal, F_w_STRING_ordinal⟩
  have hCH : CHv s EL s.vm s.heap := CHv.start (own_EL hw) (fun p hp => hcalls.1 p hp) (hsets _ (List.mem_of_getElem? (i := 2) rfl)) (own_wS hw _ (by simp [Bundle.stringAtoms])) (own_wS hw _ (by simp [Bundle.stringAtoms, Bundle.sN]))
  obtain ⟨n, o, h1, h2, h3, _, L, rfl, ⟨rfl, N⟩, -, hq⟩ := rm0 l s _ hw tables_1 i0 i1 i2 i3 w_NUMBER w_SYMBOL w_NAME w_END w_STRING  i_COMPACT_STRINGS v_SIOOBE_FORMATTER s.heap s.heap.size (Old.start s) WW  p e ha hc hk s m _ below hf ((Spec.applies_iff_loose hf).mp happ).1 ⟨rfl, State.Warmed39.refl s, rfl, hCH⟩ trivial
  refine ⟨n, _, h1, h2, h3, hpost _ _ _ _ _ _ ⟨Cond.after_iff.mpr rfl, Cond.after_iff.mpr (eq_i res_at (Term.int_eval (1)) rfl), trivial⟩ ⟨hq.1, hq.2.1, hq.2.2.1, (hq.2.2.2.sift fun y hy => Or.inr (N y hy)).mono (by decide) (by decide)⟩⟩
theorem main_1_1 : Claimed_1_1 := comes_1 fun _ _ _ _ _ _ h hF => ⟨h.1, hF⟩
theorem main_1_2 : Claimed_1_2 := comes_1 fun _ _ _ _ _ _ h hF => ⟨h.2.1, hF⟩
end Jvm.Pilot.@@N@@
namespace Jvm.Pilot.@@N@@
open Jvm Jvm.ClassFile Sem Op Lib Jvm.Free Jvm.Stand Jvm.Pilot.@@N@@.Jvm.D
/-! MADE BY PROGRAM (witnessworld.py) out of the Statement's table words and the real class files: 23 classes; the members and pool entries that the words name. The judged class is class 1, her method 3. -/
namespace start1
open Jvm.ClassFile
def u (s : String) : CpInfo := .utf8 (stringToUtf16 s)
/-- a pool by its gaps: so many unusable entries, then the entry; so many at the end -/
def gap : Nat → List CpInfo → List CpInfo
  | 0, r => r
  | n + 1, r => .unusable :: gap n r
def poolList (es : List (Nat × CpInfo)) (last : Nat) : List CpInfo := es.foldr (fun e r => gap e.1 (e.2 :: r)) (gap last [])
def pool (es : List (Nat × CpInfo)) (last : Nat) : Array CpInfo := ⟨poolList es last⟩
def fileOf (pool : Array CpInfo) (this : Nat) (attrs : Array Attribute := #[]) (ms : Array MethodInfo := #[]) (fl : Nat := 33) (sup : Nat := 0) (ifs : Array Nat := #[]) (fds : Array FieldInfo := #[]) : ClassFile where
  minorVersion := 0
  majorVersion := 65
  constantPool := pool
  accessFlags := fl
  thisClass := this
  superClass := sup
  interfaces := ifs
  fields := fds
  methods := ms
  attributes := attrs
def plain (name : String) (sup : Option ClassId) : Class where
  name := name
  kind := .ordinary
  loader := none
  accessFlags := 33
  super := sup
  interfaces := #[]
  cf := none
  fields := #[]
  methods := #[]
  instanceTypes := #[]
  staticTypes := #[]
  resolved := #[]
  callSites := []
  init := .initialized
  statics := none
  mirror := none

def pool0 : Array CpInfo := pool [(5, u "<init>"), (0, u "()V"), (1, .class_ 10), (1, u "java/lang/Object")] 113

def k0c0 : Code := { maxStack := 0, maxLocals := 1, code := object_method_1_code, exceptionTable := #[], attributes := #[] }
def k0m0 : Method := { name := "<init>", desc := "()V", sig := { parameters := [], returnType := none }, accessFlags := 1, code := some k0c0 }
/-- java/lang/Object -/
def k0 : Class := { plain "java/lang/Object" none with
  accessFlags := 33
  interfaces := #[]
  cf := some (fileOf pool0 8 #[] #[{ accessFlags := 1, nameIndex := 5, descriptorIndex := 6, attributes := #[] }] 33 0 #[] #[])
  fields := #[]
  methods := #[k0m0]
  instanceTypes := #[]
  staticTypes := #[]
  resolved := Array.replicate 124 none
  statics := none }

def pool1 : Array CpInfo := pool [(2, .class_ 4), (1, u "java/lang/Object"), (0, u "<init>"), (0, u "()V"), (0, .class_ 8), (0, u "java/lang/String"), (0, .methodref 7 10), (0, .nameAndType 5 11), (0, u "([C)V"), (0, .integer 2147483647), (0, .fieldref 14 15), (0, .class_ 16), (0, .nameAndType 17 18), (0, u "com/example/naysay/naysay/rules/Token$Kind"), (0, u "NUMBER"), (0, u "Lcom/example/naysay/naysay/rules/Token$Kind;"), (0, .fieldref 14 20), (0, .nameAndType 21 18), (0, u "STRING"), (0, .fieldref 14 23), (0, .nameAndType 24 18), (0, u "NAME"), (0, .fieldref 14 26), (0, .nameAndType 27 18), (0, u "SYMBOL"), (0, .fieldref 14 29), (0, .nameAndType 30 18), (0, u "END"), (0, .methodref 32 33), (0, .class_ 34), (0, .nameAndType 35 36), (0, u "com/example/naysay/naysay/rules/TokenIsSymbolPinLaw"), (0, u "kindOf"), (0, u "(I)Lcom/example/naysay/naysay/rules/Token$Kind;"), (0, .methodref 32 38), (0, .nameAndType 39 40), (0, u "mk"), (0, u "(ICC)Ljava/lang/String;"), (0, .class_ 42), (0, u "com/example/naysay/naysay/rules/Token"), (0, .methodref 41 44), (0, .nameAndType 5 45), (0, u "(Lcom/example/naysay/naysay/rules/Token$Kind;Ljava/lang/String;I)V"), (0, .methodref 41 47), (0, .nameAndType 48 49), (0, u "isSymbol"), (0, u "(Ljava/lang/String;)Z"), (3, u "law"), (0, u "(IIII)Z")] 4

def k1m0 : Method := { name := "<init>", desc := "()V", sig := { parameters := [], returnType := none }, accessFlags := 1, code := none }
def k1c1 : Code := { maxStack := 3, maxLocals := 4, code := method_2_code, exceptionTable := #[], attributes := #[] }
def k1m1 : Method := { name := "mk", desc := "(ICC)Ljava/lang/String;", sig := { parameters := [.int, .char, .char], returnType := some (.object "java/lang/String") }, accessFlags := 10, code := some k1c1 }
def k1c2 : Code := { maxStack := 2, maxLocals := 2, code := method_3_code, exceptionTable := #[], attributes := #[] }
def k1m2 : Method := { name := "kindOf", desc := "(I)Lcom/example/naysay/naysay/rules/Token$Kind;", sig := { parameters := [.int], returnType := some (.object "com/example/naysay/naysay/rules/Token$Kind") }, accessFlags := 10, code := some k1c2 }
def k1c3 : Code := { maxStack := 5, maxLocals := 16, code := code, exceptionTable := #[], attributes := #[] }
def k1m3 : Method := { name := "law", desc := "(IIII)Z", sig := { parameters := [.int, .int, .int, .int], returnType := some .boolean }, accessFlags := 9, code := some k1c3 }
/-- com/example/naysay/naysay/rules/TokenIsSymbolPinLaw -/
def k1 : Class := { plain "com/example/naysay/naysay/rules/TokenIsSymbolPinLaw" (some 0) with
  accessFlags := 49
  interfaces := #[]
  cf := some (fileOf pool1 32 #[] #[{ accessFlags := 1, nameIndex := 5, descriptorIndex := 6, attributes := #[] }, { accessFlags := 10, nameIndex := 39, descriptorIndex := 40, attributes := #[] }, { accessFlags := 10, nameIndex := 35, descriptorIndex := 36, attributes := #[] }, { accessFlags := 9, nameIndex := 53, descriptorIndex := 54, attributes := #[] }] 49 2 #[] #[])
  fields := #[]
  methods := #[k1m0, k1m1, k1m2, k1m3]
  instanceTypes := #[]
  staticTypes := #[]
  resolved := Array.replicate 59 none
  statics := none }

def pool2 : Array CpInfo := pool [(1, .class_ 2), (0, u "java/lang/constant/Constable"), (0, .class_ 4), (0, u "java/lang/Object")] 6

/-- java/lang/constant/Constable -/
def k2 : Class := { plain "java/lang/constant/Constable" (some 0) with
  accessFlags := 1537
  interfaces := #[]
  cf := some (fileOf pool2 1 #[] #[] 1537 3 #[] #[])
  fields := #[]
  methods := #[]
  instanceTypes := #[]
  staticTypes := #[]
  resolved := Array.replicate 11 none
  statics := none }

def pool3 : Array CpInfo := pool [(1, .class_ 2), (0, u "java/lang/Comparable"), (0, .class_ 4), (0, u "java/lang/Object")] 7

/-- java/lang/Comparable -/
def k3 : Class := { plain "java/lang/Comparable" (some 0) with
  accessFlags := 1537
  interfaces := #[]
  cf := some (fileOf pool3 1 #[] #[] 1537 3 #[] #[])
  fields := #[]
  methods := #[]
  instanceTypes := #[]
  staticTypes := #[]
  resolved := Array.replicate 12 none
  statics := none }

def pool4 : Array CpInfo := pool [(1, .class_ 2), (0, u "java/io/Serializable"), (0, .class_ 4), (0, u "java/lang/Object")] 2

/-- java/io/Serializable -/
def k4 : Class := { plain "java/io/Serializable" (some 0) with
  accessFlags := 1537
  interfaces := #[]
  cf := some (fileOf pool4 1 #[] #[] 1537 3 #[] #[])
  fields := #[]
  methods := #[]
  instanceTypes := #[]
  staticTypes := #[]
  resolved := Array.replicate 7 none
  statics := none }

def pool5 : Array CpInfo := pool [(2, .class_ 4), (1, u "java/lang/Enum"), (0, u "name"), (0, u "Ljava/lang/String;"), (2, u "ordinal"), (0, u "I"), (1, .class_ 14), (1, u "java/lang/Object"), (4, u "hash"), (86, .class_ 108), (1, u "java/lang/Enum$EnumDesc"), (2, .class_ 112), (0, u "java/lang/constant/Constable"), (0, .class_ 114), (0, u "java/lang/Comparable"), (0, .class_ 116), (0, u "java/io/Serializable")] 87

/-- java/lang/Enum -/
def k5 : Class := { plain "java/lang/Enum" (some 0) with
  accessFlags := 1057
  interfaces := #[2, 3, 4]
  cf := some (fileOf pool5 2 #[.nestMembers #[106]] #[] 1057 12 #[111, 113, 115] #[{ accessFlags := 18, nameIndex := 5, descriptorIndex := 6, attributes := #[] }, { accessFlags := 18, nameIndex := 9, descriptorIndex := 10, attributes := #[] }, { accessFlags := 2, nameIndex := 19, descriptorIndex := 10, attributes := #[] }])
  fields := #[{ name := "name", type := (.object "java/lang/String"), accessFlags := 18, slot := 0, constantValue := 0 }, { name := "ordinal", type := .int, accessFlags := 18, slot := 1, constantValue := 0 }, { name := "hash", type := .int, accessFlags := 2, slot := 2, constantValue := 0 }]
  methods := #[]
  instanceTypes := #[(.object "java/lang/String"), .int, .int]
  staticTypes := #[]
  resolved := Array.replicate 204 none
  statics := none }

def pool6 : Array CpInfo := pool [(1, .class_ 2), (0, u "com/example/naysay/naysay/rules/Token$Kind"), (2, u "NUMBER"), (0, u "Lcom/example/naysay/naysay/rules/Token$Kind;"), (2, u "STRING"), (2, u "NAME"), (2, u "SYMBOL"), (2, u "END"), (2, u "$VALUES"), (0, u "[Lcom/example/naysay/naysay/rules/Token$Kind;"), (6, .class_ 31), (1, u "java/lang/Enum"), (28, .class_ 61), (0, u "com/example/naysay/naysay/rules/Token")] 2

/-- com/example/naysay/naysay/rules/Token$Kind -/
def k6 : Class := { plain "com/example/naysay/naysay/rules/Token$Kind" (some 5) with
  accessFlags := 16432
  interfaces := #[]
  cf := some (fileOf pool6 1 #[.nestHost 60] #[] 16432 29 #[] #[{ accessFlags := 16409, nameIndex := 5, descriptorIndex := 6, attributes := #[] }, { accessFlags := 16409, nameIndex := 9, descriptorIndex := 6, attributes := #[] }, { accessFlags := 16409, nameIndex := 12, descriptorIndex := 6, attributes := #[] }, { accessFlags := 16409, nameIndex := 15, descriptorIndex := 6, attributes := #[] }, { accessFlags := 16409, nameIndex := 18, descriptorIndex := 6, attributes := #[] }, { accessFlags := 4122, nameIndex := 21, descriptorIndex := 22, attributes := #[] }])
  fields := #[{ name := "NUMBER", type := (.object "com/example/naysay/naysay/rules/Token$Kind"), accessFlags := 16409, slot := 0, constantValue := 0 }, { name := "STRING", type := (.object "com/example/naysay/naysay/rules/Token$Kind"), accessFlags := 16409, slot := 1, constantValue := 0 }, { name := "NAME", type := (.object "com/example/naysay/naysay/rules/Token$Kind"), accessFlags := 16409, slot := 2, constantValue := 0 }, { name := "SYMBOL", type := (.object "com/example/naysay/naysay/rules/Token$Kind"), accessFlags := 16409, slot := 3, constantValue := 0 }, { name := "END", type := (.object "com/example/naysay/naysay/rules/Token$Kind"), accessFlags := 16409, slot := 4, constantValue := 0 }, { name := "$VALUES", type := (.array (.object "com/example/naysay/naysay/rules/Token$Kind")), accessFlags := 4122, slot := 5, constantValue := 0 }]
  methods := #[]
  instanceTypes := #[(.object "java/lang/String"), .int, .int]
  staticTypes := #[(.object "com/example/naysay/naysay/rules/Token$Kind"), (.object "com/example/naysay/naysay/rules/Token$Kind"), (.object "com/example/naysay/naysay/rules/Token$Kind"), (.object "com/example/naysay/naysay/rules/Token$Kind"), (.object "com/example/naysay/naysay/rules/Token$Kind"), (.array (.object "com/example/naysay/naysay/rules/Token$Kind"))]
  resolved := Array.replicate 64 none
  statics := some 0 }

def pool7 : Array CpInfo := pool [(2, .class_ 4), (1, u "java/lang/CharSequence"), (42, .class_ 48), (0, u "java/lang/CharSequence$1CodePointIterator"), (10, .class_ 60), (0, u "java/lang/CharSequence$1CharIterator"), (5, .class_ 67), (0, u "java/lang/Object")] 63

/-- java/lang/CharSequence -/
def k7 : Class := { plain "java/lang/CharSequence" (some 0) with
  accessFlags := 1537
  interfaces := #[]
  cf := some (fileOf pool7 2 #[.nestMembers #[47, 59]] #[] 1537 66 #[] #[])
  fields := #[]
  methods := #[]
  instanceTypes := #[]
  staticTypes := #[]
  resolved := Array.replicate 131 none
  statics := none }

def pool8 : Array CpInfo := pool [(1, .class_ 2), (0, u "java/lang/constant/ConstantDesc"), (0, .class_ 4), (0, u "java/lang/Object")] 32

/-- java/lang/constant/ConstantDesc -/
def k8 : Class := { plain "java/lang/constant/ConstantDesc" (some 0) with
  accessFlags := 1537
  interfaces := #[]
  cf := some (fileOf pool8 1 #[] #[] 1537 3 #[] #[])
  fields := #[]
  methods := #[]
  instanceTypes := #[]
  staticTypes := #[]
  resolved := Array.replicate 37 none
  statics := none }

def pool9 : Array CpInfo := pool [(1, .methodref 2 3), (0, .class_ 4), (0, .nameAndType 5 6), (0, u "java/lang/Object"), (0, u "<init>"), (0, u "()V"), (0, .string 8), (0, u ""), (0, .fieldref 10 11), (0, .class_ 12), (0, .nameAndType 13 14), (0, u "java/lang/String"), (0, u "value"), (0, u "[B"), (0, .fieldref 10 16), (0, .nameAndType 17 18), (0, u "coder"), (0, u "B"), (2, u "hash"), (0, u "I"), (2, u "hashIsZero"), (0, u "Z"), (0, .methodref 10 28), (0, .nameAndType 5 29), (0, u "([CIILjava/lang/Void;)V"), (8, .fieldref 10 39), (0, .nameAndType 40 26), (0, u "COMPACT_STRINGS"), (1, .class_ 44), (1, u "java/lang/StringUTF16"), (0, u "compress"), (1, .methodref 42 48), (0, .nameAndType 49 50), (0, u "coderFromArrayLen"), (0, u "([BI)B"), (56, .class_ 109), (1, u "java/lang/StringLatin1"), (67, .methodref 42 178), (0, .nameAndType 45 179), (0, u "([CII)[B"), (361, .methodref 107 542), (0, .nameAndType 543 544), (0, u "equals"), (0, u "([B[B)Z"), (28, u "(Ljava/lang/Object;)Z"), (1, .class_ 576), (0, u "java/lang/CharSequence"), (22, u "CASE_INSENSITIVE_ORDER"), (0, u "Ljava/util/Comparator;"), (409, u "([C)V"), (90, u "serialPersistentFields"), (0, u "[Ljava/io/ObjectStreamField;"), (0, .class_ 1104), (0, u "java/lang/String$CaseInsensitiveComparator"), (1, .class_ 1107), (0, u "java/io/Serializable"), (0, .class_ 1109), (0, u "java/lang/Comparable"), (0, .class_ 1111), (0, u "java/lang/constant/Constable"), (0, .class_ 1113), (0, u "java/lang/constant/ConstantDesc"), (2, u "serialVersionUID"), (0, u "J"), (3, u "REPL"), (0, u "C"), (2, u "LATIN1"), (1, u "UTF16")] 323

def k9m0 : Method := { name := "<init>", desc := "()V", sig := { parameters := [], returnType := none }, accessFlags := 1, code := none }
def k9c1 : Code := { maxStack := 5, maxLocals := 2, code := jdk_42_method_3_code, exceptionTable := #[], attributes := #[] }
def k9m1 : Method := { name := "<init>", desc := "([C)V", sig := { parameters := [(.array .char)], returnType := none }, accessFlags := 1, code := some k9c1 }
def k9c2 : Code := { maxStack := 2, maxLocals := 3, code := jdk_42_method_66_code, exceptionTable := #[], attributes := #[] }
def k9m2 : Method := { name := "equals", desc := "(Ljava/lang/Object;)Z", sig := { parameters := [(.object "java/lang/Object")], returnType := some .boolean }, accessFlags := 1, code := some k9c2 }
def k9c3 : Code := { maxStack := 4, maxLocals := 6, code := jdk_42_method_149_code, exceptionTable := #[], attributes := #[] }
def k9m3 : Method := { name := "<init>", desc := "([CIILjava/lang/Void;)V", sig := { parameters := [(.array .char), .int, .int, (.object "java/lang/Void")], returnType := none }, accessFlags := 2, code := some k9c3 }
/-- java/lang/String -/
def k9 : Class := { plain "java/lang/String" (some 0) with
  accessFlags := 49
  interfaces := #[4, 3, 7, 2, 8]
  cf := some (fileOf pool9 10 #[.nestMembers #[1103]] #[{ accessFlags := 1, nameIndex := 5, descriptorIndex := 6, attributes := #[] }, { accessFlags := 1, nameIndex := 5, descriptorIndex := 1010, attributes := #[] }, { accessFlags := 1, nameIndex := 543, descriptorIndex := 573, attributes := #[] }, { accessFlags := 2, nameIndex := 5, descriptorIndex := 29, attributes := #[] }] 49 2 #[1106, 1108, 575, 1110, 1112] #[{ accessFlags := 18, nameIndex := 13, descriptorIndex := 14, attributes := #[] }, { accessFlags := 18, nameIndex := 17, descriptorIndex := 18, attributes := #[] }, { accessFlags := 2, nameIndex := 21, descriptorIndex := 22, attributes := #[] }, { accessFlags := 2, nameIndex := 25, descriptorIndex := 26, attributes := #[] }, { accessFlags := 26, nameIndex := 1116, descriptorIndex := 1117, attributes := #[] }, { accessFlags := 24, nameIndex := 40, descriptorIndex := 26, attributes := #[] }, { accessFlags := 26, nameIndex := 1101, descriptorIndex := 1102, attributes := #[] }, { accessFlags := 26, nameIndex := 1121, descriptorIndex := 1122, attributes := #[] }, { accessFlags := 25, nameIndex := 599, descriptorIndex := 600, attributes := #[] }, { accessFlags := 24, nameIndex := 1125, descriptorIndex := 18, attributes := #[] }, { accessFlags := 24, nameIndex := 1127, descriptorIndex := 18, attributes := #[] }])
  fields := #[{ name := "value", type := (.array .byte), accessFlags := 18, slot := 0, constantValue := 0 }, { name := "coder", type := .byte, accessFlags := 18, slot := 1, constantValue := 0 }, { name := "hash", type := .int, accessFlags := 2, slot := 2, constantValue := 0 }, { name := "hashIsZero", type := .boolean, accessFlags := 2, slot := 3, constantValue := 0 }, { name := "serialVersionUID", type := .long, accessFlags := 26, slot := 0, constantValue := 0 }, { name := "COMPACT_STRINGS", type := .boolean, accessFlags := 24, slot := 1, constantValue := 0 }, { name := "serialPersistentFields", type := (.array (.object "java/io/ObjectStreamField")), accessFlags := 26, slot := 2, constantValue := 0 }, { name := "REPL", type := .char, accessFlags := 26, slot := 3, constantValue := 0 }, { name := "CASE_INSENSITIVE_ORDER", type := (.object "java/util/Comparator"), accessFlags := 25, slot := 4, constantValue := 0 }, { name := "LATIN1", type := .byte, accessFlags := 24, slot := 5, constantValue := 0 }, { name := "UTF16", type := .byte, accessFlags := 24, slot := 6, constantValue := 0 }]
  methods := #[k9m0, k9m1, k9m2, k9m3]
  instanceTypes := #[(.array .byte), .byte, .int, .boolean]
  staticTypes := #[.long, .boolean, (.array (.object "java/io/ObjectStreamField")), .char, (.object "java/util/Comparator"), .byte, .byte]
  resolved := Array.replicate 1451 none
  statics := some 1 }

def pool10 : Array CpInfo := pool [(6, .class_ 8), (1, u "java/lang/Object"), (0, u "<init>"), (0, u "()V"), (1, .class_ 14), (1, u "java/lang/StringUTF16"), (31, u "$assertionsDisabled"), (0, u "Z"), (13, u "HI_BYTE_SHIFT"), (0, u "I"), (2, u "LO_BYTE_SHIFT"), (49, .methodref 12 116), (0, .nameAndType 117 118), (0, u "compress"), (0, u "([CI[BII)I"), (3, u "([CII)[B"), (138, u "coderFromArrayLen"), (0, u "([BI)B"), (106, .class_ 371), (1, u "java/lang/StringUTF16$LinesSpliterator"), (58, u "MAX_LENGTH"), (196, .class_ 628), (0, u "java/lang/StringUTF16$CodePointsSpliterator"), (0, .class_ 630), (0, u "java/lang/StringUTF16$CharsSpliterator")] 4

def k10m0 : Method := { name := "<init>", desc := "()V", sig := { parameters := [], returnType := none }, accessFlags := 0, code := none }
def k10c1 : Code := { maxStack := 2, maxLocals := 2, code := jdk_52_method_15_code, exceptionTable := #[], attributes := #[] }
def k10m1 : Method := { name := "coderFromArrayLen", desc := "([BI)B", sig := { parameters := [(.array .byte), .int], returnType := some .byte }, accessFlags := 8, code := some k10c1 }
def k10c2 : Code := { maxStack := 5, maxLocals := 6, code := jdk_52_method_16_code, exceptionTable := #[], attributes := #[] }
def k10m2 : Method := { name := "compress", desc := "([CII)[B", sig := { parameters := [(.array .char), .int, .int], returnType := some (.array .byte) }, accessFlags := 9, code := some k10c2 }
def k10c3 : Code := { maxStack := 3, maxLocals := 7, code := jdk_52_method_21_code, exceptionTable := #[], attributes := #[] }
def k10m3 : Method := { name := "compress", desc := "([CI[BII)I", sig := { parameters := [(.array .char), .int, (.array .byte), .int, .int], returnType := some .int }, accessFlags := 9, code := some k10c3 }
/-- java/lang/StringUTF16 -/
def k10 : Class := { plain "java/lang/StringUTF16" (some 0) with
  accessFlags := 48
  interfaces := #[]
  cf := some (fileOf pool10 12 #[.nestMembers #[627, 629, 369]] #[{ accessFlags := 0, nameIndex := 9, descriptorIndex := 10, attributes := #[] }, { accessFlags := 8, nameIndex := 261, descriptorIndex := 262, attributes := #[] }, { accessFlags := 9, nameIndex := 117, descriptorIndex := 122, attributes := #[] }, { accessFlags := 9, nameIndex := 117, descriptorIndex := 118, attributes := #[] }] 48 6 #[] #[{ accessFlags := 26, nameIndex := 61, descriptorIndex := 62, attributes := #[] }, { accessFlags := 26, nameIndex := 65, descriptorIndex := 62, attributes := #[] }, { accessFlags := 24, nameIndex := 430, descriptorIndex := 62, attributes := #[] }, { accessFlags := 4120, nameIndex := 46, descriptorIndex := 47, attributes := #[] }])
  fields := #[{ name := "HI_BYTE_SHIFT", type := .int, accessFlags := 26, slot := 0, constantValue := 0 }, { name := "LO_BYTE_SHIFT", type := .int, accessFlags := 26, slot := 1, constantValue := 0 }, { name := "MAX_LENGTH", type := .int, accessFlags := 24, slot := 2, constantValue := 0 }, { name := "$assertionsDisabled", type := .boolean, accessFlags := 4120, slot := 3, constantValue := 0 }]
  methods := #[k10m0, k10m1, k10m2, k10m3]
  instanceTypes := #[]
  staticTypes := #[.int, .int, .int, .boolean]
  resolved := Array.replicate 635 none
  statics := none }

def pool11 : Array CpInfo := pool [(1, .methodref 2 3), (0, .class_ 4), (0, .nameAndType 5 6), (0, u "java/lang/Object"), (0, u "<init>"), (0, u "()V"), (0, .class_ 8), (0, u "java/lang/Record")] 13

def k11c0 : Code := { maxStack := 1, maxLocals := 1, code := jdk_30_method_1_code, exceptionTable := #[], attributes := #[] }
def k11m0 : Method := { name := "<init>", desc := "()V", sig := { parameters := [], returnType := none }, accessFlags := 4, code := some k11c0 }
/-- java/lang/Record -/
def k11 : Class := { plain "java/lang/Record" (some 0) with
  accessFlags := 1057
  interfaces := #[]
  cf := some (fileOf pool11 7 #[] #[{ accessFlags := 4, nameIndex := 5, descriptorIndex := 6, attributes := #[] }] 1057 2 #[] #[])
  fields := #[]
  methods := #[k11m0]
  instanceTypes := #[]
  staticTypes := #[]
  resolved := Array.replicate 22 none
  statics := none }

def pool12 : Array CpInfo := pool [(1, .methodref 2 3), (0, .class_ 4), (0, .nameAndType 5 6), (0, u "java/lang/Record"), (0, u "<init>"), (0, u "()V"), (0, .fieldref 8 9), (0, .class_ 10), (0, .nameAndType 11 12), (0, u "com/example/naysay/naysay/rules/Token"), (0, u "kind"), (0, u "Lcom/example/naysay/naysay/rules/Token$Kind;"), (0, .fieldref 8 14), (0, .nameAndType 15 16), (0, u "text"), (0, u "Ljava/lang/String;"), (0, .fieldref 8 18), (0, .nameAndType 19 20), (0, u "column"), (0, u "I"), (0, .fieldref 22 23), (0, .class_ 24), (0, .nameAndType 25 12), (0, u "com/example/naysay/naysay/rules/Token$Kind"), (0, u "SYMBOL"), (0, .methodref 27 28), (0, .class_ 29), (0, .nameAndType 30 31), (0, u "java/lang/String"), (0, u "equals"), (0, u "(Ljava/lang/Object;)Z"), (6, u "(Ljava/lang/String;)Z"), (25, u "(Lcom/example/naysay/naysay/rules/Token$Kind;Ljava/lang/String;I)V"), (3, u "isSymbol")] 38

def k12c0 : Code := { maxStack := 2, maxLocals := 4, code := prog_33_method_1_code, exceptionTable := #[], attributes := #[] }
def k12m0 : Method := { name := "<init>", desc := "(Lcom/example/naysay/naysay/rules/Token$Kind;Ljava/lang/String;I)V", sig := { parameters := [(.object "com/example/naysay/naysay/rules/Token$Kind"), (.object "java/lang/String"), .int], returnType := none }, accessFlags := 0, code := some k12c0 }
def k12c1 : Code := { maxStack := 2, maxLocals := 2, code := prog_33_method_2_code, exceptionTable := #[], attributes := #[] }
def k12m1 : Method := { name := "isSymbol", desc := "(Ljava/lang/String;)Z", sig := { parameters := [(.object "java/lang/String")], returnType := some .boolean }, accessFlags := 0, code := some k12c1 }
/-- com/example/naysay/naysay/rules/Token -/
def k12 : Class := { plain "com/example/naysay/naysay/rules/Token" (some 11) with
  accessFlags := 48
  interfaces := #[]
  cf := some (fileOf pool12 8 #[.nestMembers #[22]] #[{ accessFlags := 0, nameIndex := 5, descriptorIndex := 64, attributes := #[] }, { accessFlags := 0, nameIndex := 68, descriptorIndex := 38, attributes := #[] }] 48 2 #[] #[{ accessFlags := 18, nameIndex := 11, descriptorIndex := 12, attributes := #[] }, { accessFlags := 18, nameIndex := 15, descriptorIndex := 16, attributes := #[] }, { accessFlags := 18, nameIndex := 19, descriptorIndex := 20, attributes := #[] }])
  fields := #[{ name := "kind", type := (.object "com/example/naysay/naysay/rules/Token$Kind"), accessFlags := 18, slot := 0, constantValue := 0 }, { name := "text", type := (.object "java/lang/String"), accessFlags := 18, slot := 1, constantValue := 0 }, { name := "column", type := .int, accessFlags := 18, slot := 2, constantValue := 0 }]
  methods := #[k12m0, k12m1]
  instanceTypes := #[(.object "com/example/naysay/naysay/rules/Token$Kind"), (.object "java/lang/String"), .int]
  staticTypes := #[]
  resolved := Array.replicate 107 none
  statics := none }

def pool13 : Array CpInfo := pool [(4, .class_ 6), (1, u "java/lang/Object"), (0, u "<init>"), (0, u "()V"), (5, .class_ 16), (1, u "java/lang/StringLatin1"), (104, u "$assertionsDisabled"), (0, u "Z"), (98, .class_ 223), (1, u "java/lang/StringLatin1$LinesSpliterator"), (57, u "equals"), (0, u "([B[B)Z"), (107, .class_ 391), (0, u "java/lang/StringLatin1$CharsSpliterator")] 3

def k13m0 : Method := { name := "<init>", desc := "()V", sig := { parameters := [], returnType := none }, accessFlags := 0, code := none }
def k13c1 : Code := { maxStack := 3, maxLocals := 3, code := jdk_43_method_13_code, exceptionTable := #[], attributes := #[] }
def k13m1 : Method := { name := "equals", desc := "([B[B)Z", sig := { parameters := [(.array .byte), (.array .byte)], returnType := some .boolean }, accessFlags := 9, code := some k13c1 }
/-- java/lang/StringLatin1 -/
def k13 : Class := { plain "java/lang/StringLatin1" (some 0) with
  accessFlags := 48
  interfaces := #[]
  cf := some (fileOf pool13 14 #[.nestMembers #[390, 221]] #[{ accessFlags := 0, nameIndex := 7, descriptorIndex := 8, attributes := #[] }, { accessFlags := 9, nameIndex := 281, descriptorIndex := 282, attributes := #[] }] 48 4 #[] #[{ accessFlags := 4120, nameIndex := 121, descriptorIndex := 122, attributes := #[] }])
  fields := #[{ name := "$assertionsDisabled", type := .boolean, accessFlags := 4120, slot := 0, constantValue := 0 }]
  methods := #[k13m0, k13m1]
  instanceTypes := #[]
  staticTypes := #[.boolean]
  resolved := Array.replicate 395 none
  statics := none }

def pool14 : Array CpInfo := pool [(2, .class_ 4), (1, u "java/lang/Object"), (0, u "<init>"), (0, u "()V"), (17, .class_ 26), (1, u "jdk/internal/util/Preconditions"), (28, .class_ 56), (0, u "jdk/internal/util/Preconditions$4"), (57, .class_ 115), (0, u "jdk/internal/util/Preconditions$1"), (7, u "SIOOBE_FORMATTER"), (0, u "Ljava/util/function/BiFunction;"), (0, .class_ 126), (0, u "jdk/internal/util/Preconditions$2"), (3, u "AIOOBE_FORMATTER"), (0, .class_ 132), (0, u "jdk/internal/util/Preconditions$3"), (3, u "IOOBE_FORMATTER")] 57

def k14m0 : Method := { name := "<init>", desc := "()V", sig := { parameters := [], returnType := none }, accessFlags := 1, code := none }
/-- jdk/internal/util/Preconditions -/
def k14 : Class := { plain "jdk/internal/util/Preconditions" (some 0) with
  accessFlags := 33
  interfaces := #[]
  cf := some (fileOf pool14 24 #[.nestMembers #[55, 131, 125, 114]] #[{ accessFlags := 1, nameIndex := 5, descriptorIndex := 6, attributes := #[] }] 33 2 #[] #[{ accessFlags := 25, nameIndex := 123, descriptorIndex := 124, attributes := #[] }, { accessFlags := 25, nameIndex := 130, descriptorIndex := 124, attributes := #[] }, { accessFlags := 25, nameIndex := 136, descriptorIndex := 124, attributes := #[] }])
  fields := #[{ name := "SIOOBE_FORMATTER", type := (.object "java/util/function/BiFunction"), accessFlags := 25, slot := 0, constantValue := 0 }, { name := "AIOOBE_FORMATTER", type := (.object "java/util/function/BiFunction"), accessFlags := 25, slot := 1, constantValue := 0 }, { name := "IOOBE_FORMATTER", type := (.object "java/util/function/BiFunction"), accessFlags := 25, slot := 2, constantValue := 0 }]
  methods := #[k14m0]
  instanceTypes := #[]
  staticTypes := #[(.object "java/util/function/BiFunction"), (.object "java/util/function/BiFunction"), (.object "java/util/function/BiFunction")]
  resolved := Array.replicate 194 none
  statics := some 2 }

def pool15 : Array CpInfo := pool [(9, u "<init>"), (6, .class_ 18), (1, u "java/lang/Object"), (0, u "()V"), (1, .class_ 23), (1, u "jdk/internal/util/ArraysSupport"), (0, u "LOG2_ARRAY_LONG_INDEX_SCALE"), (0, u "I"), (2, u "U"), (0, u "Ljdk/internal/misc/Unsafe;"), (8, u "BIG_ENDIAN"), (0, u "Z"), (8, u "LOG2_BYTE_BIT_SIZE"), (4, u "LOG2_ARRAY_INT_INDEX_SCALE"), (54, u "JLA"), (0, u "Ljdk/internal/access/JavaLangAccess;"), (11, u "LOG2_ARRAY_BOOLEAN_INDEX_SCALE"), (9, u "LOG2_ARRAY_BYTE_INDEX_SCALE"), (5, u "LOG2_ARRAY_CHAR_INDEX_SCALE"), (5, u "LOG2_ARRAY_SHORT_INDEX_SCALE"), (18, u "LOG2_ARRAY_FLOAT_INDEX_SCALE"), (24, u "LOG2_ARRAY_DOUBLE_INDEX_SCALE"), (89, u "T_BOOLEAN"), (2, u "T_CHAR"), (1, u "T_FLOAT"), (1, u "T_DOUBLE"), (1, u "T_BYTE"), (1, u "T_SHORT"), (1, u "T_INT"), (1, u "T_LONG"), (1, u "SOFT_MAX_ARRAY_LENGTH")] 83

def k15m0 : Method := { name := "<init>", desc := "()V", sig := { parameters := [], returnType := none }, accessFlags := 2, code := none }
/-- jdk/internal/util/ArraysSupport -/
def k15 : Class := { plain "jdk/internal/util/ArraysSupport" (some 0) with
  accessFlags := 33
  interfaces := #[]
  cf := some (fileOf pool15 21 #[] #[{ accessFlags := 2, nameIndex := 9, descriptorIndex := 19, attributes := #[] }] 33 16 #[] #[{ accessFlags := 24, nameIndex := 28, descriptorIndex := 29, attributes := #[] }, { accessFlags := 26, nameIndex := 38, descriptorIndex := 39, attributes := #[] }, { accessFlags := 25, nameIndex := 121, descriptorIndex := 25, attributes := #[] }, { accessFlags := 25, nameIndex := 131, descriptorIndex := 25, attributes := #[] }, { accessFlags := 25, nameIndex := 137, descriptorIndex := 25, attributes := #[] }, { accessFlags := 25, nameIndex := 143, descriptorIndex := 25, attributes := #[] }, { accessFlags := 25, nameIndex := 53, descriptorIndex := 25, attributes := #[] }, { accessFlags := 25, nameIndex := 24, descriptorIndex := 25, attributes := #[] }, { accessFlags := 25, nameIndex := 162, descriptorIndex := 25, attributes := #[] }, { accessFlags := 25, nameIndex := 187, descriptorIndex := 25, attributes := #[] }, { accessFlags := 26, nameIndex := 48, descriptorIndex := 25, attributes := #[] }, { accessFlags := 25, nameIndex := 277, descriptorIndex := 25, attributes := #[] }, { accessFlags := 25, nameIndex := 280, descriptorIndex := 25, attributes := #[] }, { accessFlags := 25, nameIndex := 282, descriptorIndex := 25, attributes := #[] }, { accessFlags := 25, nameIndex := 284, descriptorIndex := 25, attributes := #[] }, { accessFlags := 25, nameIndex := 286, descriptorIndex := 25, attributes := #[] }, { accessFlags := 25, nameIndex := 288, descriptorIndex := 25, attributes := #[] }, { accessFlags := 25, nameIndex := 290, descriptorIndex := 25, attributes := #[] }, { accessFlags := 25, nameIndex := 292, descriptorIndex := 25, attributes := #[] }, { accessFlags := 26, nameIndex := 108, descriptorIndex := 109, attributes := #[] }, { accessFlags := 25, nameIndex := 294, descriptorIndex := 25, attributes := #[] }])
  fields := #[{ name := "U", type := (.object "jdk/internal/misc/Unsafe"), accessFlags := 24, slot := 0, constantValue := 0 }, { name := "BIG_ENDIAN", type := .boolean, accessFlags := 26, slot := 1, constantValue := 0 }, { name := "LOG2_ARRAY_BOOLEAN_INDEX_SCALE", type := .int, accessFlags := 25, slot := 2, constantValue := 0 }, { name := "LOG2_ARRAY_BYTE_INDEX_SCALE", type := .int, accessFlags := 25, slot := 3, constantValue := 0 }, { name := "LOG2_ARRAY_CHAR_INDEX_SCALE", type := .int, accessFlags := 25, slot := 4, constantValue := 0 }, { name := "LOG2_ARRAY_SHORT_INDEX_SCALE", type := .int, accessFlags := 25, slot := 5, constantValue := 0 }, { name := "LOG2_ARRAY_INT_INDEX_SCALE", type := .int, accessFlags := 25, slot := 6, constantValue := 0 }, { name := "LOG2_ARRAY_LONG_INDEX_SCALE", type := .int, accessFlags := 25, slot := 7, constantValue := 0 }, { name := "LOG2_ARRAY_FLOAT_INDEX_SCALE", type := .int, accessFlags := 25, slot := 8, constantValue := 0 }, { name := "LOG2_ARRAY_DOUBLE_INDEX_SCALE", type := .int, accessFlags := 25, slot := 9, constantValue := 0 }, { name := "LOG2_BYTE_BIT_SIZE", type := .int, accessFlags := 26, slot := 10, constantValue := 0 }, { name := "T_BOOLEAN", type := .int, accessFlags := 25, slot := 11, constantValue := 0 }, { name := "T_CHAR", type := .int, accessFlags := 25, slot := 12, constantValue := 0 }, { name := "T_FLOAT", type := .int, accessFlags := 25, slot := 13, constantValue := 0 }, { name := "T_DOUBLE", type := .int, accessFlags := 25, slot := 14, constantValue := 0 }, { name := "T_BYTE", type := .int, accessFlags := 25, slot := 15, constantValue := 0 }, { name := "T_SHORT", type := .int, accessFlags := 25, slot := 16, constantValue := 0 }, { name := "T_INT", type := .int, accessFlags := 25, slot := 17, constantValue := 0 }, { name := "T_LONG", type := .int, accessFlags := 25, slot := 18, constantValue := 0 }, { name := "JLA", type := (.object "jdk/internal/access/JavaLangAccess"), accessFlags := 26, slot := 19, constantValue := 0 }, { name := "SOFT_MAX_ARRAY_LENGTH", type := .int, accessFlags := 25, slot := 20, constantValue := 0 }]
  methods := #[k15m0]
  instanceTypes := #[]
  staticTypes := #[(.object "jdk/internal/misc/Unsafe"), .boolean, .int, .int, .int, .int, .int, .int, .int, .int, .int, .int, .int, .int, .int, .int, .int, .int, .int, (.object "jdk/internal/access/JavaLangAccess"), .int]
  resolved := Array.replicate 378 none
  statics := none }

def pool16 : Array CpInfo := pool [(1, u "java/lang/Cloneable"), (0, .class_ 1), (0, u "java/lang/Object"), (0, .class_ 3)] 3

/-- java/lang/Cloneable -/
def k16 : Class := { plain "java/lang/Cloneable" (some 0) with
  accessFlags := 1537
  interfaces := #[]
  cf := some (fileOf pool16 2 #[] #[] 1537 4 #[] #[])
  fields := #[]
  methods := #[]
  instanceTypes := #[]
  staticTypes := #[]
  resolved := Array.replicate 8 none
  statics := none }

/-- the primitive byte -/
def k17 : Class := { plain "byte" none with kind := .primitive 'B', accessFlags := 0x411 }
/-- [B -/
def k18 : Class := { plain "[B" (some 0) with kind := .array 17 .byte, interfaces := #[16, 4], accessFlags := 1041 }

/-- the primitive char -/
def k19 : Class := { plain "char" none with kind := .primitive 'C', accessFlags := 0x411 }
/-- [C -/
def k20 : Class := { plain "[C" (some 0) with kind := .array 19 .char, interfaces := #[16, 4], accessFlags := 1041 }

/-- the primitive int -/
def k21 : Class := { plain "int" none with kind := .primitive 'I', accessFlags := 0x411 }
/-- [I -/
def k22 : Class := { plain "[I" (some 0) with kind := .array 21 .int, interfaces := #[16, 4], accessFlags := 1041 }

def heap : Heap := #[{ cls := 6, slots := #[.ref 3, .ref 7, .ref 5, .ref 4, .ref 6, .null], vm := .statics 6 },
  { cls := 9, slots := #[.long 0, .int 1, .null, .int 0, .null, .int 0, .int 0], vm := .statics 9 },
  { cls := 14, slots := #[.null, .null, .null], vm := .statics 14 },
  { cls := 6, slots := #[.null, .int 0, .int 0], vm := .none },
  { cls := 6, slots := #[.null, .int 3, .int 0], vm := .none },
  { cls := 6, slots := #[.null, .int 2, .int 0], vm := .none },
  { cls := 6, slots := #[.null, .int 4, .int 0], vm := .none },
  { cls := 6, slots := #[.null, .int 1, .int 0], vm := .none }]
def classes : Array Class := #[k0, k1, k2, k3, k4, k5, k6, k7, k8, k9, k10, k11, k12, k13, k14, k15, k16, k17, k18, k19, k20, k21, k22]
def interned : List (Array UInt16 × Addr) := []
def slotsUsed : Nat := 31
def theMethod : MethodId := ⟨1, 3⟩
def args0 : Array Value := #[.int 1, .int 2, .int 3, .int 4]
def aboutOver (below : List Frame) : State where
  vm := { classes := classes, interned := interned.toArray }
  heap := heap
  slotsUsed := slotsUsed
  threads := #[{ frames := .invoking theMethod args0 :: below }]
def below0 : List Frame := [.native { method := ⟨0, 0⟩, args := #[] }]
def about1 : State := aboutOver below0
def p0 : Program := .bare "" "" ""
def e0 : Env := launch0.env 0 0 0
theorem w_frames : about1.frames = Frame.invoking theMethod args0 :: below0 := rfl
set_option maxRecDepth 65536 in
theorem w_args : argsFit about1.vm theMethod args0 = true := by decide +kernel
set_option maxRecDepth 65536 in
theorem w_heap : heapFits about1 = true := by decide +kernel
set_option maxRecDepth 65536 in
theorem w_runnable : about1.curStatus? = some .runnable := by decide +kernel
set_option maxRecDepth 65536 in
theorem w_alone : about1.alone = true := by decide +kernel
set_option maxRecDepth 65536 in
theorem w_named : about1.methodNamed? x = some theMethod := by decide +kernel
set_option maxRecDepth 65536 in
theorem w_hears : about1.hears theMethod below0 = true := by decide +kernel
set_option maxRecDepth 65536 in
theorem w_ripe : about1.ripe theMethod args0 below0 = true := by decide +kernel
theorem w_running : about1.status = .running := rfl
set_option maxRecDepth 65536 in
theorem w_room : about1.hasRoom e0.platform room_1 = true :=
  launch0.hasRoom_least _ room_1 (by decide +kernel) (by decide +kernel) (by decide +kernel) (by decide +kernel) (by decide +kernel) (by decide +kernel)
theorem allAtoms_all (ts : List Jvm.Cond) (a : Array Jvm.Value) (st : Jvm.State) : (allAtoms ts).before a st = ts.all (fun c => c.before a st) := by
  induction ts with
  | nil => rfl
  | cons c t ih =>
    show (Jvm.Cond.and c (allAtoms t)).before a st = _
    rw [Jvm.Cond.before_and, ih, List.all_cons]
def words1 : List Jvm.Cond := Jvm.Cond.code x code maxLocals ret :: tables_1
/-- a 'code' word, met by the world's own term for the bytes: nothing is compared byte by byte -/
theorem code_word {y : MethodName} {bytes : ByteArray} {mx : Nat} {rt : Option FieldType} {a : Array Value} {s : State} {m : MethodId} {meth : Method} {c : Code} (h1 : s.methodNamed? y = some m) (h2 : s.vm.method? m = some meth) (h3 : meth.code = some c) (h4 : c.code = bytes)
    (h5 : (c.maxLocals == mx && c.exceptionTable.isEmpty && decide (c.maxStack ≤ mostOperands) && decide (meth.sig.returnType = rt) && !meth.locks && decide (parseMethodDescriptor y.desc = some meth.sig)) = true) : (Jvm.Cond.code y bytes mx rt).before a s = true := by
  simp only [Bool.and_eq_true, beq_iff_eq, Bool.not_eq_true', decide_eq_true_eq] at h5
  obtain ⟨⟨⟨⟨⟨g1, g2⟩, g3⟩, g4⟩, g5⟩, g6⟩ := h5
  simp [Cond.before, Cond.holds, Cond.value, h1, h2, h3, h4, g1, g2, g3, g4, g5, g6]
def isCode : Jvm.Cond → Bool
  | .code _ _ _ _ => true
  | _ => false
theorem all_split {L : List Jvm.Cond} {P : Jvm.Cond → Bool} (h1 : L.all (fun c => isCode c || P c) = true) (h2 : ∀ c ∈ L.filter isCode, P c = true) : L.all P = true := by
  refine List.all_eq_true.mpr fun c hc => ?_
  have h := List.all_eq_true.mp h1 c hc
  rcases Bool.eq_false_or_eq_true (isCode c) with hi | hi
  · exact h2 c (List.mem_filter.mpr ⟨hc, hi⟩)
  · simpa [hi] using h
set_option maxRecDepth 65536 in
theorem w_c0 : (Jvm.Cond.code x code maxLocals ret).before args0 about1 = true := code_word (m := ⟨1, 3⟩) (meth := k1m3) (c := k1c3) (by decide +kernel) rfl rfl rfl (by decide +kernel)
set_option maxRecDepth 65536 in
theorem w_c1 : (Jvm.Cond.code ({ cls := "com/example/naysay/naysay/rules/TokenIsSymbolPinLaw", name := "kindOf", desc := "(I)Lcom/example/naysay/naysay/rules/Token$Kind;" } : Jvm.MethodName) method_3_code (2 : Nat) (Option.some (Jvm.ClassFile.FieldType.object "com/example/naysay/naysay/rules/Token$Kind"))).before args0 about1 = true := code_word (m := ⟨1, 2⟩) (meth := k1m2) (c := k1c2) (by decide +kernel) rfl rfl rfl (by decide +kernel)
set_option maxRecDepth 65536 in
theorem w_c2 : (Jvm.Cond.code ({ cls := "com/example/naysay/naysay/rules/TokenIsSymbolPinLaw", name := "mk", desc := "(ICC)Ljava/lang/String;" } : Jvm.MethodName) method_2_code (4 : Nat) (Option.some (Jvm.ClassFile.FieldType.object "java/lang/String"))).before args0 about1 = true := code_word (m := ⟨1, 1⟩) (meth := k1m1) (c := k1c1) (by decide +kernel) rfl rfl rfl (by decide +kernel)
set_option maxRecDepth 65536 in
theorem w_c3 : (Jvm.Cond.code ({ cls := "java/lang/String", name := "<init>", desc := "([C)V" } : Jvm.MethodName) jdk_42_method_3_code (2 : Nat) (Option.none : Option Jvm.ClassFile.FieldType)).before args0 about1 = true := code_word (m := ⟨9, 1⟩) (meth := k9m1) (c := k9c1) (by decide +kernel) rfl rfl rfl (by decide +kernel)
set_option maxRecDepth 65536 in
theorem w_c4 : (Jvm.Cond.code ({ cls := "java/lang/String", name := "<init>", desc := "([CIILjava/lang/Void;)V" } : Jvm.MethodName) jdk_42_method_149_code (6 : Nat) (Option.none : Option Jvm.ClassFile.FieldType)).before args0 about1 = true := code_word (m := ⟨9, 3⟩) (meth := k9m3) (c := k9c3) (by decide +kernel) rfl rfl rfl (by decide +kernel)
set_option maxRecDepth 65536 in
theorem w_c5 : (Jvm.Cond.code ({ cls := "java/lang/Object", name := "<init>", desc := "()V" } : Jvm.MethodName) object_method_1_code (1 : Nat) (Option.none : Option Jvm.ClassFile.FieldType)).before args0 about1 = true := code_word (m := ⟨0, 0⟩) (meth := k0m0) (c := k0c0) (by decide +kernel) rfl rfl rfl (by decide +kernel)
set_option maxRecDepth 65536 in
theorem w_c6 : (Jvm.Cond.code ({ cls := "java/lang/StringUTF16", name := "compress", desc := "([CII)[B" } : Jvm.MethodName) jdk_52_method_16_code (6 : Nat) (Option.some (Jvm.ClassFile.FieldType.array Jvm.ClassFile.FieldType.byte))).before args0 about1 = true := code_word (m := ⟨10, 2⟩) (meth := k10m2) (c := k10c2) (by decide +kernel) rfl rfl rfl (by decide +kernel)
set_option maxRecDepth 65536 in
theorem w_c7 : (Jvm.Cond.code ({ cls := "java/lang/StringUTF16", name := "compress", desc := "([CI[BII)I" } : Jvm.MethodName) jdk_52_method_21_code (7 : Nat) (Option.some Jvm.ClassFile.FieldType.int)).before args0 about1 = true := code_word (m := ⟨10, 3⟩) (meth := k10m3) (c := k10c3) (by decide +kernel) rfl rfl rfl (by decide +kernel)
set_option maxRecDepth 65536 in
theorem w_c8 : (Jvm.Cond.code ({ cls := "java/lang/StringUTF16", name := "coderFromArrayLen", desc := "([BI)B" } : Jvm.MethodName) jdk_52_method_15_code (2 : Nat) (Option.some Jvm.ClassFile.FieldType.byte)).before args0 about1 = true := code_word (m := ⟨10, 1⟩) (meth := k10m1) (c := k10c1) (by decide +kernel) rfl rfl rfl (by decide +kernel)
set_option maxRecDepth 65536 in
theorem w_c9 : (Jvm.Cond.code ({ cls := "com/example/naysay/naysay/rules/Token", name := "<init>", desc := "(Lcom/example/naysay/naysay/rules/Token$Kind;Ljava/lang/String;I)V" } : Jvm.MethodName) prog_33_method_1_code (4 : Nat) (Option.none : Option Jvm.ClassFile.FieldType)).before args0 about1 = true := code_word (m := ⟨12, 0⟩) (meth := k12m0) (c := k12c0) (by decide +kernel) rfl rfl rfl (by decide +kernel)
set_option maxRecDepth 65536 in
theorem w_c10 : (Jvm.Cond.code ({ cls := "java/lang/Record", name := "<init>", desc := "()V" } : Jvm.MethodName) jdk_30_method_1_code (1 : Nat) (Option.none : Option Jvm.ClassFile.FieldType)).before args0 about1 = true := code_word (m := ⟨11, 0⟩) (meth := k11m0) (c := k11c0) (by decide +kernel) rfl rfl rfl (by decide +kernel)
set_option maxRecDepth 65536 in
theorem w_c11 : (Jvm.Cond.code ({ cls := "com/example/naysay/naysay/rules/Token", name := "isSymbol", desc := "(Ljava/lang/String;)Z" } : Jvm.MethodName) prog_33_method_2_code (2 : Nat) (Option.some Jvm.ClassFile.FieldType.boolean)).before args0 about1 = true := code_word (m := ⟨12, 1⟩) (meth := k12m1) (c := k12c1) (by decide +kernel) rfl rfl rfl (by decide +kernel)
set_option maxRecDepth 65536 in
theorem w_c12 : (Jvm.Cond.code ({ cls := "java/lang/String", name := "equals", desc := "(Ljava/lang/Object;)Z" } : Jvm.MethodName) jdk_42_method_66_code (3 : Nat) (Option.some Jvm.ClassFile.FieldType.boolean)).before args0 about1 = true := code_word (m := ⟨9, 2⟩) (meth := k9m2) (c := k9c2) (by decide +kernel) rfl rfl rfl (by decide +kernel)
set_option maxRecDepth 65536 in
theorem w_c13 : (Jvm.Cond.code ({ cls := "java/lang/StringLatin1", name := "equals", desc := "([B[B)Z" } : Jvm.MethodName) jdk_43_method_13_code (3 : Nat) (Option.some Jvm.ClassFile.FieldType.boolean)).before args0 about1 = true := code_word (m := ⟨13, 1⟩) (meth := k13m1) (c := k13c1) (by decide +kernel) rfl rfl rfl (by decide +kernel)
def codes1 : List Jvm.Cond := [Jvm.Cond.code x code maxLocals ret, Jvm.Cond.code ({ cls := "com/example/naysay/naysay/rules/TokenIsSymbolPinLaw", name := "kindOf", desc := "(I)Lcom/example/naysay/naysay/rules/Token$Kind;" } : Jvm.MethodName) method_3_code (2 : Nat) (Option.some (Jvm.ClassFile.FieldType.object "com/example/naysay/naysay/rules/Token$Kind")), Jvm.Cond.code ({ cls := "com/example/naysay/naysay/rules/TokenIsSymbolPinLaw", name := "mk", desc := "(ICC)Ljava/lang/String;" } : Jvm.MethodName) method_2_code (4 : Nat) (Option.some (Jvm.ClassFile.FieldType.object "java/lang/String")), Jvm.Cond.code ({ cls := "java/lang/String", name := "<init>", desc := "([C)V" } : Jvm.MethodName) jdk_42_method_3_code (2 : Nat) (Option.none : Option Jvm.ClassFile.FieldType), Jvm.Cond.code ({ cls := "java/lang/String", name := "<init>", desc := "([CIILjava/lang/Void;)V" } : Jvm.MethodName) jdk_42_method_149_code (6 : Nat) (Option.none : Option Jvm.ClassFile.FieldType), Jvm.Cond.code ({ cls := "java/lang/Object", name := "<init>", desc := "()V" } : Jvm.MethodName) object_method_1_code (1 : Nat) (Option.none : Option Jvm.ClassFile.FieldType), Jvm.Cond.code ({ cls := "java/lang/StringUTF16", name := "compress", desc := "([CII)[B" } : Jvm.MethodName) jdk_52_method_16_code (6 : Nat) (Option.some (Jvm.ClassFile.FieldType.array Jvm.ClassFile.FieldType.byte)), Jvm.Cond.code ({ cls := "java/lang/StringUTF16", name := "compress", desc := "([CI[BII)I" } : Jvm.MethodName) jdk_52_method_21_code (7 : Nat) (Option.some Jvm.ClassFile.FieldType.int), Jvm.Cond.code ({ cls := "java/lang/StringUTF16", name := "coderFromArrayLen", desc := "([BI)B" } : Jvm.MethodName) jdk_52_method_15_code (2 : Nat) (Option.some Jvm.ClassFile.FieldType.byte), Jvm.Cond.code ({ cls := "com/example/naysay/naysay/rules/Token", name := "<init>", desc := "(Lcom/example/naysay/naysay/rules/Token$Kind;Ljava/lang/String;I)V" } : Jvm.MethodName) prog_33_method_1_code (4 : Nat) (Option.none : Option Jvm.ClassFile.FieldType), Jvm.Cond.code ({ cls := "java/lang/Record", name := "<init>", desc := "()V" } : Jvm.MethodName) jdk_30_method_1_code (1 : Nat) (Option.none : Option Jvm.ClassFile.FieldType), Jvm.Cond.code ({ cls := "com/example/naysay/naysay/rules/Token", name := "isSymbol", desc := "(Ljava/lang/String;)Z" } : Jvm.MethodName) prog_33_method_2_code (2 : Nat) (Option.some Jvm.ClassFile.FieldType.boolean), Jvm.Cond.code ({ cls := "java/lang/String", name := "equals", desc := "(Ljava/lang/Object;)Z" } : Jvm.MethodName) jdk_42_method_66_code (3 : Nat) (Option.some Jvm.ClassFile.FieldType.boolean), Jvm.Cond.code ({ cls := "java/lang/StringLatin1", name := "equals", desc := "([B[B)Z" } : Jvm.MethodName) jdk_43_method_13_code (3 : Nat) (Option.some Jvm.ClassFile.FieldType.boolean)]
set_option maxRecDepth 65536 in
theorem codes_eq : words1.filter isCode = codes1 := rfl
theorem w_codes : ∀ c ∈ words1.filter isCode, c.before args0 about1 = true := by
  rw [codes_eq]
  intro c hc
  simp only [codes1, List.mem_cons, List.not_mem_nil, or_false] at hc
  rcases hc with rfl | rfl | rfl | rfl | rfl | rfl | rfl | rfl | rfl | rfl | rfl | rfl | rfl | rfl
  · exact w_c0
  · exact w_c1
  · exact w_c2
  · exact w_c3
  · exact w_c4
  · exact w_c5
  · exact w_c6
  · exact w_c7
  · exact w_c8
  · exact w_c9
  · exact w_c10
  · exact w_c11
  · exact w_c12
  · exact w_c13
set_option maxRecDepth 65536 in
theorem w_t1 : (words1.take 24).all (fun c => isCode c || c.before args0 about1) = true := by decide +kernel
set_option maxRecDepth 65536 in
theorem w_t2 : ((words1.drop 24).take 24).all (fun c => isCode c || c.before args0 about1) = true := by decide +kernel
set_option maxRecDepth 65536 in
theorem w_t3 : (((words1.drop 24).drop 24).take 24).all (fun c => isCode c || c.before args0 about1) = true := by decide +kernel
set_option maxRecDepth 65536 in
theorem w_t4 : (((words1.drop 24).drop 24).drop 24).all (fun c => isCode c || c.before args0 about1) = true := by decide +kernel
theorem w_tables : (allAtoms (Jvm.Cond.code x code maxLocals ret :: tables_1)).before args0 about1 = true := by
  rw [allAtoms_all]
  show words1.all (fun c => c.before args0 about1) = true
  refine all_split ?_ w_codes
  rw [← List.take_append_drop 24 words1, List.all_append, w_t1, ← List.take_append_drop 24 (words1.drop 24), List.all_append, w_t2, ← List.take_append_drop 24 ((words1.drop 24).drop 24), List.all_append, w_t3, w_t4]
  rfl
set_option maxRecDepth 65536 in
theorem w_rest : rest_1_c.before args0 about1 = true := by decide +kernel
set_option maxRecDepth 65536 in
theorem w_case : (Jvm.Cond.and given_1 narrow_1).before args0 about1 = true := by decide +kernel
set_option maxRecDepth 65536 in
theorem w_consts : constsHeld consts_1 about1 := Jvm.Lit.constsHeldB_iff.mp (by decide +kernel)
theorem w_applies : (headSpec (Jvm.Cond.code x code maxLocals ret :: tables_1) room_1).applies x e0.platform about1 = true :=
  (Spec.applies_iff w_frames).mpr ⟨w_running, w_runnable, w_alone, w_named, w_hears, w_ripe, w_room, w_tables⟩
theorem atStart : AtStart classFile x code maxLocals ret World_1 tables_1 room_1 Calls_1 rest_1 Pre_1 launch0 p0 e0 about1 theMethod args0 below0 :=
  ⟨lists_1, trivial, launch0.admits_env _ _ _, launch0.least_env, fairChoices_fair.cas, fairChoices_fair.clock, w_frames, w_args, w_heap, w_applies, ⟨w_consts, trivial⟩, w_rest, w_case⟩
end start1
theorem witness_1 : WitnessClaimed_1 := ⟨start1.p0, start1.e0, start1.about1, start1.theMethod, start1.args0, start1.below0, start1.atStart⟩
end Jvm.Pilot.@@N@@
