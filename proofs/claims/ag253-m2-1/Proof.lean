import JvmDerived
import JvmDerived.Pilot.@@N@@Statement
import JvmDerived.Pilot.@@N@@Code
set_option linter.unusedVariables false
set_option linter.unusedSimpArgs false
namespace Jvm.Pilot.@@N@@
open Jvm Jvm.ClassFile Sem Op Lib Jvm.Free Jvm.Stand Jvm.LawKit Jvm.RoadKit Bundle Jvm.Pilot.@@N@@.Jvm.D

/-- the run that stands at T with the top frame f ends, and its end is as P says -/
def Go (p : Program) (e : Env) (below : List Frame) (P : Outcome → State → Prop) (T : State) (f : JFrame) : Prop :=
  ∃ s₂ o, Steps p.tables e below (T.setTop f) s₂ ∧ s₂.status = .running ∧ Ended s₂ below o ∧ P o s₂
theorem Go.st {p : Program} {e : Env} {below : List Frame} {P : Outcome → State → Prop} {T T' : State} {f f' : JFrame}
    (h : ∀ t, Steps p.tables e below (T'.setTop f') t → Steps p.tables e below (T.setTop f) t) (k : Go p e below P T' f') : Go p e below P T f := by
  obtain ⟨s₂, o, a, b⟩ := k
  exact ⟨s₂, o, h _ a, b⟩
theorem Go.tr {p : Program} {e : Env} {below : List Frame} {P : Outcome → State → Prop} {T T' : State} {f f' : JFrame}
    (h : Steps p.tables e below (T.setTop f) (T'.setTop f')) (k : Go p e below P T' f') : Go p e below P T f := by
  obtain ⟨s₂, o, a, b⟩ := k
  exact ⟨s₂, o, h.trans a, b⟩
/-- what a contract says of the end -/
abbrev Done (s : State) (Q : Option Value → Heap → List Loc → Prop) (C S : Nat) (o : Outcome) (U' : State) : Prop :=
  ∃ v L, o = .returned v ∧ Q v U'.heap L ∧ FrameEnd s o U' L C S
theorem Go.ret {p : Program} {l : Launch} {e : Env} {R : Room} {s : State} {m : MethodId} {args : Array Value} {below : List Frame} {meth : Method} {c : Code} {T : State} {locs : List Loc} {cells slots : Nat} {h : Heap}
    {Q : Option Value → Heap → List Loc → Prop} {C S : Nat} {v : Option Value} {f : JFrame}
    (X : Stand p l e R s m args below meth c T locs cells slots) (hlk : meth.locks = false) (hv : meth.sig.returnType = none → v = none)
    (hs : ∀ fs, (∀ (f : JFrame) (acts : List Action), f.method = m → f.locked = none → f.entered = [] → (doReturn e (T.setTop f) acts v).1 = T.setFrames fs) → Steps p.tables e below (T.setTop f) (T.setFrames fs))
    (eT : T.heap = h) (hQ : Q v h locs) (hc : cells ≤ C) (hl : slots ≤ S) : Go p e below (Done s Q C S) T f := by
  obtain ⟨fs, hr, hrun, hended, hW, hsame⟩ := X.leave (v := v) hv hlk
  refine ⟨_, _, hs fs hr, hrun, hended, v, locs, rfl, ?_, ⟨_, rfl⟩, hW, hsame.mono hc hl⟩
  show Q v T.heap locs
  rw [eT]; exact hQ
theorem Go.retB {p : Program} {l : Launch} {e : Env} {R : Room} {s : State} {m : MethodId} {args : Array Value} {below : List Frame} {meth : Method} {c : Code} {T : State} {locs : List Loc} {cells slots : Nat} {h : Heap}
    {Q : Option Value → Heap → List Loc → Prop} {C S : Nat} {pc : Nat} {Ls : Array Slot} {z : Int32} {rest : List Value} {t : FieldType}
    (X : Stand p l e R s m args below meth c T locs cells slots) (hlk : meth.locks = false) (hx : p.tables.exec = Jvm.exec) (hret : meth.sig.returnType = some t) (ht : t = .boolean ∨ t = .byte ∨ t = .char ∨ t = .short)
    (hd : decode c.code pc = .ok (.ireturn, 1)) (eT : T.heap = h) (hQ : Q (some (.int (nar t z))) h locs) (hc : cells ≤ C) (hl : slots ≤ S) : Go p e below (Done s Q C S) T (mkF m pc Ls (.int z :: rest)) :=
  Go.ret X hlk (fun h => by rw [hret] at h; cases h) (fun _ hr => retN X hx hret ht hd hr) eT hQ hc hl
theorem Go.retV {p : Program} {l : Launch} {e : Env} {R : Room} {s : State} {m : MethodId} {args : Array Value} {below : List Frame} {meth : Method} {c : Code} {T : State} {locs : List Loc} {cells slots : Nat} {h : Heap}
    {Q : Option Value → Heap → List Loc → Prop} {C S : Nat} {pc : Nat} {Ls : Array Slot} {w : Value} {rest : List Value} {t : FieldType} {i : Instr}
    (X : Stand p l e R s m args below meth c T locs cells slots) (hlk : meth.locks = false) (hx : p.tables.exec = Jvm.exec) (hret : meth.sig.returnType = some t) (hn : narrow t w = w)
    (hi : (i = .ireturn ∧ (t = .int ∨ t = .boolean ∨ t = .byte ∨ t = .char ∨ t = .short) ∧ ∃ z, w = .int z) ∨ (i = .lreturn ∧ t = .long ∧ ∃ z, w = .long z) ∨ (i = .dreturn ∧ t = .double ∧ ∃ z, w = .double z) ∨ (i = .freturn ∧ t = .float ∧ ∃ z, w = .float z) ∨ (i = .areturn ∧ t.isReference = true ∧ w.isRef = true))
    (hd : decode c.code pc = .ok (i, 1)) (eT : T.heap = h) (hQ : Q (some w) h locs) (hc : cells ≤ C) (hl : slots ≤ S) : Go p e below (Done s Q C S) T (mkF m pc Ls (w :: rest)) :=
  Go.ret X hlk (fun h => by rw [hret] at h; cases h) (fun _ hr => retOut X hx hret hn hi hd hr) eT hQ hc hl
theorem Go.ret0 {p : Program} {l : Launch} {e : Env} {R : Room} {s : State} {m : MethodId} {args : Array Value} {below : List Frame} {meth : Method} {c : Code} {T : State} {locs : List Loc} {cells slots : Nat} {h : Heap}
    {Q : Option Value → Heap → List Loc → Prop} {C S : Nat} {pc : Nat} {Ls : Array Slot}
    (X : Stand p l e R s m args below meth c T locs cells slots) (hlk : meth.locks = false) (hx : p.tables.exec = Jvm.exec) (hret : meth.sig.returnType = none)
    (hd : decode c.code pc = .ok (.return_, 1)) (eT : T.heap = h) (hQ : Q none h locs) (hc : cells ≤ C) (hl : slots ≤ S) : Go p e below (Done s Q C S) T (mkF m pc Ls []) :=
  Go.ret X hlk (fun _ => rfl) (fun _ hr => X.returnOut hx hret hd hr) eT hQ hc hl
/-- an entry that stands resolved stays so, also where String constants are loaded -/
theorem own_fieldRef {Z : State} {vm1 : Vm} {a0 : Array Value} {own O n d : String} {index : Nat} (hW : Z.Warmed39 vm1) (w : (Cond.fieldRef own index O n d).before a0 Z = true) : (Cond.fieldRef own index O n d).before a0 (Z.setVm vm1) = true := by
  simp only [Cond.before, Cond.holds, Cond.value, State.vm_setVm, hW.alike.findClass, State.names_setVm hW.alike] at w ⊢
  cases q1 : Z.vm.findClass own with
  | none => rw [q1] at w; simp at w
  | some cO =>
    cases q2 : Z.fieldFound? O n d with
    | none => rw [q1, q2] at w; simp at w
    | some z =>
      obtain ⟨c1, k1, i1, f1⟩ := z
      obtain ⟨k2, q3, -⟩ := State.fieldFound?_setVm hW.alike q2
      rw [q1, q2] at w
      rw [q3]
      cases q4 : Z.resolvedAt? own index with
      | none => rw [q4] at w; simp at w
      | some r => rw [State.resolvedAt?_warmed39 hW q4]; rw [q4] at w; exact w
/-- getfield through an entry that stands resolved at the start (the word fieldRef) -/
theorem own_getR {p : Program} {l : Launch} {e : Env} {R : Room} {s : State} {m : MethodId} {args : Array Value} {below : List Frame} {meth : Method} {c : Code} {T : State} {locs : List Loc} {cells slots : Nat} {Z : State} {a0 : Array Value} {h : Heap}
    (X : Stand p l e R s m args below meth c T locs cells slots) (hx : p.tables.exec = Jvm.exec) (hZ : Z.Warmed39 s.vm) {own O n d : String} {index : Nat} (hown : s.vm.findClass own = some m.cls) (w : (Cond.fieldRef own index O n d).before a0 Z = true)
    (eT : T.heap = h) {a : Addr} {v : Value} (F : Fld Z h a O n d v) {g : JFrame} (hg : g.method = m) {rest : List Value} (hs : g.stack = .ref a :: rest) (hd : decode c.code g.pc = .ok (.getfield index, 3)) :
    ∃ T', Stand p l e R s m args below meth c T' locs cells slots ∧ T'.heap = h ∧ ∀ target, Steps p.tables e below (T'.setTop { g with pc := g.pc + 3, stack := v :: rest }) target → Steps p.tables e below (T.setTop g) target := by
  obtain ⟨cell, cf, k, i, f, h1, h2, h3, h4, -, -, h7⟩ := F
  have w1 : (Cond.fieldRef own index O n d).before args s = true := (own_fieldRef hZ w : (Cond.fieldRef own index O n d).before a0 (Z.setVm s.vm) = true)
  have w2 := Cond.fieldRef_warmed X.warmed w1
  obtain ⟨k1, r1, -⟩ := State.fieldFound?_setVm (s := Z) hZ.alike h2
  obtain ⟨k2, r2, -⟩ := State.fieldFound?_setVm (s := s) X.warmed.alike (show s.fieldFound? O n d = _ from r1)
  obtain ⟨c', k', i', f', q1, q2⟩ := Cond.fieldRef_spec (s := s.setVm T.vm) (cur := m.cls) (by rw [State.vm_setVm, X.warmed.alike.findClass]; exact hown) w2
  cases q1.symm.trans r2
  exact ⟨T, X, eT, fun target k => (X.getfieldR hx hg q2 h3 hs (by rw [eT]; exact h1) h4 h7 hd (Steps.refl _)).trans k⟩
/-- the form of every contract here -/
def Con (l : Launch) (Z : State) (y : MethodName) (bytes : ByteArray) (ml : Nat) (ret : Option FieldType) (ws : List Jvm.Cond) (room : Room) (A : Array Value) (h0 : Heap) (Q : Option Value → Heap → List Loc → Prop) : Prop :=
  MetFree l y (head1 (Jvm.Cond.code y bytes ml ret :: ws) room) (fun a U => a = A ∧ Z.Warmed39 U.vm ∧ U.heap = h0) (fun _ _ _ _ _ => True) (fun _ U o U' => ∃ v L, o = .returned v ∧ Q v U'.heap L ∧ FrameEnd U o U' L room.cells room.slots)
theorem own_body {l : Launch} {Z : State} {y : MethodName} {bytes : ByteArray} {ml : Nat} {ret : Option FieldType} {ws : List Jvm.Cond} {room : Room} {A : Array Value} {h0 : Heap} {Q : Option Value → Heap → List Loc → Prop} (hpn : plainFor y = true)
    (body : ∀ (p : Program) (e : Env) (s : State) (m : MethodId) (below : List Frame) (meth : Method) (c : Code) (s₁ : State), p.tables.exec = Jvm.exec → c.code = bytes → c.maxLocals = ml → Z.Warmed39 s.vm → s.vm.findClass y.cls = some m.cls → meth.name = y.name → meth.locks = false → meth.sig.returnType = ret →
      Stand p l e room s m A below meth c s₁ [] 0 0 → s₁.heap = h0 → Go p e below (Done s Q room.cells room.slots) s₁ (entryFrame m A ml)) : Con l Z y bytes ml ret ws room A h0 Q := by
  refine MetFree.of_bodySF hpn hisR ?_
  intro p e s m args below meth c s₁ Bd hml0 hP hK
  obtain ⟨rfl, hZ, hh⟩ := hP
  exact body p e s m below meth c s₁ Bd.exec Bd.bytes hml0 hZ (findClass_of_methodNamed Bd.named) (name_of_methodNamed Bd.named Bd.method).1 Bd.notSynchronized Bd.returns (Stand.of_body Bd) (by rw [← hh, Bd.state]; rfl)
theorem own_back {l : Launch} {R : Room} {p : Program} {e : Env} {below : List Frame} {s Z : State} {args a0 : Array Value} {h : Heap} {y : MethodName} {bytes : ByteArray} {maxL : Nat} {ret : Option FieldType} {rm : Room} {len W : Nat} {as' : Array Value} {Q : Option Value → Heap → List Loc → Prop}
    (hM : Con l Z y bytes maxL ret [] rm as' h Q) (hZ : Z.Warmed39 s.vm) (wc : (Cond.code y bytes maxL ret).before a0 Z = true) (wz : (Cond.initialized y.cls).before a0 Z = true) (hf : rm.frames + 1 ≤ R.frames) (hl : W + (maxL + 11) + rm.locals ≤ R.locals) :
    Back l R p e below s args y len W (fun A a => a = as' ∧ A.U.heap = h ∧ A.cells + rm.cells ≤ R.cells ∧ A.slots + rm.slots ≤ R.slots)
      (fun A _ v B => ∃ L, Q v B.U.heap L ∧ B.locs = A.locs ++ L ∧ B.cells = A.cells + rm.cells ∧ B.slots = A.slots + rm.slots) := backOf (Q := Q) hM hZ wc wz hf hl
theorem Con.weaken {l : Launch} {Z : State} {y : MethodName} {bytes : ByteArray} {ml : Nat} {ret : Option FieldType} {ws : List Jvm.Cond} {room : Room} {A : Array Value} {h0 : Heap} {Q Q' : Option Value → Heap → List Loc → Prop} (h : Con l Z y bytes ml ret ws room A h0 Q) (hq : ∀ v h L, Q v h L → Q' v h L) : Con l Z y bytes ml ret ws room A h0 Q' := fun p e h1 h2 h3 s m args below hf happ hP hK => by
  obtain ⟨n, o, a, b, c, v, L, d, e, f⟩ := h p e h1 h2 h3 s m args below hf happ hP hK
  exact ⟨n, o, a, b, c, v, L, d, hq _ _ _ e, f⟩
theorem own_cat {v : Value} (h : v.isRef = true) : v.category = 1 := by cases v <;> first | rfl | (simp [Value.isRef] at h)
theorem acYes {c : ClassFile.ACond} {x y : Value} (h : x = y) : acV c (decide (x = y)) = acV c true := by rw [decide_eq_true h]

theorem own_weaken {l : Launch} {x : MethodName} {S : Spec} {P : Array Value → State → Prop} {K : Program → Env → List Frame → State → Array Value → Prop} {Q Q' : Array Value → State → Outcome → State → Prop} (h : MetFree l x S P K Q) (hq : ∀ a s o t, Q a s o t → Q' a s o t) : MetFree l x S P K Q' := fun p e h1 h2 h3 s m args below hf happ hP hK => by
  obtain ⟨n, o, a, b, c, d⟩ := h p e h1 h2 h3 s m args below hf happ hP hK
  exact ⟨n, o, a, b, c, hq _ _ _ _ d⟩
section Start
variable {args : Array Value} {first s : State} {o : Option Outcome} {idx : List Nat} {t u : Term}
theorem own_eq_int {k : Int32} (h : (Jvm.Cond.eq t (.int k)).value args first o s idx = some true) : t.eval args first o idx s = some (.int k) := by
  simp only [Cond.value, Term.eval] at h
  cases ht : t.eval args first o idx s with
  | none => simp [ht] at h
  | some x => cases x <;> simp [ht] at h ⊢ <;> exact h
theorem own_eq_ref {a : Addr} (h : (Jvm.Cond.eq t u).value args first o s idx = some true) (hu : u.eval args first o idx s = some (.ref a)) : t.eval args first o idx s = some (.ref a) := by
  simp only [Cond.value] at h
  rw [hu] at h
  cases ht : t.eval args first o idx s with
  | none => simp [ht] at h
  | some x => cases x <;> simp [ht] at h ⊢ <;> exact h
theorem own_len {a : Addr} {cl : Cell} {z : Int32} (h : (Term.length t).eval args first o idx s = some (.int z)) (ht : t.eval args first o idx s = some (.ref a)) (hc : s.heap[a]? = some cl) : cl.slots.size < 2 ^ 31 ∧ cl.slots.size.toInt32 = z := by
  obtain ⟨a', cell, e1, e2, e3⟩ := Term.length_spec h
  cases ht.symm.trans e1
  have e4 := (State.arrayAt?_spec e2).1
  cases hc.symm.trans e4
  refine ⟨?_, (Value.int.inj e3).symm⟩
  by_cases hn : cl.slots.size < 2147483648
  · exact hn
  · simp only [Term.eval, Option.bind_eq_bind, ht, Option.bind_some, e2] at h
    rw [if_neg hn] at h; cases h
theorem own_ne_int {z : Int32} (h : (Jvm.Cond.not (Jvm.Cond.eq t (.int 0))).value args first o s idx = some true) (ht : t.eval args first o idx s = some (.int z)) : ¬ z = 0 := by
  have h1 := not_v h
  intro e
  subst e
  simp [Cond.value, Term.eval, ht] at h1
theorem own_fld {a : Addr} {C n d : String} {k : Int32} (h : (Jvm.Cond.eq (Term.field t C n d) (.int k)).value args s none s [] = some true) (ht : t.eval args s none [] s = some (.ref a)) : Fld s s.heap a C n d (.int k) :=
  Fld.start (by rw [← fld_at ht]; exact own_eq_int h)
theorem own_elem {a : Addr} {cl : Cell} {w : Addr} {j : Int32} {i : Nat} (h : (Jvm.Cond.eq (Term.elem t (.int j)) u).value args s none s [] = some true) (hu : u.eval args s none [] s = some (.ref w)) (ht : t.eval args s none [] s = some (.ref a)) (hc : s.heap[a]? = some cl) (hj : j.toNatClampNeg = i) : cl.slots[i]? = some (.ref w) := by
  subst hj
  exact (elem_in (own_eq_ref h hu) ht rfl hc).2
end Start

/-- what a contract says of the end, where String constants may have been loaded -/
abbrev DoneW (s Z : State) (EL : List (String × Nat)) (Q : Option Value → Heap → List Loc → Prop) (C S : Nat) (o : Outcome) (U' : State) : Prop :=
  ∃ v L, o = .returned v ∧ Q v U'.heap L ∧ CHr Z EL s.vm s.heap U'.vm U'.heap ∧ ReturnedEndW s o U' L C S
theorem GoW.ret {p : Program} {l : Launch} {e : Env} {R : Room} {s Z : State} {a0 : Array Value} {EL : List (String × Nat)} {vm1 : Vm} {m : MethodId} {args : Array Value} {below : List Frame} {meth : Method} {c : Code} {T : State} {locs : List Loc} {cells slots : Nat} {h h0 : Heap} {k0 : Nat}
    {Q : Option Value → Heap → List Loc → Prop} {C S : Nat} {v : Option Value} {f : JFrame}
    (X : Stand p l e R (s.setVm vm1) m args below meth c T locs cells slots) (hlk : meth.locks = false) (hv : meth.sig.returnType = none → v = none)
    (hs : ∀ fs, (∀ (f : JFrame) (acts : List Action), f.method = m → f.locked = none → f.entered = [] → (doReturn e (T.setTop f) acts v).1 = T.setFrames fs) → Steps p.tables e below (T.setTop f) (T.setFrames fs))
    (eT : T.heap = h) (hS : s.Since vm1 k0) (hk : k0 ≤ h.size) (hZ : Z.Warmed39 vm1) (hEL : EW Z a0 EL) (cr : CHr Z EL s.vm h0 vm1 h) (hh : s.heap = h0) (hQ : Q v h locs) (hc : cells ≤ C) (hl : slots ≤ S) : Go p e below (DoneW s Z EL Q C S) T f := by
  obtain ⟨fs, hr, hrun, hended, hW⟩ := X.leaveW hS (by rw [eT]; exact hk) (v := v) hv hlk
  have cr2 := cr.trans (CHv.at X hZ hEL cr.1)
  subst eT hh
  exact ⟨_, _, hs fs hr, hrun, hended, v, locs, rfl, hQ, cr2, hW.1, hW.2.1, hW.2.2.1, hW.2.2.2.mono hc hl⟩
theorem GoW.retB {p : Program} {l : Launch} {e : Env} {R : Room} {s Z : State} {a0 : Array Value} {EL : List (String × Nat)} {vm1 : Vm} {m : MethodId} {args : Array Value} {below : List Frame} {meth : Method} {c : Code} {T : State} {locs : List Loc} {cells slots : Nat} {h h0 : Heap} {k0 : Nat}
    {Q : Option Value → Heap → List Loc → Prop} {C S : Nat} {pc : Nat} {Ls : Array Slot} {z : Int32} {rest : List Value} {t : FieldType}
    (X : Stand p l e R (s.setVm vm1) m args below meth c T locs cells slots) (hlk : meth.locks = false) (hx : p.tables.exec = Jvm.exec) (hret : meth.sig.returnType = some t) (ht : t = .boolean ∨ t = .byte ∨ t = .char ∨ t = .short)
    (hd : decode c.code pc = .ok (.ireturn, 1)) (eT : T.heap = h) (hS : s.Since vm1 k0) (hk : k0 ≤ h.size) (hZ : Z.Warmed39 vm1) (hEL : EW Z a0 EL) (cr : CHr Z EL s.vm h0 vm1 h) (hh : s.heap = h0) (hQ : Q (some (.int (nar t z))) h locs) (hc : cells ≤ C) (hl : slots ≤ S) : Go p e below (DoneW s Z EL Q C S) T (mkF m pc Ls (.int z :: rest)) :=
  GoW.ret X hlk (fun h => by rw [hret] at h; cases h) (fun _ hr => retN X hx hret ht hd hr) eT hS hk hZ hEL cr hh hQ hc hl
theorem GoW.retV {p : Program} {l : Launch} {e : Env} {R : Room} {s Z : State} {a0 : Array Value} {EL : List (String × Nat)} {vm1 : Vm} {m : MethodId} {args : Array Value} {below : List Frame} {meth : Method} {c : Code} {T : State} {locs : List Loc} {cells slots : Nat} {h h0 : Heap} {k0 : Nat}
    {Q : Option Value → Heap → List Loc → Prop} {C S : Nat} {pc : Nat} {Ls : Array Slot} {w : Value} {rest : List Value} {t : FieldType} {i : Instr}
    (X : Stand p l e R (s.setVm vm1) m args below meth c T locs cells slots) (hlk : meth.locks = false) (hx : p.tables.exec = Jvm.exec) (hret : meth.sig.returnType = some t) (hn : narrow t w = w)
    (hi : (i = .ireturn ∧ (t = .int ∨ t = .boolean ∨ t = .byte ∨ t = .char ∨ t = .short) ∧ ∃ z, w = .int z) ∨ (i = .lreturn ∧ t = .long ∧ ∃ z, w = .long z) ∨ (i = .dreturn ∧ t = .double ∧ ∃ z, w = .double z) ∨ (i = .freturn ∧ t = .float ∧ ∃ z, w = .float z) ∨ (i = .areturn ∧ t.isReference = true ∧ w.isRef = true))
    (hd : decode c.code pc = .ok (i, 1)) (eT : T.heap = h) (hS : s.Since vm1 k0) (hk : k0 ≤ h.size) (hZ : Z.Warmed39 vm1) (hEL : EW Z a0 EL) (cr : CHr Z EL s.vm h0 vm1 h) (hh : s.heap = h0) (hQ : Q (some w) h locs) (hc : cells ≤ C) (hl : slots ≤ S) : Go p e below (DoneW s Z EL Q C S) T (mkF m pc Ls (w :: rest)) :=
  GoW.ret X hlk (fun h => by rw [hret] at h; cases h) (fun _ hr => retOut X hx hret hn hi hd hr) eT hS hk hZ hEL cr hh hQ hc hl
theorem GoW.ret0 {p : Program} {l : Launch} {e : Env} {R : Room} {s Z : State} {a0 : Array Value} {EL : List (String × Nat)} {vm1 : Vm} {m : MethodId} {args : Array Value} {below : List Frame} {meth : Method} {c : Code} {T : State} {locs : List Loc} {cells slots : Nat} {h h0 : Heap} {k0 : Nat}
    {Q : Option Value → Heap → List Loc → Prop} {C S : Nat} {pc : Nat} {Ls : Array Slot}
    (X : Stand p l e R (s.setVm vm1) m args below meth c T locs cells slots) (hlk : meth.locks = false) (hx : p.tables.exec = Jvm.exec) (hret : meth.sig.returnType = none)
    (hd : decode c.code pc = .ok (.return_, 1)) (eT : T.heap = h) (hS : s.Since vm1 k0) (hk : k0 ≤ h.size) (hZ : Z.Warmed39 vm1) (hEL : EW Z a0 EL) (cr : CHr Z EL s.vm h0 vm1 h) (hh : s.heap = h0) (hQ : Q none h locs) (hc : cells ≤ C) (hl : slots ≤ S) : Go p e below (DoneW s Z EL Q C S) T (mkF m pc Ls []) :=
  GoW.ret X hlk (fun _ => rfl) (fun _ hr => X.returnOut hx hret hd hr) eT hS hk hZ hEL cr hh hQ hc hl
/-- the form of a contract of a body that may load String constants -/
def ConW (l : Launch) (Z : State) (EL : List (String × Nat)) (y : MethodName) (bytes : ByteArray) (ml : Nat) (ret : Option FieldType) (ws : List Jvm.Cond) (room : Room) (A : Array Value) (h0 : Heap) (Q : Option Value → Heap → List Loc → Prop) : Prop :=
  MetFree l y (head1 (Jvm.Cond.code y bytes ml ret :: ws) room) (fun a U => a = A ∧ Z.Warmed39 U.vm ∧ U.heap = h0 ∧ CHv Z EL U.vm h0) (fun _ _ _ _ _ => True) (fun _ U o U' => ∃ v L, o = .returned v ∧ Q v U'.heap L ∧ CHr Z EL U.vm U.heap U'.vm U'.heap ∧ ReturnedEndW U o U' L room.cells room.slots)
theorem own_bodyW {l : Launch} {Z : State} {EL : List (String × Nat)} {y : MethodName} {bytes : ByteArray} {ml : Nat} {ret : Option FieldType} {ws : List Jvm.Cond} {room : Room} {A : Array Value} {h0 : Heap} {Q : Option Value → Heap → List Loc → Prop} (hpn : plainFor y = true)
    (body : ∀ (p : Program) (e : Env) (s : State) (m : MethodId) (below : List Frame) (meth : Method) (c : Code) (s₁ : State), p.tables.exec = Jvm.exec → c.code = bytes → c.maxLocals = ml → Z.Warmed39 s.vm → s.vm.findClass y.cls = some m.cls → meth.name = y.name → meth.locks = false → meth.sig.returnType = ret →
      Stand p l e room (s.setVm s.vm) m A below meth c s₁ [] 0 0 → s₁.heap = h0 → s.heap = h0 → s.Since s.vm 0 → CHr Z EL s.vm h0 s.vm h0 → Go p e below (DoneW s Z EL Q room.cells room.slots) s₁ (entryFrame m A ml)) : ConW l Z EL y bytes ml ret ws room A h0 Q := by
  refine MetFree.of_bodySF hpn hisR ?_
  intro p e s m args below meth c s₁ Bd hml0 hP hK
  obtain ⟨rfl, hZ, hh, hC⟩ := hP
  exact body p e s m below meth c s₁ Bd.exec Bd.bytes hml0 hZ (findClass_of_methodNamed Bd.named) (name_of_methodNamed Bd.named Bd.method).1 Bd.notSynchronized Bd.returns (Stand.of_body Bd) (by rw [← hh, Bd.state]; rfl) hh ((State.WarmedH.refl s).since 0) (CHr.refl hC)
theorem own_backW {l : Launch} {R : Room} {p : Program} {e : Env} {below : List Frame} {s Z : State} {args a0 : Array Value} {EL : List (String × Nat)} {vm0 : Vm} {h : Heap} {y : MethodName} {bytes : ByteArray} {maxL : Nat} {ret : Option FieldType} {rm : Room} {len W : Nat} {as' : Array Value} {Q : Option Value → Heap → List Loc → Prop}
    (hM : ConW l Z EL y bytes maxL ret [] rm as' h Q) (hZ : Z.Warmed39 vm0) (wc : (Cond.code y bytes maxL ret).before a0 Z = true) (wz : (Cond.initialized y.cls).before a0 Z = true) (hf : rm.frames + 1 ≤ R.frames) (hl : W + (maxL + 11) + rm.locals ≤ R.locals) (hEL : EW Z a0 EL) (H : CHv Z EL vm0 h) :
    BackS l R p e below (s.setVm vm0) args y len W (fun A a => a = as' ∧ A.U.heap = h ∧ A.cells + rm.cells ≤ R.cells ∧ A.slots + rm.slots ≤ R.slots)
      (fun A _ v B => ∃ L, Q v B.U.heap L ∧ B.locs = A.locs ++ L ∧ B.cells = A.cells + rm.cells ∧ B.slots = A.slots + rm.slots ∧ CHr Z EL vm0 h B.U.vm B.U.heap) := backOfSH (Q := Q) hM hZ wc wz hf hl hEL H
/-- a String whose value is not yet written is no literal's -/
theorem own_safe0 {Z : State} {EL : List (String × Nat)} {vm : Vm} {h : Heap} {x : Addr} (hal : Z.vm.Alike vm) (E : Exa Z h x "java/lang/String") (F : Fld Z h x "java/lang/String" "value" "[B" .null) : Safe Z EL vm h x := fun B => by
  obtain ⟨cell, k, e1, e2, e3, -, -⟩ := E
  obtain ⟨cell', cf, kf, i, f, f1, f2, f3, -, -, -, f7⟩ := F
  cases e1.symm.trans f1
  obtain ⟨p, -, u, a, -, q, -, G, rfl | rfl⟩ := B
  · cases (show h[q.sa]? = some q.sC from G.ha).symm.trans e1
    obtain ⟨cS, ⟨⟨s1, s2, s3, ⟨cv, kv, iv, s4, s4'⟩, r5, s6, s7, s8, -⟩, -, -⟩, -⟩ := G
    obtain ⟨kv', z4⟩ := ff_back (Z := Z) (U := Wst Z vm h) hal s4
    cases f2.symm.trans z4
    have := s8.symm.trans f7
    cases this
  · cases (show h[q.sd]? = some q.SA from G.hd).symm.trans e1
    obtain ⟨cS, -, -, fB, -⟩ := G
    have fB' : Z.vm.findClass "[B" = some q.SA.cls := by rw [← hal.findClass]; exact fB
    exact ids_ne e2 fB' (by decide) rfl

def World1 (Z : State) (w_ERROR : Addr) (i_COMPACT_STRINGS : Int32) (v_SIOOBE_FORMATTER : Value) : Prop :=
  Sta Z Z.heap "java/lang/String" "COMPACT_STRINGS" "Z" (.int i_COMPACT_STRINGS) ∧
  ¬ i_COMPACT_STRINGS = (0 : Int32) ∧
  Sta Z Z.heap "jdk/internal/util/Preconditions" "SIOOBE_FORMATTER" "Ljava/util/function/BiFunction;" v_SIOOBE_FORMATTER ∧
  v_SIOOBE_FORMATTER.isRef = true ∧
  Sta Z Z.heap "com/example/lapwing/lapwing/profile/RuleViolation$Severity" "ERROR" "Lcom/example/lapwing/lapwing/profile/RuleViolation$Severity;" (.ref w_ERROR) ∧
  Exa Z Z.heap w_ERROR "com/example/lapwing/lapwing/profile/RuleViolation$Severity"
abbrev EL : List (String × Nat) := consts_1
theorem own_EL {Z : State} {a0 : Array Value} (hw : ∀ d ∈ tables_1, d.before a0 Z = true) : EW Z a0 EL := (EW.cons (hw _ (List.mem_of_getElem? (i := 96) rfl)) (by decide) EW.nil)
theorem own_wS {Z : State} {a0 : Array Value} (hw : ∀ d ∈ tables_1, d.before a0 Z = true) : ∀ a ∈ Bundle.stringAtoms, a.before a0 Z = true := by
  intro a ha
  simp only [Bundle.stringAtoms, Bundle.sN, List.mem_cons, List.not_mem_nil, or_false] at ha
  rcases ha with rfl | rfl | rfl | rfl | rfl | rfl | rfl
  · exact (hw _ (List.mem_of_getElem? (i := 6) rfl))
  · exact (hw _ (List.mem_of_getElem? (i := 14) rfl))
  · exact (hw _ (List.mem_of_getElem? (i := 18) rfl))
  · exact (hw _ (List.mem_of_getElem? (i := 27) rfl))
  · exact (hw _ (List.mem_of_getElem? (i := 29) rfl))
  · exact (hw _ (List.mem_of_getElem? (i := 97) rfl))
  · exact (hw _ (List.mem_of_getElem? (i := 98) rfl))
theorem pn_java_lang_StringUTF16 : plainName "java/lang/StringUTF16" = true := by first | (simp [plainName, overriddenIn]; done) | decide +kernel
theorem d18_0 : decode jdk_52_method_21_code 0 = .ok (.iconst 0, 1) := by decide +kernel
theorem d18_1 : decode jdk_52_method_21_code 1 = .ok (.istore 5, 2) := by decide +kernel
theorem d18_3 : decode jdk_52_method_21_code 3 = .ok (.iload 5, 2) := by decide +kernel
theorem d18_5 : decode jdk_52_method_21_code 5 = .ok (.iload 4, 2) := by decide +kernel
theorem d18_7 : decode jdk_52_method_21_code 7 = .ok (.if_icmp .ge 37, 3) := by decide +kernel
theorem d18_10 : decode jdk_52_method_21_code 10 = .ok (.aload_n 0, 1) := by decide +kernel
theorem d18_11 : decode jdk_52_method_21_code 11 = .ok (.iload_n 1, 1) := by decide +kernel
theorem d18_12 : decode jdk_52_method_21_code 12 = .ok (.caload, 1) := by decide +kernel
theorem d18_13 : decode jdk_52_method_21_code 13 = .ok (.istore 6, 2) := by decide +kernel
theorem d18_15 : decode jdk_52_method_21_code 15 = .ok (.iload 6, 2) := by decide +kernel
theorem d18_17 : decode jdk_52_method_21_code 17 = .ok (.sipush 255, 3) := by decide +kernel
theorem d18_20 : decode jdk_52_method_21_code 20 = .ok (.if_icmp .le 6, 3) := by decide +kernel
theorem d18_26 : decode jdk_52_method_21_code 26 = .ok (.aload_n 2, 1) := by decide +kernel
theorem d18_27 : decode jdk_52_method_21_code 27 = .ok (.iload_n 3, 1) := by decide +kernel
theorem d18_28 : decode jdk_52_method_21_code 28 = .ok (.iload 6, 2) := by decide +kernel
theorem d18_30 : decode jdk_52_method_21_code 30 = .ok (.i2b, 1) := by decide +kernel
theorem d18_31 : decode jdk_52_method_21_code 31 = .ok (.bastore, 1) := by decide +kernel
theorem d18_32 : decode jdk_52_method_21_code 32 = .ok (.iinc 1 1, 3) := by decide +kernel
theorem d18_35 : decode jdk_52_method_21_code 35 = .ok (.iinc 3 1, 3) := by decide +kernel
theorem d18_38 : decode jdk_52_method_21_code 38 = .ok (.iinc 5 1, 3) := by decide +kernel
theorem d18_41 : decode jdk_52_method_21_code 41 = .ok (.goto (-38), 3) := by decide +kernel
theorem d18_44 : decode jdk_52_method_21_code 44 = .ok (.iload 4, 2) := by decide +kernel
theorem d18_46 : decode jdk_52_method_21_code 46 = .ok (.ireturn, 1) := by decide +kernel
set_option maxRecDepth 65536 in
set_option maxHeartbeats 40000000 in
theorem st5_2 (l : Launch) (Z : State) (a0 : Array Value) (hw : ∀ d ∈ tables_1, d.before a0 Z = true) (ws : List Jvm.Cond) (a2 : Addr) (k2 : ClassId) (a1 : Addr) (k1 : ClassId) (c0 : Int32) (c1 : Int32) (h0 : Heap) (n0 : Nat) (O0 : Old Z n0 h0) (hc_c0 : ¬ (255 : Int32) < c0) (hc_c1 : ¬ (255 : Int32) < c1) (ne12 : a1 ≠ a2) (g_a2 : n0 ≤ a2) (V_a1 : Arv Z h0 a1 k1 .char (2 : Int32) [(.int c0), (.int c1)] (.int 0)) (V_a2 : Arv Z h0 a2 k2 .byte (2 : Int32) [(.int 0), (.int 0)] (.int 0)) :
    Con l Z (⟨"java/lang/StringUTF16", "compress", "([CI[BII)I"⟩ : MethodName) jdk_52_method_21_code 7 (some .int) ws ({ frames := 0, cells := 0, slots := 0, locals := 0 } : Room) #[(.ref a1), (.int 0), (.ref a2), (.int 0), (.int 2)] h0 (fun v h L => v = some (.int 2) ∧ Fr n0 L ∧ Keep h0 h [a2] ∧ Arv Z h a2 k2 .byte (2 : Int32) [(.int (nar .byte (c0.toInt8.toInt32))), (.int (nar .byte (c1.toInt8.toInt32)))] (.int 0)) := by
  refine own_body (plainFor_of_name pn_java_lang_StringUTF16) ?_
  intro p e s m below meth c s₁ hx hby hml hZ hown hnm hlk hret X0 e0
  have N0 := Fr.nil n0
  have K0 : Keep h0 h0 [a2] := Keep.refl _ _
  refine Go.st (T' := s₁) (f' := (mkF m 0 #[rv a1, iv 0, rv a2, iv 0, iv 2, .unset, .unset] [])) (fun _ k => castTop (by first | (simp [entryFrame, mkF, argsToLocals, Value.category]; done) | rfl) k) ?_
  have lt_a1 := V_a1.lt
  have lt_a2 := V_a2.lt
  refine Go.st (f' := (mkF m 1 #[rv a1, iv 0, rv a2, iv 0, iv 2, .unset, .unset] [(.int 0)])) (fun _ k => XS.iconst X0.here hx rfl (hb hby d18_0) k) ?_
  refine Go.st (f' := (mkF m 3 #[rv a1, iv 0, rv a2, iv 0, iv 2, iv 0, .unset] [])) (fun _ k => XS.istore X0.here hx rfl (hb hby d18_1) rfl (l' := #[rv a1, iv 0, rv a2, iv 0, iv 2, iv 0, .unset]) rfl k) ?_
  refine Go.st (f' := (mkF m 5 #[rv a1, iv 0, rv a2, iv 0, iv 2, iv 0, .unset] [(.int 0)])) (fun _ k => XS.iload X0.here hx rfl (hb hby d18_3) rfl k) ?_
  refine Go.st (f' := (mkF m 7 #[rv a1, iv 0, rv a2, iv 0, iv 2, iv 0, .unset] [(.int 2), (.int 0)])) (fun _ k => XS.iload X0.here hx rfl (hb hby d18_5) rfl k) ?_
  refine Go.st (f' := (mkF m 10 #[rv a1, iv 0, rv a2, iv 0, iv 2, iv 0, .unset] [])) (fun _ k => XS.icmpNo X0.here hx rfl (hb hby d18_7) rfl (by decide) k) ?_
  refine Go.st (f' := (mkF m 11 #[rv a1, iv 0, rv a2, iv 0, iv 2, iv 0, .unset] [(.ref a1)])) (fun _ k => XS.aloadN X0.here hx rfl (hb hby d18_10) rfl rfl k) ?_
  refine Go.st (f' := (mkF m 12 #[rv a1, iv 0, rv a2, iv 0, iv 2, iv 0, .unset] [(.int 0), (.ref a1)])) (fun _ k => XS.iloadN X0.here hx rfl (hb hby d18_11) rfl k) ?_
  obtain ⟨cl1, Ar1, -, S1, -, H1, -⟩ := id V_a1
  have hin1 : ¬ ((0 : Int32) < 0 ∨ cl1.slots.size ≤ ((0 : Int32)).toNatClampNeg) := inb_of S1 ⟨by decide, by decide⟩
  have hat1 : cl1.slots[((0 : Int32)).toNatClampNeg]? = some (.int c0) := H1.at hin1 rfl
  refine Go.st (f' := (mkF m 13 #[rv a1, iv 0, rv a2, iv 0, iv 2, iv 0, .unset] [(.int c0)])) (fun _ k => X0.caload hx (j := (0 : Int32)) (v := (.int c0)) (by rw [e0]; exact Ar1.1) (State.isArrayOf_alike hZ.alike Ar1.2.1) Ar1.2.2 hin1 hat1 (g := (mkF m 12 #[rv a1, iv 0, rv a2, iv 0, iv 2, iv 0, .unset] [(.int 0), (.ref a1)])) rfl rfl (hb hby d18_12) _ k) ?_
  refine Go.st (f' := (mkF m 15 #[rv a1, iv 0, rv a2, iv 0, iv 2, iv 0, iv c0] [])) (fun _ k => XS.istore X0.here hx rfl (hb hby d18_13) rfl (l' := #[rv a1, iv 0, rv a2, iv 0, iv 2, iv 0, iv c0]) rfl k) ?_
  refine Go.st (f' := (mkF m 17 #[rv a1, iv 0, rv a2, iv 0, iv 2, iv 0, iv c0] [(.int c0)])) (fun _ k => XS.iload X0.here hx rfl (hb hby d18_15) rfl k) ?_
  refine Go.st (f' := (mkF m 20 #[rv a1, iv 0, rv a2, iv 0, iv 2, iv 0, iv c0] [(.int 255), (.int c0)])) (fun _ k => XS.sipush X0.here hx rfl (hb hby d18_17) k) ?_
  refine Go.st (f' := (mkF m 26 #[rv a1, iv 0, rv a2, iv 0, iv 2, iv 0, iv c0] [])) (fun _ k => XS.icmpYes X0.here hx rfl (pc0 := 20) (pc' := 26) rfl (hb hby d18_20) rfl (flt hc_c0).2.2.2 (by decide) (by decide) k) ?_
  refine Go.st (f' := (mkF m 27 #[rv a1, iv 0, rv a2, iv 0, iv 2, iv 0, iv c0] [(.ref a2)])) (fun _ k => XS.aloadN X0.here hx rfl (hb hby d18_26) rfl rfl k) ?_
  refine Go.st (f' := (mkF m 28 #[rv a1, iv 0, rv a2, iv 0, iv 2, iv 0, iv c0] [(.int 0), (.ref a2)])) (fun _ k => XS.iloadN X0.here hx rfl (hb hby d18_27) rfl k) ?_
  refine Go.st (f' := (mkF m 30 #[rv a1, iv 0, rv a2, iv 0, iv 2, iv 0, iv c0] [(.int c0), (.int 0), (.ref a2)])) (fun _ k => XS.iload X0.here hx rfl (hb hby d18_28) rfl k) ?_
  refine Go.st (f' := (mkF m 31 #[rv a1, iv 0, rv a2, iv 0, iv 2, iv 0, iv c0] [(.int (c0.toInt8.toInt32)), (.int 0), (.ref a2)])) (fun _ k => XS.i2b X0.here hx rfl (hb hby d18_30) rfl k) ?_
  obtain ⟨cl2, Ar2, q2, S2, Nx2, H2, G2⟩ := id V_a2
  have hin2 : ¬ ((0 : Int32) < 0 ∨ cl2.slots.size ≤ ((0 : Int32)).toNatClampNeg) := inb_of S2 ⟨by decide, by decide⟩
  obtain ⟨T3, h3, X3, e3, W3, st3⟩ := stB X0 hx hZ e0 Ar2 (j := (0 : Int32)) hin2 (g := (mkF m 31 #[rv a1, iv 0, rv a2, iv 0, iv 2, iv 0, iv c0] [(.int (c0.toInt8.toInt32)), (.int 0), (.ref a2)])) rfl rfl (hb hby d18_31)
  have V_a2_3 : Arv Z h3 a2 k2 .byte (2 : Int32) [(.int (nar .byte (c0.toInt8.toInt32))), (.int (0 : Int32))] (.int (0 : Int32)) := Arv.set Ar2 q2 S2 Nx2 H2 G2 (fits_nar_byte _) W3 0 rfl (Nat.le_of_ble_eq_true rfl)
  have N3 := Fr.snoc X3 N0 g_a2
  have O3 : Old Z n0 h3 := O0.wr W3 g_a2
  have K3 : Keep h0 h3 [a2] := K0.wr W3 (Or.inl (List.mem_of_getElem? (i := 0) rfl))
  refine Go.st (f' := (mkF m 32 #[rv a1, iv 0, rv a2, iv 0, iv 2, iv 0, iv c0] [])) (fun _ k => st3 _ k) ?_
  refine Go.st (f' := (mkF m 35 #[rv a1, iv 1, rv a2, iv 0, iv 2, iv 0, iv c0] [])) (fun _ k => XS.iinc X3.here hx rfl (hb hby d18_32) rfl (l' := #[rv a1, iv 1, rv a2, iv 0, iv 2, iv 0, iv c0]) rfl k) ?_
  refine Go.st (f' := (mkF m 38 #[rv a1, iv 1, rv a2, iv 1, iv 2, iv 0, iv c0] [])) (fun _ k => XS.iinc X3.here hx rfl (hb hby d18_35) rfl (l' := #[rv a1, iv 1, rv a2, iv 1, iv 2, iv 0, iv c0]) rfl k) ?_
  refine Go.st (f' := (mkF m 41 #[rv a1, iv 1, rv a2, iv 1, iv 2, iv 1, iv c0] [])) (fun _ k => XS.iinc X3.here hx rfl (hb hby d18_38) rfl (l' := #[rv a1, iv 1, rv a2, iv 1, iv 2, iv 1, iv c0]) rfl k) ?_
  refine Go.st (f' := (mkF m 3 #[rv a1, iv 1, rv a2, iv 1, iv 2, iv 1, iv c0] [])) (fun _ k => XS.goto X3.here hx rfl (pc0 := 41) (pc' := 3) rfl (hb hby d18_41) (by decide) (by decide) k) ?_
  refine Go.st (f' := (mkF m 5 #[rv a1, iv 1, rv a2, iv 1, iv 2, iv 1, iv c0] [(.int 1)])) (fun _ k => XS.iload X3.here hx rfl (hb hby d18_3) rfl k) ?_
  refine Go.st (f' := (mkF m 7 #[rv a1, iv 1, rv a2, iv 1, iv 2, iv 1, iv c0] [(.int 2), (.int 1)])) (fun _ k => XS.iload X3.here hx rfl (hb hby d18_5) rfl k) ?_
  refine Go.st (f' := (mkF m 10 #[rv a1, iv 1, rv a2, iv 1, iv 2, iv 1, iv c0] [])) (fun _ k => XS.icmpNo X3.here hx rfl (hb hby d18_7) rfl (by decide) k) ?_
  refine Go.st (f' := (mkF m 11 #[rv a1, iv 1, rv a2, iv 1, iv 2, iv 1, iv c0] [(.ref a1)])) (fun _ k => XS.aloadN X3.here hx rfl (hb hby d18_10) rfl rfl k) ?_
  refine Go.st (f' := (mkF m 12 #[rv a1, iv 1, rv a2, iv 1, iv 2, iv 1, iv c0] [(.int 1), (.ref a1)])) (fun _ k => XS.iloadN X3.here hx rfl (hb hby d18_11) rfl k) ?_
  have ft5 := (V_a1.other W3 ne12)
  obtain ⟨cl4, Ar4, -, S4, -, H4, -⟩ := id ft5
  have hin4 : ¬ ((1 : Int32) < 0 ∨ cl4.slots.size ≤ ((1 : Int32)).toNatClampNeg) := inb_of S4 ⟨by decide, by decide⟩
  have hat4 : cl4.slots[((1 : Int32)).toNatClampNeg]? = some (.int c1) := H4.at hin4 rfl
  refine Go.st (f' := (mkF m 13 #[rv a1, iv 1, rv a2, iv 1, iv 2, iv 1, iv c0] [(.int c1)])) (fun _ k => X3.caload hx (j := (1 : Int32)) (v := (.int c1)) (by rw [e3]; exact Ar4.1) (State.isArrayOf_alike hZ.alike Ar4.2.1) Ar4.2.2 hin4 hat4 (g := (mkF m 12 #[rv a1, iv 1, rv a2, iv 1, iv 2, iv 1, iv c0] [(.int 1), (.ref a1)])) rfl rfl (hb hby d18_12) _ k) ?_
  refine Go.st (f' := (mkF m 15 #[rv a1, iv 1, rv a2, iv 1, iv 2, iv 1, iv c1] [])) (fun _ k => XS.istore X3.here hx rfl (hb hby d18_13) rfl (l' := #[rv a1, iv 1, rv a2, iv 1, iv 2, iv 1, iv c1]) rfl k) ?_
  refine Go.st (f' := (mkF m 17 #[rv a1, iv 1, rv a2, iv 1, iv 2, iv 1, iv c1] [(.int c1)])) (fun _ k => XS.iload X3.here hx rfl (hb hby d18_15) rfl k) ?_
  refine Go.st (f' := (mkF m 20 #[rv a1, iv 1, rv a2, iv 1, iv 2, iv 1, iv c1] [(.int 255), (.int c1)])) (fun _ k => XS.sipush X3.here hx rfl (hb hby d18_17) k) ?_
  refine Go.st (f' := (mkF m 26 #[rv a1, iv 1, rv a2, iv 1, iv 2, iv 1, iv c1] [])) (fun _ k => XS.icmpYes X3.here hx rfl (pc0 := 20) (pc' := 26) rfl (hb hby d18_20) rfl (flt hc_c1).2.2.2 (by decide) (by decide) k) ?_
  refine Go.st (f' := (mkF m 27 #[rv a1, iv 1, rv a2, iv 1, iv 2, iv 1, iv c1] [(.ref a2)])) (fun _ k => XS.aloadN X3.here hx rfl (hb hby d18_26) rfl rfl k) ?_
  refine Go.st (f' := (mkF m 28 #[rv a1, iv 1, rv a2, iv 1, iv 2, iv 1, iv c1] [(.int 1), (.ref a2)])) (fun _ k => XS.iloadN X3.here hx rfl (hb hby d18_27) rfl k) ?_
  refine Go.st (f' := (mkF m 30 #[rv a1, iv 1, rv a2, iv 1, iv 2, iv 1, iv c1] [(.int c1), (.int 1), (.ref a2)])) (fun _ k => XS.iload X3.here hx rfl (hb hby d18_28) rfl k) ?_
  refine Go.st (f' := (mkF m 31 #[rv a1, iv 1, rv a2, iv 1, iv 2, iv 1, iv c1] [(.int (c1.toInt8.toInt32)), (.int 1), (.ref a2)])) (fun _ k => XS.i2b X3.here hx rfl (hb hby d18_30) rfl k) ?_
  obtain ⟨cl6, Ar6, q6, S6, Nx6, H6, G6⟩ := id V_a2_3
  have hin6 : ¬ ((1 : Int32) < 0 ∨ cl6.slots.size ≤ ((1 : Int32)).toNatClampNeg) := inb_of S6 ⟨by decide, by decide⟩
  obtain ⟨T7, h7, X7, e7, W7, st7⟩ := stB X3 hx hZ e3 Ar6 (j := (1 : Int32)) hin6 (g := (mkF m 31 #[rv a1, iv 1, rv a2, iv 1, iv 2, iv 1, iv c1] [(.int (c1.toInt8.toInt32)), (.int 1), (.ref a2)])) rfl rfl (hb hby d18_31)
  have V_a2_7 : Arv Z h7 a2 k2 .byte (2 : Int32) [(.int (nar .byte (c0.toInt8.toInt32))), (.int (nar .byte (c1.toInt8.toInt32)))] (.int (0 : Int32)) := Arv.set Ar6 q6 S6 Nx6 H6 G6 (fits_nar_byte _) W7 1 rfl (Nat.le_of_ble_eq_true rfl)
  have N7 := Fr.snoc X7 N3 g_a2
  have O7 : Old Z n0 h7 := O3.wr W7 g_a2
  have K7 : Keep h0 h7 [a2] := K3.wr W7 (Or.inl (List.mem_of_getElem? (i := 0) rfl))
  refine Go.st (f' := (mkF m 32 #[rv a1, iv 1, rv a2, iv 1, iv 2, iv 1, iv c1] [])) (fun _ k => st7 _ k) ?_
  refine Go.st (f' := (mkF m 35 #[rv a1, iv 2, rv a2, iv 1, iv 2, iv 1, iv c1] [])) (fun _ k => XS.iinc X7.here hx rfl (hb hby d18_32) rfl (l' := #[rv a1, iv 2, rv a2, iv 1, iv 2, iv 1, iv c1]) rfl k) ?_
  refine Go.st (f' := (mkF m 38 #[rv a1, iv 2, rv a2, iv 2, iv 2, iv 1, iv c1] [])) (fun _ k => XS.iinc X7.here hx rfl (hb hby d18_35) rfl (l' := #[rv a1, iv 2, rv a2, iv 2, iv 2, iv 1, iv c1]) rfl k) ?_
  refine Go.st (f' := (mkF m 41 #[rv a1, iv 2, rv a2, iv 2, iv 2, iv 2, iv c1] [])) (fun _ k => XS.iinc X7.here hx rfl (hb hby d18_38) rfl (l' := #[rv a1, iv 2, rv a2, iv 2, iv 2, iv 2, iv c1]) rfl k) ?_
  refine Go.st (f' := (mkF m 3 #[rv a1, iv 2, rv a2, iv 2, iv 2, iv 2, iv c1] [])) (fun _ k => XS.goto X7.here hx rfl (pc0 := 41) (pc' := 3) rfl (hb hby d18_41) (by decide) (by decide) k) ?_
  refine Go.st (f' := (mkF m 5 #[rv a1, iv 2, rv a2, iv 2, iv 2, iv 2, iv c1] [(.int 2)])) (fun _ k => XS.iload X7.here hx rfl (hb hby d18_3) rfl k) ?_
  refine Go.st (f' := (mkF m 7 #[rv a1, iv 2, rv a2, iv 2, iv 2, iv 2, iv c1] [(.int 2), (.int 2)])) (fun _ k => XS.iload X7.here hx rfl (hb hby d18_5) rfl k) ?_
  refine Go.st (f' := (mkF m 44 #[rv a1, iv 2, rv a2, iv 2, iv 2, iv 2, iv c1] [])) (fun _ k => XS.icmpYes X7.here hx rfl (pc0 := 7) (pc' := 44) rfl (hb hby d18_7) rfl (by decide) (by decide) (by decide) k) ?_
  refine Go.st (f' := (mkF m 46 #[rv a1, iv 2, rv a2, iv 2, iv 2, iv 2, iv c1] [(.int 2)])) (fun _ k => XS.iload X7.here hx rfl (hb hby d18_44) rfl k) ?_
  refine Go.retV X7 hlk hx (t := .int) hret rfl (Or.inl ⟨rfl, Or.inl rfl, _, rfl⟩) (hb hby d18_46) e7 ?_ (by decide) (by decide)
  exact ⟨rfl, N7, K7, V_a2_7⟩
theorem d17_0 : decode jdk_52_method_16_code 0 = .ok (.iload_n 2, 1) := by decide +kernel
theorem d17_1 : decode jdk_52_method_16_code 1 = .ok (.newarray .byte, 2) := by decide +kernel
theorem d17_3 : decode jdk_52_method_16_code 3 = .ok (.astore_n 3, 1) := by decide +kernel
theorem d17_4 : decode jdk_52_method_16_code 4 = .ok (.aload_n 0, 1) := by decide +kernel
theorem d17_5 : decode jdk_52_method_16_code 5 = .ok (.iload_n 1, 1) := by decide +kernel
theorem d17_6 : decode jdk_52_method_16_code 6 = .ok (.aload_n 3, 1) := by decide +kernel
theorem d17_7 : decode jdk_52_method_16_code 7 = .ok (.iconst 0, 1) := by decide +kernel
theorem d17_8 : decode jdk_52_method_16_code 8 = .ok (.iload_n 2, 1) := by decide +kernel
theorem d17_9 : decode jdk_52_method_16_code 9 = .ok (.invokestatic 115, 3) := by decide +kernel
theorem pd___CI_BII_I : parseMethodDescriptor "([CI[BII)I" = some ⟨[(.array .char), .int, (.array .byte), .int, .int], some .int⟩ := by decide +kernel
theorem d17_12 : decode jdk_52_method_16_code 12 = .ok (.istore 4, 2) := by decide +kernel
theorem d17_14 : decode jdk_52_method_16_code 14 = .ok (.iload 4, 2) := by decide +kernel
theorem d17_16 : decode jdk_52_method_16_code 16 = .ok (.iload_n 2, 1) := by decide +kernel
theorem d17_17 : decode jdk_52_method_16_code 17 = .ok (.if_icmp .eq 40, 3) := by decide +kernel
theorem d17_57 : decode jdk_52_method_16_code 57 = .ok (.aload_n 3, 1) := by decide +kernel
theorem d17_58 : decode jdk_52_method_16_code 58 = .ok (.areturn, 1) := by decide +kernel
set_option maxRecDepth 65536 in
set_option maxHeartbeats 40000000 in
theorem st3_2 (l : Launch) (Z : State) (a0 : Array Value) (hw : ∀ d ∈ tables_1, d.before a0 Z = true) (ws : List Jvm.Cond) (a1 : Addr) (k1 : ClassId) (c0 : Int32) (c1 : Int32) (h0 : Heap) (n0 : Nat) (O0 : Old Z n0 h0) (hc_c0 : ¬ (255 : Int32) < c0) (hc_c1 : ¬ (255 : Int32) < c1) (V_a1 : Arv Z h0 a1 k1 .char (2 : Int32) [(.int c0), (.int c1)] (.int 0)) :
    Con l Z (⟨"java/lang/StringUTF16", "compress", "([CII)[B"⟩ : MethodName) jdk_52_method_16_code 6 (some (.array .byte)) ws ({ frames := 1, cells := 1, slots := 2, locals := 18 } : Room) #[(.ref a1), (.int 0), (.int 2)] h0 (fun v h L => ∃ (b : Addr) (kb : ClassId), v = some (.ref b) ∧ Fr n0 L ∧ h0.size ≤ b ∧ Keep h0 h [] ∧ Arv Z h b kb .byte (2 : Int32) [(.int (nar .byte (c0.toInt8.toInt32))), (.int (nar .byte (c1.toInt8.toInt32)))] (.int 0)) := by
  refine own_body (plainFor_of_name pn_java_lang_StringUTF16) ?_
  intro p e s m below meth c s₁ hx hby hml hZ hown hnm hlk hret X0 e0
  have N0 := Fr.nil n0
  have K0 : Keep h0 h0 [] := Keep.refl _ _
  refine Go.st (T' := s₁) (f' := (mkF m 0 #[rv a1, iv 0, iv 2, .unset, .unset, .unset] [])) (fun _ k => castTop (by first | (simp [entryFrame, mkF, argsToLocals, Value.category]; done) | rfl) k) ?_
  have lt_a1 := V_a1.lt
  refine Go.st (f' := (mkF m 1 #[rv a1, iv 0, iv 2, .unset, .unset, .unset] [(.int 2)])) (fun _ k => XS.iloadN X0.here hx rfl (hb hby d17_0) rfl k) ?_
  obtain ⟨T1, h1, kc1, X1, e1, E1, A1, st1⟩ := newP X0 hx hZ (hw _ (List.mem_of_getElem? (i := 18) rfl)) e0 (g := (mkF m 1 #[rv a1, iv 0, iv 2, .unset, .unset, .unset] [(.int 2)])) rfl (hb hby d17_1) rfl (by decide) (cap := 2) (by decide) (by decide) (by decide) (by decide)
  obtain ⟨b1, g1⟩ : ∃ z, z = h0.size := ⟨_, rfl⟩
  rw [← g1] at A1 st1
  have ne_a1_b1 : a1 ≠ b1 := Nat.ne_of_lt (Nat.lt_of_lt_of_eq lt_a1 g1.symm)
  have g_b1 : n0 ≤ b1 := Nat.le_trans (O0.1 ▸ O0.2.1) (Nat.le_of_eq g1.symm)
  have O1 : Old Z n0 h1 := O0.ext E1
  have sz_b1 : h0.size ≤ b1 := Nat.le_trans K0.1 (Nat.le_of_eq g1.symm)
  have K1 : Keep h0 h1 [] := K0.ext E1
  have V_b1 : Arv Z h1 b1 kc1 .byte (2 : Int32) [(.int (0 : Int32)), (.int (0 : Int32))] (.int (0 : Int32)) := (Arv.new A1 (by decide)).pad (pad_rep [] (.int (0 : Int32)) 2)
  have lt_b1 := V_b1.lt
  refine Go.st (f' := (mkF m 3 #[rv a1, iv 0, iv 2, .unset, .unset, .unset] [(.ref b1)])) (fun _ k => st1 _ k) ?_
  refine Go.st (f' := (mkF m 4 #[rv a1, iv 0, iv 2, rv b1, .unset, .unset] [])) (fun _ k => XS.astoreN X1.here hx rfl (hb hby d17_3) rfl rfl (l' := #[rv a1, iv 0, iv 2, rv b1, .unset, .unset]) rfl k) ?_
  refine Go.st (f' := (mkF m 5 #[rv a1, iv 0, iv 2, rv b1, .unset, .unset] [(.ref a1)])) (fun _ k => XS.aloadN X1.here hx rfl (hb hby d17_4) rfl rfl k) ?_
  refine Go.st (f' := (mkF m 6 #[rv a1, iv 0, iv 2, rv b1, .unset, .unset] [(.int 0), (.ref a1)])) (fun _ k => XS.iloadN X1.here hx rfl (hb hby d17_5) rfl k) ?_
  refine Go.st (f' := (mkF m 7 #[rv a1, iv 0, iv 2, rv b1, .unset, .unset] [(.ref b1), (.int 0), (.ref a1)])) (fun _ k => XS.aloadN X1.here hx rfl (hb hby d17_6) rfl rfl k) ?_
  refine Go.st (f' := (mkF m 8 #[rv a1, iv 0, iv 2, rv b1, .unset, .unset] [(.int 0), (.ref b1), (.int 0), (.ref a1)])) (fun _ k => XS.iconst X1.here hx rfl (hb hby d17_7) k) ?_
  refine Go.st (f' := (mkF m 9 #[rv a1, iv 0, iv 2, rv b1, .unset, .unset] [(.int 2), (.int 0), (.ref b1), (.int 0), (.ref a1)])) (fun _ k => XS.iloadN X1.here hx rfl (hb hby d17_8) rfl k) ?_
  have ft3 := (V_a1.ext E1)
  obtain ⟨_, _, ⟨T2, L2, kk2, nn2⟩, -, X2, ⟨Lc2, hQ2, lq2, yq2, zz2⟩, st2⟩ := Jvm.LawKit.callS X1 hx (y := (⟨"java/lang/StringUTF16", "compress", "([CI[BII)I"⟩ : MethodName)) hown (mvT hZ (hw _ (List.mem_of_getElem? (i := 90) rfl))) (mvT hZ (hw _ (List.mem_of_getElem? (i := 91) rfl))) (mvT hZ (hw _ (List.mem_of_getElem? (i := 88) rfl))) (mvT hZ (hw _ (List.mem_of_getElem? (i := 92) rfl))) (by decide) (own_back (W := 0) (st5_2 l Z a0 hw [] b1 kc1 a1 k1 c0 c1 h1 n0 O1 hc_c0 hc_c1 ne_a1_b1 g_b1 ft3 V_b1) hZ (hw _ (List.mem_of_getElem? (i := 92) rfl)) (hw _ (List.mem_of_getElem? (i := 88) rfl)) (by decide) (by decide)) (g := (mkF m 9 #[rv a1, iv 0, iv 2, rv b1, .unset, .unset] [(.int 2), (.int 0), (.ref b1), (.int 0), (.ref a1)])) rfl (by rw [hml]; rfl) (argsL := [(.ref a1), (.int (0 : Int32)), (.ref b1), (.int (0 : Int32)), (.int (2 : Int32))]) (rest := []) (lenOf pd___CI_BII_I rfl) rfl (by show 2 * 0 + _ ≤ _; exact Nat.le_of_eq rfl) (hb hby d17_9) (fun _ _ => ⟨rfl, e1, (by decide : 1 + 0 ≤ _), (by decide : 2 + 0 ≤ _)⟩)
  dsimp only [Pt.U, Pt.locs, Pt.cells, Pt.slots] at X2 lq2 yq2 zz2 st2 hQ2
  subst lq2 yq2 zz2
  obtain ⟨rfl, Nq2, kq2, vq2⟩ := hQ2
  have N2 := Fr.app N0 Nq2
  have O2 : Old Z n0 T2.heap := O1.keep kq2 (allS g_b1 all0)
  have K2 : Keep h0 T2.heap [] := K1.trans kq2 (allS (Or.inr sz_b1) all0)
  refine Go.st (f' := (mkF m 12 #[rv a1, iv 0, iv 2, rv b1, .unset, .unset] [(.int 2)])) (fun _ k => st2 _ k) ?_
  refine Go.st (f' := (mkF m 14 #[rv a1, iv 0, iv 2, rv b1, iv 2, .unset] [])) (fun _ k => XS.istore X2.here hx rfl (hb hby d17_12) rfl (l' := #[rv a1, iv 0, iv 2, rv b1, iv 2, .unset]) rfl k) ?_
  refine Go.st (f' := (mkF m 16 #[rv a1, iv 0, iv 2, rv b1, iv 2, .unset] [(.int 2)])) (fun _ k => XS.iload X2.here hx rfl (hb hby d17_14) rfl k) ?_
  refine Go.st (f' := (mkF m 17 #[rv a1, iv 0, iv 2, rv b1, iv 2, .unset] [(.int 2), (.int 2)])) (fun _ k => XS.iloadN X2.here hx rfl (hb hby d17_16) rfl k) ?_
  refine Go.st (f' := (mkF m 57 #[rv a1, iv 0, iv 2, rv b1, iv 2, .unset] [])) (fun _ k => XS.icmpYes X2.here hx rfl (pc0 := 17) (pc' := 57) rfl (hb hby d17_17) rfl (by decide) (by decide) (by decide) k) ?_
  refine Go.st (f' := (mkF m 58 #[rv a1, iv 0, iv 2, rv b1, iv 2, .unset] [(.ref b1)])) (fun _ k => XS.aloadN X2.here hx rfl (hb hby d17_57) rfl rfl k) ?_
  refine Go.retV X2 hlk hx (t := (.array .byte)) hret rfl (Or.inr (Or.inr (Or.inr (Or.inr ⟨rfl, rfl, rfl⟩)))) (hb hby d17_58) rfl ?_ (by decide) (by decide)
  exact ⟨b1, kc1, rfl, N2, sz_b1, K2, vq2⟩
theorem d19_0 : decode jdk_52_method_15_code 0 = .ok (.iload_n 1, 1) := by decide +kernel
theorem d19_1 : decode jdk_52_method_15_code 1 = .ok (.aload_n 0, 1) := by decide +kernel
theorem d19_2 : decode jdk_52_method_15_code 2 = .ok (.arraylength, 1) := by decide +kernel
theorem d19_3 : decode jdk_52_method_15_code 3 = .ok (.isub, 1) := by decide +kernel
theorem d19_4 : decode jdk_52_method_15_code 4 = .ok (.bipush 31, 2) := by decide +kernel
theorem d19_6 : decode jdk_52_method_15_code 6 = .ok (.iushr, 1) := by decide +kernel
theorem d19_7 : decode jdk_52_method_15_code 7 = .ok (.i2b, 1) := by decide +kernel
theorem d19_8 : decode jdk_52_method_15_code 8 = .ok (.ireturn, 1) := by decide +kernel
set_option maxRecDepth 65536 in
set_option maxHeartbeats 40000000 in
theorem stc_2 (l : Launch) (Z : State) (a0 : Array Value) (hw : ∀ d ∈ tables_1, d.before a0 Z = true) (ws : List Jvm.Cond) (a1 : Addr) (k1 : ClassId) (x0 : Int32) (x1 : Int32) (h0 : Heap) (n0 : Nat) (O0 : Old Z n0 h0) (V_a1 : Arv Z h0 a1 k1 .byte (2 : Int32) [(.int x0), (.int x1)] (.int 0)) :
    Con l Z (⟨"java/lang/StringUTF16", "coderFromArrayLen", "([BI)B"⟩ : MethodName) jdk_52_method_15_code 2 (some .byte) ws ({ frames := 0, cells := 0, slots := 0, locals := 0 } : Room) #[(.ref a1), (.int 2)] h0 (fun v h L => v = some (.int 0) ∧ Fr n0 L ∧ h = h0) := by
  refine own_body (plainFor_of_name pn_java_lang_StringUTF16) ?_
  intro p e s m below meth c s₁ hx hby hml hZ hown hnm hlk hret X0 e0
  have N0 := Fr.nil n0
  refine Go.st (T' := s₁) (f' := (mkF m 0 #[rv a1, iv 2] [])) (fun _ k => castTop (by first | (simp [entryFrame, mkF, argsToLocals, Value.category]; done) | rfl) k) ?_
  have lt_a1 := V_a1.lt
  refine Go.st (f' := (mkF m 1 #[rv a1, iv 2] [(.int 2)])) (fun _ k => XS.iloadN X0.here hx rfl (hb hby d19_0) rfl k) ?_
  refine Go.st (f' := (mkF m 2 #[rv a1, iv 2] [(.ref a1), (.int 2)])) (fun _ k => XS.aloadN X0.here hx rfl (hb hby d19_1) rfl rfl k) ?_
  obtain ⟨cl1, Ar1, -, S1, Nx1, -, -⟩ := id V_a1
  refine Go.st (T' := s₁) (f' := (mkF m 3 #[rv a1, iv 2] [(.int 2), (.int 2)])) (fun _ k => X0.arraylength hx (by rw [e0]; exact Ar1.1) (State.isArrayOf_alike hZ.alike Ar1.2.1) (g := (mkF m 2 #[rv a1, iv 2] [(.ref a1), (.int 2)])) rfl rfl (hb hby d19_2) _ (by rw [len_of S1 Nx1]; exact k)) ?_
  refine Go.st (f' := (mkF m 4 #[rv a1, iv 2] [(.int 0)])) (fun _ k => XS.isub X0.here hx rfl (hb hby d19_3) rfl k) ?_
  refine Go.st (f' := (mkF m 6 #[rv a1, iv 2] [(.int 31), (.int 0)])) (fun _ k => XS.bipush X0.here hx rfl (hb hby d19_4) k) ?_
  refine Go.st (f' := (mkF m 7 #[rv a1, iv 2] [(.int 0)])) (fun _ k => XS.iushr X0.here hx rfl (hb hby d19_6) rfl k) ?_
  refine Go.st (f' := (mkF m 8 #[rv a1, iv 2] [(.int 0)])) (fun _ k => XS.i2b X0.here hx rfl (hb hby d19_7) rfl k) ?_
  refine Go.retB X0 hlk hx (t := .byte) hret (by simp) (hb hby d19_8) e0 ?_ (by decide) (by decide)
  exact ⟨rfl, N0, rfl⟩
theorem pn_java_lang_String : plainName "java/lang/String" = true := by first | (simp [plainName, overriddenIn]; done) | decide +kernel
theorem d16_0 : decode jdk_42_method_149_code 0 = .ok (.aload_n 0, 1) := by decide +kernel
theorem d16_1 : decode jdk_42_method_149_code 1 = .ok (.invokespecial 1, 3) := by decide +kernel
theorem d16_4 : decode jdk_42_method_149_code 4 = .ok (.iload_n 3, 1) := by decide +kernel
theorem d16_5 : decode jdk_42_method_149_code 5 = .ok (.ifCond .ne 22, 3) := by decide +kernel
theorem d16_27 : decode jdk_42_method_149_code 27 = .ok (.getstatic 38, 3) := by decide +kernel
theorem d16_30 : decode jdk_42_method_149_code 30 = .ok (.ifCond .eq 28, 3) := by decide +kernel
theorem d16_33 : decode jdk_42_method_149_code 33 = .ok (.aload_n 1, 1) := by decide +kernel
theorem d16_34 : decode jdk_42_method_149_code 34 = .ok (.iload_n 2, 1) := by decide +kernel
theorem d16_35 : decode jdk_42_method_149_code 35 = .ok (.iload_n 3, 1) := by decide +kernel
theorem d16_36 : decode jdk_42_method_149_code 36 = .ok (.invokestatic 177, 3) := by decide +kernel
theorem pd___CII__B : parseMethodDescriptor "([CII)[B" = some ⟨[(.array .char), .int, .int], some (.array .byte)⟩ := by decide +kernel
theorem d16_39 : decode jdk_42_method_149_code 39 = .ok (.astore 5, 2) := by decide +kernel
theorem d16_41 : decode jdk_42_method_149_code 41 = .ok (.aload_n 0, 1) := by decide +kernel
theorem d16_42 : decode jdk_42_method_149_code 42 = .ok (.aload 5, 2) := by decide +kernel
theorem d16_44 : decode jdk_42_method_149_code 44 = .ok (.iload_n 3, 1) := by decide +kernel
theorem d16_45 : decode jdk_42_method_149_code 45 = .ok (.invokestatic 47, 3) := by decide +kernel
theorem pd___BI_B : parseMethodDescriptor "([BI)B" = some ⟨[(.array .byte), .int], some .byte⟩ := by decide +kernel
theorem d16_48 : decode jdk_42_method_149_code 48 = .ok (.putfield 15, 3) := by decide +kernel
theorem d16_51 : decode jdk_42_method_149_code 51 = .ok (.aload_n 0, 1) := by decide +kernel
theorem d16_52 : decode jdk_42_method_149_code 52 = .ok (.aload 5, 2) := by decide +kernel
theorem d16_54 : decode jdk_42_method_149_code 54 = .ok (.putfield 9, 3) := by decide +kernel
theorem d16_57 : decode jdk_42_method_149_code 57 = .ok (.return_, 1) := by decide +kernel
set_option maxRecDepth 65536 in
set_option maxHeartbeats 40000000 in
theorem stv_2 (l : Launch) (Z : State) (a0 : Array Value) (hw : ∀ d ∈ tables_1, d.before a0 Z = true) (ws : List Jvm.Cond) (a0b : Addr) (a1 : Addr) (k1 : ClassId) (c0 : Int32) (c1 : Int32) (w_ERROR : Addr) (i_COMPACT_STRINGS : Int32) (v_SIOOBE_FORMATTER : Value) (h0 : Heap) (n0 : Nat) (O0 : Old Z n0 h0) (hc_c0 : ¬ (255 : Int32) < c0) (hc_c1 : ¬ (255 : Int32) < c1) (g_a0b : n0 ≤ a0b) (nb1 : a0b ≠ a1) (E_a0b : Exa Z h0 a0b "java/lang/String") (F_a0b_coder : Fld Z h0 a0b "java/lang/String" "coder" "B" (.int 0)) (F_a0b_value : Fld Z h0 a0b "java/lang/String" "value" "[B" .null) (V_a1 : Arv Z h0 a1 k1 .char (2 : Int32) [(.int c0), (.int c1)] (.int 0)) (WW : World1 Z w_ERROR i_COMPACT_STRINGS v_SIOOBE_FORMATTER) :
    Con l Z (⟨"java/lang/String", "<init>", "([CIILjava/lang/Void;)V"⟩ : MethodName) jdk_42_method_149_code 6 none ws ({ frames := 2, cells := 1, slots := 2, locals := 35 } : Room) #[(.ref a0b), (.ref a1), (.int 0), (.int 2), .null] h0 (fun v h L => v = none ∧ Fr n0 L ∧ Keep h0 h [a0b] ∧ Exa Z h a0b "java/lang/String" ∧ Fld Z h a0b "java/lang/String" "coder" "B" (.int 0) ∧ ∃ (t : Addr) (kt : ClassId), h0.size ≤ t ∧ Fld Z h a0b "java/lang/String" "value" "[B" (.ref t) ∧ Arv Z h t kt .byte (2 : Int32) [(.int (nar .byte (c0.toInt8.toInt32))), (.int (nar .byte (c1.toInt8.toInt32)))] (.int 0)) := by
  refine own_body (plainFor_of_name pn_java_lang_String) ?_
  intro p e s m below meth c s₁ hx hby hml hZ hown hnm hlk hret X0 e0
  have N0 := Fr.nil n0
  have K0 : Keep h0 h0 [a0b] := Keep.refl _ _
  refine Go.st (T' := s₁) (f' := (mkF m 0 #[rv a0b, rv a1, iv 0, iv 2, .val .null, .unset] [])) (fun _ k => castTop (by first | (simp [entryFrame, mkF, argsToLocals, Value.category]; done) | rfl) k) ?_
  have ⟨S_i_COMPACT_STRINGS, nz_i_COMPACT_STRINGS, S_v_SIOOBE_FORMATTER, r_v_SIOOBE_FORMATTER, S_w_ERROR, E_w_ERROR⟩ := WW
  have lt_w_ERROR := E_w_ERROR.lt
  have lt_a0b := E_a0b.lt
  have ne_w_ERROR_a0b : w_ERROR ≠ a0b := O0.ne lt_w_ERROR g_a0b
  have lt_a1 := V_a1.lt
  refine Go.st (f' := (mkF m 1 #[rv a0b, rv a1, iv 0, iv 2, .val .null, .unset] [(.ref a0b)])) (fun _ k => XS.aloadN X0.here hx rfl (hb hby d16_0) rfl rfl k) ?_
  obtain ⟨T1, X1, e1, st1⟩ := initO X0 hx hZ hown (hw _ (List.mem_of_getElem? (i := 23) rfl)) (hw _ (List.mem_of_getElem? (i := 24) rfl)) (hw _ (List.mem_of_getElem? (i := 25) rfl)) e0 (g := (mkF m 1 #[rv a0b, rv a1, iv 0, iv 2, .val .null, .unset] [(.ref a0b)])) rfl (by rw [hml]; rfl) rfl (hb hby d16_1) (by decide) (W := 0) (by show 2 * 0 + _ ≤ _; exact Nat.le_of_eq rfl) (by decide)
  refine Go.st (f' := (mkF m 4 #[rv a0b, rv a1, iv 0, iv 2, .val .null, .unset] [])) (fun _ k => st1 _ k) ?_
  refine Go.st (f' := (mkF m 5 #[rv a0b, rv a1, iv 0, iv 2, .val .null, .unset] [(.int 2)])) (fun _ k => XS.iloadN X1.here hx rfl (hb hby d16_4) rfl k) ?_
  refine Go.st (f' := (mkF m 27 #[rv a0b, rv a1, iv 0, iv 2, .val .null, .unset] [])) (fun _ k => XS.ifYes X1.here hx rfl (pc0 := 5) (pc' := 27) rfl (hb hby d16_5) rfl (by decide) (by decide) (by decide) k) ?_
  obtain ⟨T2, X2, e2, st2⟩ := getS2 X1 hx hZ hown (host := "") (Or.inl (hw _ (List.mem_of_getElem? (i := 8) rfl))) Via.refl e1 (S_i_COMPACT_STRINGS.ext O0.2) (g := (mkF m 27 #[rv a0b, rv a1, iv 0, iv 2, .val .null, .unset] [])) rfl (hb hby d16_27)
  refine Go.st (f' := (mkF m 30 #[rv a0b, rv a1, iv 0, iv 2, .val .null, .unset] [(.int i_COMPACT_STRINGS)])) (fun _ k => st2 _ k) ?_
  refine Go.st (f' := (mkF m 33 #[rv a0b, rv a1, iv 0, iv 2, .val .null, .unset] [])) (fun _ k => XS.ifNo X2.here hx rfl (hb hby d16_30) rfl ((if0 _ _).trans (feq nz_i_COMPACT_STRINGS).1) k) ?_
  refine Go.st (f' := (mkF m 34 #[rv a0b, rv a1, iv 0, iv 2, .val .null, .unset] [(.ref a1)])) (fun _ k => XS.aloadN X2.here hx rfl (hb hby d16_33) rfl rfl k) ?_
  refine Go.st (f' := (mkF m 35 #[rv a0b, rv a1, iv 0, iv 2, .val .null, .unset] [(.int 0), (.ref a1)])) (fun _ k => XS.iloadN X2.here hx rfl (hb hby d16_34) rfl k) ?_
  refine Go.st (f' := (mkF m 36 #[rv a0b, rv a1, iv 0, iv 2, .val .null, .unset] [(.int 2), (.int 0), (.ref a1)])) (fun _ k => XS.iloadN X2.here hx rfl (hb hby d16_35) rfl k) ?_
  obtain ⟨_, _, ⟨T3, L3, kk3, nn3⟩, -, X3, ⟨Lc3, hQ3, lq3, yq3, zz3⟩, st3⟩ := Jvm.LawKit.callS X2 hx (y := (⟨"java/lang/StringUTF16", "compress", "([CII)[B"⟩ : MethodName)) hown (mvT hZ (hw _ (List.mem_of_getElem? (i := 86) rfl))) (mvT hZ (hw _ (List.mem_of_getElem? (i := 87) rfl))) (mvT hZ (hw _ (List.mem_of_getElem? (i := 88) rfl))) (mvT hZ (hw _ (List.mem_of_getElem? (i := 89) rfl))) (by decide) (own_back (W := 0) (st3_2 l Z a0 hw [] a1 k1 c0 c1 h0 n0 O0 hc_c0 hc_c1 V_a1) hZ (hw _ (List.mem_of_getElem? (i := 89) rfl)) (hw _ (List.mem_of_getElem? (i := 88) rfl)) (by decide) (by decide)) (g := (mkF m 36 #[rv a0b, rv a1, iv 0, iv 2, .val .null, .unset] [(.int 2), (.int 0), (.ref a1)])) rfl (by rw [hml]; rfl) (argsL := [(.ref a1), (.int (0 : Int32)), (.int (2 : Int32))]) (rest := []) (lenOf pd___CII__B rfl) rfl (by show 2 * 0 + _ ≤ _; exact Nat.le_of_eq rfl) (hb hby d16_36) (fun _ _ => ⟨rfl, e2, (by decide : 0 + 1 ≤ _), (by decide : 0 + 2 ≤ _)⟩)
  dsimp only [Pt.U, Pt.locs, Pt.cells, Pt.slots] at X3 lq3 yq3 zz3 st3 hQ3
  subst lq3 yq3 zz3
  obtain ⟨b3, kb3, rfl, Nq3, zq3, kq3, vq3⟩ := hQ3
  have N3 := Fr.app N0 Nq3
  have ne_a0b_b3 : a0b ≠ b3 := Nat.ne_of_lt (Nat.lt_of_lt_of_le lt_a0b zq3)
  have ne_a1_b3 : a1 ≠ b3 := Nat.ne_of_lt (Nat.lt_of_lt_of_le lt_a1 zq3)
  have ne_w_ERROR_b3 : w_ERROR ≠ b3 := Nat.ne_of_lt (Nat.lt_of_lt_of_le lt_w_ERROR (Nat.le_trans O0.2.1 zq3))
  have g_b3 : n0 ≤ b3 := Nat.le_trans (O0.1 ▸ O0.2.1) zq3
  have sz_b3 : h0.size ≤ b3 := Nat.le_trans K0.1 zq3
  have O3 : Old Z n0 T3.heap := O0.keep kq3 all0
  have K3 : Keep h0 T3.heap [a0b] := K0.trans kq3 all0
  have lt_b3 := vq3.lt
  refine Go.st (f' := (mkF m 39 #[rv a0b, rv a1, iv 0, iv 2, .val .null, .unset] [(.ref b3)])) (fun _ k => st3 _ k) ?_
  refine Go.st (f' := (mkF m 41 #[rv a0b, rv a1, iv 0, iv 2, .val .null, rv b3] [])) (fun _ k => XS.astore X3.here hx rfl (hb hby d16_39) rfl rfl (l' := #[rv a0b, rv a1, iv 0, iv 2, .val .null, rv b3]) rfl k) ?_
  refine Go.st (f' := (mkF m 42 #[rv a0b, rv a1, iv 0, iv 2, .val .null, rv b3] [(.ref a0b)])) (fun _ k => XS.aloadN X3.here hx rfl (hb hby d16_41) rfl rfl k) ?_
  refine Go.st (f' := (mkF m 44 #[rv a0b, rv a1, iv 0, iv 2, .val .null, rv b3] [(.ref b3), (.ref a0b)])) (fun _ k => XS.aload X3.here hx rfl (hb hby d16_42) rfl rfl k) ?_
  refine Go.st (f' := (mkF m 45 #[rv a0b, rv a1, iv 0, iv 2, .val .null, rv b3] [(.int 2), (.ref b3), (.ref a0b)])) (fun _ k => XS.iloadN X3.here hx rfl (hb hby d16_44) rfl k) ?_
  obtain ⟨_, _, ⟨T4, L4, kk4, nn4⟩, -, X4, ⟨Lc4, hQ4, lq4, yq4, zz4⟩, st4⟩ := Jvm.LawKit.callS X3 hx (y := (⟨"java/lang/StringUTF16", "coderFromArrayLen", "([BI)B"⟩ : MethodName)) hown (mvT hZ (hw _ (List.mem_of_getElem? (i := 93) rfl))) (mvT hZ (hw _ (List.mem_of_getElem? (i := 94) rfl))) (mvT hZ (hw _ (List.mem_of_getElem? (i := 88) rfl))) (mvT hZ (hw _ (List.mem_of_getElem? (i := 95) rfl))) (by decide) (own_back (W := 1) (stc_2 l Z a0 hw [] b3 kb3 (nar .byte (c0.toInt8.toInt32)) (nar .byte (c1.toInt8.toInt32)) T3.heap n0 O3 vq3) hZ (hw _ (List.mem_of_getElem? (i := 95) rfl)) (hw _ (List.mem_of_getElem? (i := 88) rfl)) (by decide) (by decide)) (g := (mkF m 45 #[rv a0b, rv a1, iv 0, iv 2, .val .null, rv b3] [(.int 2), (.ref b3), (.ref a0b)])) rfl (by rw [hml]; rfl) (argsL := [(.ref b3), (.int (2 : Int32))]) (rest := [(.ref a0b)]) (lenOf pd___BI_B rfl) rfl (by show 2 * 0 + _ ≤ _; exact Nat.le_of_eq rfl) (hb hby d16_45) (fun _ _ => ⟨rfl, rfl, (by decide : 1 + 0 ≤ _), (by decide : 2 + 0 ≤ _)⟩)
  dsimp only [Pt.U, Pt.locs, Pt.cells, Pt.slots] at X4 lq4 yq4 zz4 st4 hQ4
  subst lq4 yq4 zz4
  obtain ⟨rfl, Nq4, kq4⟩ := hQ4
  have N4 := Fr.app N3 Nq4
  refine Go.st (f' := (mkF m 48 #[rv a0b, rv a1, iv 0, iv 2, .val .null, rv b3] [(.int 0), (.ref a0b)])) (fun _ k => st4 _ k) ?_
  have ft5 := (E_a0b.keep kq3)
  have ft6 := (F_a0b_coder.keep kq3 nin0)
  obtain ⟨T7, h7, X7, e7, W7, st7⟩ := putFN X4 hx hZ hown (hw _ (List.mem_of_getElem? (i := 28) rfl)) Via.refl kq4 ft6 ft5 (Or.inr ⟨(hw _ (List.mem_of_getElem? (i := 29) rfl)), rfl, hnm⟩) (hw _ (List.mem_of_getElem? (i := 14) rfl)) (ty := .byte) (v' := (.int (0 : Int32))) (by decide) rfl (by decide) (g := (mkF m 48 #[rv a0b, rv a1, iv 0, iv 2, .val .null, rv b3] [(.int 0), (.ref a0b)])) rfl rfl (hb hby d16_48)
  have N7 := Fr.snoc X7 N4 g_a0b
  have O7 : Old Z n0 h7 := O3.wr W7 g_a0b
  have K7 : Keep h0 h7 [a0b] := K3.wr W7 (Or.inl (List.mem_of_getElem? (i := 0) rfl))
  have Fw7 := ft6.same W7
  refine Go.st (f' := (mkF m 51 #[rv a0b, rv a1, iv 0, iv 2, .val .null, rv b3] [])) (fun _ k => st7 _ k) ?_
  refine Go.st (f' := (mkF m 52 #[rv a0b, rv a1, iv 0, iv 2, .val .null, rv b3] [(.ref a0b)])) (fun _ k => XS.aloadN X7.here hx rfl (hb hby d16_51) rfl rfl k) ?_
  refine Go.st (f' := (mkF m 54 #[rv a0b, rv a1, iv 0, iv 2, .val .null, rv b3] [(.ref b3), (.ref a0b)])) (fun _ k => XS.aload X7.here hx rfl (hb hby d16_52) rfl rfl k) ?_
  have ft8 := (ft5.wr W7)
  have ft9 := ((F_a0b_value.keep kq3 nin0).other W7 (Or.inr (slot_ne (Or.inr (hw _ (List.mem_of_getElem? (i := 27) rfl))) (Or.inr (hw _ (List.mem_of_getElem? (i := 29) rfl))) (by decide) (t := (.array .byte)) (t' := .byte) (by decide) (by decide))))
  obtain ⟨T10, h10, X10, e10, W10, st10⟩ := putF X7 hx hZ hown (host := "") (Or.inl (hw _ (List.mem_of_getElem? (i := 26) rfl))) Via.refl e7 ft9 ft8 (Or.inr ⟨(hw _ (List.mem_of_getElem? (i := 27) rfl)), rfl, hnm⟩) (hw _ (List.mem_of_getElem? (i := 14) rfl)) (ty := (.array .byte)) (by decide) rfl rfl (g := (mkF m 54 #[rv a0b, rv a1, iv 0, iv 2, .val .null, rv b3] [(.ref b3), (.ref a0b)])) rfl rfl (hb hby d16_54)
  have N10 := Fr.snoc X10 N7 g_a0b
  have O10 : Old Z n0 h10 := O7.wr W10 g_a0b
  have K10 : Keep h0 h10 [a0b] := K7.wr W10 (Or.inl (List.mem_of_getElem? (i := 0) rfl))
  have Fw10 := ft9.same W10
  refine Go.st (f' := (mkF m 57 #[rv a0b, rv a1, iv 0, iv 2, .val .null, rv b3] [])) (fun _ k => st10 _ k) ?_
  refine Go.ret0 X10 hlk hx hret (hb hby d16_57) e10 ?_ (by decide) (by decide)
  have ft11 := (ft8.wr W10)
  have ft12 := (Fw7.other W10 (Or.inr (slot_ne (Or.inr (hw _ (List.mem_of_getElem? (i := 29) rfl))) (Or.inr (hw _ (List.mem_of_getElem? (i := 27) rfl))) (by decide) (t := .byte) (t' := (.array .byte)) (by decide) (by decide))))
  have ft13 := ((vq3.other W7 (Ne.symm ne_a0b_b3)).other W10 (Ne.symm ne_a0b_b3))
  exact ⟨rfl, N10, K10, ft11, ft12, b3, kb3, sz_b3, Fw10, ft13⟩
theorem d15_0 : decode jdk_42_method_3_code 0 = .ok (.aload_n 0, 1) := by decide +kernel
theorem d15_1 : decode jdk_42_method_3_code 1 = .ok (.aload_n 1, 1) := by decide +kernel
theorem d15_2 : decode jdk_42_method_3_code 2 = .ok (.iconst 0, 1) := by decide +kernel
theorem d15_3 : decode jdk_42_method_3_code 3 = .ok (.aload_n 1, 1) := by decide +kernel
theorem d15_4 : decode jdk_42_method_3_code 4 = .ok (.arraylength, 1) := by decide +kernel
theorem d15_5 : decode jdk_42_method_3_code 5 = .ok (.aconst_null, 1) := by decide +kernel
theorem d15_6 : decode jdk_42_method_3_code 6 = .ok (.invokespecial 27, 3) := by decide +kernel
theorem pd___CIILjava_lang_Void__V : parseMethodDescriptor "([CIILjava/lang/Void;)V" = some ⟨[(.array .char), .int, .int, (.object "java/lang/Void")], none⟩ := by decide +kernel
theorem d15_9 : decode jdk_42_method_3_code 9 = .ok (.return_, 1) := by decide +kernel
set_option maxRecDepth 65536 in
set_option maxHeartbeats 40000000 in
theorem st1_2 (l : Launch) (Z : State) (a0 : Array Value) (hw : ∀ d ∈ tables_1, d.before a0 Z = true) (ws : List Jvm.Cond) (a0b : Addr) (a1 : Addr) (k1 : ClassId) (c0 : Int32) (c1 : Int32) (w_ERROR : Addr) (i_COMPACT_STRINGS : Int32) (v_SIOOBE_FORMATTER : Value) (h0 : Heap) (n0 : Nat) (O0 : Old Z n0 h0) (hc_c0 : ¬ (255 : Int32) < c0) (hc_c1 : ¬ (255 : Int32) < c1) (g_a0b : n0 ≤ a0b) (nb1 : a0b ≠ a1) (E_a0b : Exa Z h0 a0b "java/lang/String") (F_a0b_coder : Fld Z h0 a0b "java/lang/String" "coder" "B" (.int 0)) (F_a0b_value : Fld Z h0 a0b "java/lang/String" "value" "[B" .null) (V_a1 : Arv Z h0 a1 k1 .char (2 : Int32) [(.int c0), (.int c1)] (.int 0)) (WW : World1 Z w_ERROR i_COMPACT_STRINGS v_SIOOBE_FORMATTER) :
    Con l Z (⟨"java/lang/String", "<init>", "([C)V"⟩ : MethodName) jdk_42_method_3_code 2 none ws ({ frames := 3, cells := 1, slots := 2, locals := 52 } : Room) #[(.ref a0b), (.ref a1)] h0 (fun v h L => v = none ∧ Fr n0 L ∧ Keep h0 h [a0b] ∧ Exa Z h a0b "java/lang/String" ∧ Fld Z h a0b "java/lang/String" "coder" "B" (.int 0) ∧ ∃ (t : Addr) (kt : ClassId), h0.size ≤ t ∧ Fld Z h a0b "java/lang/String" "value" "[B" (.ref t) ∧ Arv Z h t kt .byte (2 : Int32) [(.int (nar .byte (c0.toInt8.toInt32))), (.int (nar .byte (c1.toInt8.toInt32)))] (.int 0)) := by
  refine own_body (plainFor_of_name pn_java_lang_String) ?_
  intro p e s m below meth c s₁ hx hby hml hZ hown hnm hlk hret X0 e0
  have N0 := Fr.nil n0
  have K0 : Keep h0 h0 [a0b] := Keep.refl _ _
  refine Go.st (T' := s₁) (f' := (mkF m 0 #[rv a0b, rv a1] [])) (fun _ k => castTop (by first | (simp [entryFrame, mkF, argsToLocals, Value.category]; done) | rfl) k) ?_
  have ⟨S_i_COMPACT_STRINGS, nz_i_COMPACT_STRINGS, S_v_SIOOBE_FORMATTER, r_v_SIOOBE_FORMATTER, S_w_ERROR, E_w_ERROR⟩ := WW
  have lt_w_ERROR := E_w_ERROR.lt
  have lt_a0b := E_a0b.lt
  have ne_w_ERROR_a0b : w_ERROR ≠ a0b := O0.ne lt_w_ERROR g_a0b
  have lt_a1 := V_a1.lt
  refine Go.st (f' := (mkF m 1 #[rv a0b, rv a1] [(.ref a0b)])) (fun _ k => XS.aloadN X0.here hx rfl (hb hby d15_0) rfl rfl k) ?_
  refine Go.st (f' := (mkF m 2 #[rv a0b, rv a1] [(.ref a1), (.ref a0b)])) (fun _ k => XS.aloadN X0.here hx rfl (hb hby d15_1) rfl rfl k) ?_
  refine Go.st (f' := (mkF m 3 #[rv a0b, rv a1] [(.int 0), (.ref a1), (.ref a0b)])) (fun _ k => XS.iconst X0.here hx rfl (hb hby d15_2) k) ?_
  refine Go.st (f' := (mkF m 4 #[rv a0b, rv a1] [(.ref a1), (.int 0), (.ref a1), (.ref a0b)])) (fun _ k => XS.aloadN X0.here hx rfl (hb hby d15_3) rfl rfl k) ?_
  obtain ⟨cl1, Ar1, -, S1, Nx1, -, -⟩ := id V_a1
  refine Go.st (T' := s₁) (f' := (mkF m 5 #[rv a0b, rv a1] [(.int 2), (.int 0), (.ref a1), (.ref a0b)])) (fun _ k => X0.arraylength hx (by rw [e0]; exact Ar1.1) (State.isArrayOf_alike hZ.alike Ar1.2.1) (g := (mkF m 4 #[rv a0b, rv a1] [(.ref a1), (.int 0), (.ref a1), (.ref a0b)])) rfl rfl (hb hby d15_4) _ (by rw [len_of S1 Nx1]; exact k)) ?_
  refine Go.st (f' := (mkF m 6 #[rv a0b, rv a1] [.null, (.int 2), (.int 0), (.ref a1), (.ref a0b)])) (fun _ k => XS.aconstNull X0.here hx rfl (hb hby d15_5) k) ?_
  obtain ⟨_, _, ⟨T2, L2, kk2, nn2⟩, -, X2, ⟨Lc2, hQ2, lq2, yq2, zz2⟩, st2⟩ := X0.specialBack hx (y := (⟨"java/lang/String", "<init>", "([CIILjava/lang/Void;)V"⟩ : MethodName)) rfl hown (mvT hZ (hw _ (List.mem_of_getElem? (i := 83) rfl))) (mvT hZ (hw _ (List.mem_of_getElem? (i := 84) rfl))) (mvT hZ (hw _ (List.mem_of_getElem? (i := 85) rfl))) (by decide) (own_back (W := 0) (stv_2 l Z a0 hw [] a0b a1 k1 c0 c1 w_ERROR i_COMPACT_STRINGS v_SIOOBE_FORMATTER h0 n0 O0 hc_c0 hc_c1 g_a0b nb1 E_a0b F_a0b_coder F_a0b_value V_a1 WW) hZ (hw _ (List.mem_of_getElem? (i := 85) rfl)) (hw _ (List.mem_of_getElem? (i := 6) rfl)) (by decide) (by decide)) (g := (mkF m 6 #[rv a0b, rv a1] [.null, (.int 2), (.int 0), (.ref a1), (.ref a0b)])) rfl (by rw [hml]; rfl) (Steps.refl _) (a := a0b) (argsL := [(.ref a1), (.int (0 : Int32)), (.int (2 : Int32)), .null]) (rest := []) (lenOf pd___CIILjava_lang_Void__V rfl) rfl (by show 2 * 0 + _ ≤ _; exact Nat.le_of_eq rfl) (hb hby d15_6) (fun _ _ => ⟨rfl, e0, (by decide : 0 + 1 ≤ _), (by decide : 0 + 2 ≤ _)⟩)
  dsimp only [Pt.U, Pt.locs, Pt.cells, Pt.slots] at X2 lq2 yq2 zz2 st2 hQ2
  subst lq2 yq2 zz2
  obtain ⟨rfl, Nq2, kq2, eq2, cq2, tt2, kt2, zq2, fq2, vq2⟩ := hQ2
  have N2 := Fr.app N0 Nq2
  have ne_a0b_tt2 : a0b ≠ tt2 := Nat.ne_of_lt (Nat.lt_of_lt_of_le lt_a0b zq2)
  have ne_a1_tt2 : a1 ≠ tt2 := Nat.ne_of_lt (Nat.lt_of_lt_of_le lt_a1 zq2)
  have ne_w_ERROR_tt2 : w_ERROR ≠ tt2 := Nat.ne_of_lt (Nat.lt_of_lt_of_le lt_w_ERROR (Nat.le_trans O0.2.1 zq2))
  have g_tt2 : n0 ≤ tt2 := Nat.le_trans (O0.1 ▸ O0.2.1) zq2
  have sz_tt2 : h0.size ≤ tt2 := Nat.le_trans K0.1 zq2
  have O2 : Old Z n0 T2.heap := O0.keep kq2 (allS g_a0b all0)
  have K2 : Keep h0 T2.heap [a0b] := K0.trans kq2 (allS (Or.inl (List.mem_of_getElem? (i := 0) rfl)) all0)
  have lt_tt2 := vq2.lt
  refine Go.tr (f' := (mkF m 9 #[rv a0b, rv a1] [])) st2 ?_
  refine Go.ret0 X2 hlk hx hret (hb hby d15_9) rfl ?_ (by decide) (by decide)
  exact ⟨rfl, N2, K2, eq2, cq2, tt2, kt2, sz_tt2, fq2, vq2⟩
theorem own_neArv {Z : State} {h : Heap} {a b : Addr} {k1 k2 : ClassId} {t1 t2 : FieldType} {z1 z2 : Int32} {v1 v2 : List Value} {d1 d2 : Value} (A : Arv Z h a k1 t1 z1 v1 d1) (B : Arv Z h b k2 t2 z2 v2 d2) (q : t1 ≠ t2) : a ≠ b := fun e => by
  subst e
  obtain ⟨c, ⟨c1, ⟨-, k, c2, comp, c3⟩, -⟩, -⟩ := A
  obtain ⟨c', ⟨d1, ⟨-, k', d2, comp', d3⟩, -⟩, -⟩ := B
  cases c1.symm.trans d1
  cases c2.symm.trans d2
  have := c3.symm.trans d3
  injection this with _ e
  exact q e

theorem d16_8 : decode jdk_42_method_149_code 8 = .ok (.aload_n 0, 1) := by decide +kernel
theorem d16_9 : decode jdk_42_method_149_code 9 = .ok (.ldc 7, 2) := by decide +kernel
theorem d16_11 : decode jdk_42_method_149_code 11 = .ok (.getfield 9, 3) := by decide +kernel
theorem d16_14 : decode jdk_42_method_149_code 14 = .ok (.putfield 9, 3) := by decide +kernel
theorem d16_17 : decode jdk_42_method_149_code 17 = .ok (.aload_n 0, 1) := by decide +kernel
theorem d16_18 : decode jdk_42_method_149_code 18 = .ok (.ldc 7, 2) := by decide +kernel
theorem d16_20 : decode jdk_42_method_149_code 20 = .ok (.getfield 15, 3) := by decide +kernel
theorem d16_23 : decode jdk_42_method_149_code 23 = .ok (.putfield 15, 3) := by decide +kernel
theorem d16_26 : decode jdk_42_method_149_code 26 = .ok (.return_, 1) := by decide +kernel
set_option maxRecDepth 65536 in
set_option maxHeartbeats 40000000 in
theorem sv_0 (l : Launch) (Z : State) (a0 : Array Value) (hw : ∀ d ∈ tables_1, d.before a0 Z = true) (ws : List Jvm.Cond) (a0b : Addr) (a1 : Addr) (w_ERROR : Addr) (i_COMPACT_STRINGS : Int32) (v_SIOOBE_FORMATTER : Value) (h0 : Heap) (n0 : Nat) (O0 : Old Z n0 h0) (g_a0b : n0 ≤ a0b) (E_a0b : Exa Z h0 a0b "java/lang/String") (F_a0b_coder : Fld Z h0 a0b "java/lang/String" "coder" "B" (.int 0)) (F_a0b_value : Fld Z h0 a0b "java/lang/String" "value" "[B" .null) (WW : World1 Z w_ERROR i_COMPACT_STRINGS v_SIOOBE_FORMATTER) :
    ConW l Z EL (⟨"java/lang/String", "<init>", "([CIILjava/lang/Void;)V"⟩ : MethodName) jdk_42_method_149_code 6 none ws ({ frames := 1, cells := 4, slots := 8, locals := 12 } : Room) #[(.ref a0b), (.ref a1), (.int 0), (.int 0), .null] h0 (fun v h L => v = none ∧ Fr n0 L ∧ Keep h0 h [a0b] ∧ Exa Z h a0b "java/lang/String" ∧ Fld Z h a0b "java/lang/String" "coder" "B" (.int 0) ∧ ∃ (t : Addr) (kt : ClassId), Fld Z h a0b "java/lang/String" "value" "[B" (.ref t) ∧ Arv Z h t kt .byte (0 : Int32) [] (.int 0)) := by
  refine own_bodyW (plainFor_of_name pn_java_lang_String) ?_
  intro p e s m below meth c s₁ hx hby hml hZ hown hnm hlk hret X0 e0 hh hS CR0
  have hEL := own_EL hw
  have wS := own_wS hw
  have N0 := Fr.nil n0
  have K0 : Keep h0 h0 [a0b] := Keep.refl _ _
  refine Go.st (T' := s₁) (f' := (mkF m 0 #[rv a0b, rv a1, iv 0, iv 0, .val .null, .unset] [])) (fun _ k => castTop (by first | (simp [entryFrame, mkF, argsToLocals, Value.category]; done) | rfl) k) ?_
  have ⟨S_i_COMPACT_STRINGS, nz_i_COMPACT_STRINGS, S_v_SIOOBE_FORMATTER, r_v_SIOOBE_FORMATTER, S_w_ERROR, E_w_ERROR⟩ := WW
  have lt_w_ERROR := E_w_ERROR.lt
  have lt_a0b := E_a0b.lt
  have ne_w_ERROR_a0b : w_ERROR ≠ a0b := O0.ne lt_w_ERROR g_a0b
  have sf_a0b : Safe Z EL s.vm h0 a0b := own_safe0 hZ.alike E_a0b F_a0b_value
  refine Go.st (f' := (mkF m 1 #[rv a0b, rv a1, iv 0, iv 0, .val .null, .unset] [(.ref a0b)])) (fun _ k => XS.aloadN X0.here hx rfl (hb hby d16_0) rfl rfl k) ?_
  obtain ⟨T1, X1, e1, st1⟩ := initO X0 hx hZ hown (hw _ (List.mem_of_getElem? (i := 23) rfl)) (hw _ (List.mem_of_getElem? (i := 24) rfl)) (hw _ (List.mem_of_getElem? (i := 25) rfl)) e0 (g := (mkF m 1 #[rv a0b, rv a1, iv 0, iv 0, .val .null, .unset] [(.ref a0b)])) rfl (by rw [hml]; rfl) rfl (hb hby d16_1) (by decide) (W := 0) (by show 2 * 0 + _ ≤ _; exact Nat.le_of_eq rfl) (by decide)
  refine Go.st (f' := (mkF m 4 #[rv a0b, rv a1, iv 0, iv 0, .val .null, .unset] [])) (fun _ k => st1 _ k) ?_
  refine Go.st (f' := (mkF m 5 #[rv a0b, rv a1, iv 0, iv 0, .val .null, .unset] [(.int 0)])) (fun _ k => XS.iloadN X1.here hx rfl (hb hby d16_4) rfl k) ?_
  refine Go.st (f' := (mkF m 8 #[rv a0b, rv a1, iv 0, iv 0, .val .null, .unset] [])) (fun _ k => XS.ifNo X1.here hx rfl (hb hby d16_5) rfl (by decide) k) ?_
  refine Go.st (f' := (mkF m 9 #[rv a0b, rv a1, iv 0, iv 0, .val .null, .unset] [(.ref a0b)])) (fun _ k => XS.aloadN X1.here hx rfl (hb hby d16_8) rfl rfl k) ?_
  obtain ⟨b2, T2, h2, k12, t2, kt2, X2, e2, E2, hS2, hk2, hZ2, hown2, A2, cq2, fq2, vq2, lt_b2, lt_t2, crw2, -, sfx2, st2⟩ := ldcCH (EL := EL) X1 hx hZ hown (hw _ (List.mem_of_getElem? (i := 96) rfl)) wS e1 hS (Nat.zero_le _) hEL (List.mem_of_getElem? (i := 0) rfl) CR0.1 (vs := []) (z := (0 : Int32)) ⟨by decide, by decide⟩ (by decide) rfl (g := (mkF m 9 #[rv a0b, rv a1, iv 0, iv 0, .val .null, .unset] [(.ref a0b)])) rfl (hb hby d16_9) (n := 0) (by decide) (by decide) (by decide) (by decide)
  have O2 : Old Z n0 h2 := O0.ext E2
  have K2 : Keep h0 h2 [a0b] := K0.ext E2
  have sf3 := crw2.safe lt_a0b sf_a0b
  have CR2 := CR0.trans crw2
  refine Go.st (f' := (mkF m 11 #[rv a0b, rv a1, iv 0, iv 0, .val .null, .unset] [(.ref b2), (.ref a0b)])) (fun _ k => st2 _ k) ?_
  obtain ⟨T4, X4, e4, st4⟩ := getF X2 hx hZ2 hown2 (host := "") (Or.inl (hw _ (List.mem_of_getElem? (i := 26) rfl))) Via.refl e2 fq2 (g := (mkF m 11 #[rv a0b, rv a1, iv 0, iv 0, .val .null, .unset] [(.ref b2), (.ref a0b)])) rfl rfl (hb hby d16_11)
  refine Go.st (f' := (mkF m 14 #[rv a0b, rv a1, iv 0, iv 0, .val .null, .unset] [(.ref t2), (.ref a0b)])) (fun _ k => st4 _ k) ?_
  have ft5 := (E_a0b.ext E2)
  have ft6 := (F_a0b_value.ext E2)
  obtain ⟨T7, h7, X7, e7, W7, st7⟩ := putF X4 hx hZ2 hown2 (host := "") (Or.inl (hw _ (List.mem_of_getElem? (i := 26) rfl))) Via.refl e4 ft6 ft5 (Or.inr ⟨(hw _ (List.mem_of_getElem? (i := 27) rfl)), rfl, hnm⟩) (hw _ (List.mem_of_getElem? (i := 14) rfl)) (ty := (.array .byte)) (by decide) rfl rfl (g := (mkF m 14 #[rv a0b, rv a1, iv 0, iv 0, .val .null, .unset] [(.ref t2), (.ref a0b)])) rfl rfl (hb hby d16_14)
  have N7 := Fr.snoc X7 N0 g_a0b
  have O7 : Old Z n0 h7 := O2.wr W7 g_a0b
  have K7 : Keep h0 h7 [a0b] := K2.wr W7 (Or.inl (List.mem_of_getElem? (i := 0) rfl))
  have CR7 : CHr Z EL s.vm h0 T2.vm h7 := CR2.trans (CHr.wr W7 sf3 CR2.1)
  have Fw7 := ft6.same W7
  refine Go.st (f' := (mkF m 17 #[rv a0b, rv a1, iv 0, iv 0, .val .null, .unset] [])) (fun _ k => st7 _ k) ?_
  refine Go.st (f' := (mkF m 18 #[rv a0b, rv a1, iv 0, iv 0, .val .null, .unset] [(.ref a0b)])) (fun _ k => XS.aloadN X7.here hx rfl (hb hby d16_17) rfl rfl k) ?_
  have ft9 := (Nat.le_trans hk2 (Nat.le_of_eq W7.size.symm))
  obtain ⟨b8, T8, h8, k18, t8, kt8, X8, e8, E8, hS8, hk8, hZ8, hown8, A8, cq8, fq8, vq8, lt_b8, lt_t8, crw8, -, sfx8, st8⟩ := ldcCH (EL := EL) X7 hx hZ2 hown2 (hw _ (List.mem_of_getElem? (i := 96) rfl)) wS e7 hS2 ft9 hEL (List.mem_of_getElem? (i := 0) rfl) CR7.1 (vs := []) (z := (0 : Int32)) ⟨by decide, by decide⟩ (by decide) rfl (g := (mkF m 18 #[rv a0b, rv a1, iv 0, iv 0, .val .null, .unset] [(.ref a0b)])) rfl (hb hby d16_18) (n := 0) (by decide) (by decide) (by decide) (by decide)
  have ft10 := (Safe.wr W7 sf3 CR2.1 sf3)
  have ft11 := (Nat.lt_of_lt_of_eq (Nat.lt_of_lt_of_le lt_a0b E2.1) W7.size.symm)
  have O8 : Old Z n0 h8 := O7.ext E8
  have K8 : Keep h0 h8 [a0b] := K7.ext E8
  have sf12 := crw8.safe ft11 ft10
  have CR8 := CR7.trans crw8
  refine Go.st (f' := (mkF m 20 #[rv a0b, rv a1, iv 0, iv 0, .val .null, .unset] [(.ref b8), (.ref a0b)])) (fun _ k => st8 _ k) ?_
  obtain ⟨T13, X13, e13, st13⟩ := getF X8 hx hZ8 hown8 (host := "") (Or.inl (hw _ (List.mem_of_getElem? (i := 28) rfl))) Via.refl e8 cq8 (g := (mkF m 20 #[rv a0b, rv a1, iv 0, iv 0, .val .null, .unset] [(.ref b8), (.ref a0b)])) rfl rfl (hb hby d16_20)
  refine Go.st (f' := (mkF m 23 #[rv a0b, rv a1, iv 0, iv 0, .val .null, .unset] [(.int 0), (.ref a0b)])) (fun _ k => st13 _ k) ?_
  have ft14 := ((ft5.wr W7).ext E8)
  have ft15 := (((F_a0b_coder.ext E2).other W7 (Or.inr (slot_ne (Or.inr (hw _ (List.mem_of_getElem? (i := 29) rfl))) (Or.inr (hw _ (List.mem_of_getElem? (i := 27) rfl))) (by decide) (t := .byte) (t' := (.array .byte)) (by decide) (by decide)))).ext E8)
  obtain ⟨T16, h16, X16, e16, W16, st16⟩ := putFN X13 hx hZ8 hown8 (hw _ (List.mem_of_getElem? (i := 28) rfl)) Via.refl e13 ft15 ft14 (Or.inr ⟨(hw _ (List.mem_of_getElem? (i := 29) rfl)), rfl, hnm⟩) (hw _ (List.mem_of_getElem? (i := 14) rfl)) (ty := .byte) (v' := (.int (0 : Int32))) (by decide) rfl (by decide) (g := (mkF m 23 #[rv a0b, rv a1, iv 0, iv 0, .val .null, .unset] [(.int 0), (.ref a0b)])) rfl rfl (hb hby d16_23)
  have N16 := Fr.snoc X16 N7 g_a0b
  have O16 : Old Z n0 h16 := O8.wr W16 g_a0b
  have K16 : Keep h0 h16 [a0b] := K8.wr W16 (Or.inl (List.mem_of_getElem? (i := 0) rfl))
  have CR16 : CHr Z EL s.vm h0 T8.vm h16 := CR8.trans (CHr.wr W16 sf12 CR8.1)
  have Fw16 := ft15.same W16
  refine Go.st (f' := (mkF m 26 #[rv a0b, rv a1, iv 0, iv 0, .val .null, .unset] [])) (fun _ k => st16 _ k) ?_
  have ft17 := (Nat.le_trans hk8 (Nat.le_of_eq W16.size.symm))
  refine GoW.ret0 X16 hlk hx hret (hb hby d16_26) e16 hS8 ft17 hZ8 hEL CR16 hh ?_ (by decide) (by decide)
  have ft18 := (ft14.wr W16)
  have ft19 := ((Fw7.ext E8).other W16 (Or.inr (slot_ne (Or.inr (hw _ (List.mem_of_getElem? (i := 27) rfl))) (Or.inr (hw _ (List.mem_of_getElem? (i := 29) rfl))) (by decide) (t := (.array .byte)) (t' := .byte) (by decide) (by decide))))
  have ft20 := (((vq2.other W7 (Ne.symm (sfx2 _ sf3).2)).ext E8).other W16 (Ne.symm (sfx2 _ sf3).2))
  exact ⟨rfl, N16, K16, ft18, Fw16, t2, kt2, ft19, ft20⟩
set_option maxRecDepth 65536 in
set_option maxHeartbeats 40000000 in
theorem s1_0 (l : Launch) (Z : State) (a0 : Array Value) (hw : ∀ d ∈ tables_1, d.before a0 Z = true) (ws : List Jvm.Cond) (a0b : Addr) (a1 : Addr) (k1 : ClassId) (w_ERROR : Addr) (i_COMPACT_STRINGS : Int32) (v_SIOOBE_FORMATTER : Value) (h0 : Heap) (n0 : Nat) (O0 : Old Z n0 h0) (g_a0b : n0 ≤ a0b) (E_a0b : Exa Z h0 a0b "java/lang/String") (F_a0b_coder : Fld Z h0 a0b "java/lang/String" "coder" "B" (.int 0)) (F_a0b_value : Fld Z h0 a0b "java/lang/String" "value" "[B" .null) (V_a1 : Arv Z h0 a1 k1 .char (0 : Int32) [] (.int 0)) (WW : World1 Z w_ERROR i_COMPACT_STRINGS v_SIOOBE_FORMATTER) :
    ConW l Z EL (⟨"java/lang/String", "<init>", "([C)V"⟩ : MethodName) jdk_42_method_3_code 2 none ws ({ frames := 2, cells := 4, slots := 8, locals := 29 } : Room) #[(.ref a0b), (.ref a1)] h0 (fun v h L => v = none ∧ Fr n0 L ∧ Keep h0 h [a0b] ∧ Exa Z h a0b "java/lang/String" ∧ Fld Z h a0b "java/lang/String" "coder" "B" (.int 0) ∧ ∃ (t : Addr) (kt : ClassId), Fld Z h a0b "java/lang/String" "value" "[B" (.ref t) ∧ Arv Z h t kt .byte (0 : Int32) [] (.int 0)) := by
  refine own_bodyW (plainFor_of_name pn_java_lang_String) ?_
  intro p e s m below meth c s₁ hx hby hml hZ hown hnm hlk hret X0 e0 hh hS CR0
  have hEL := own_EL hw
  have wS := own_wS hw
  have N0 := Fr.nil n0
  have K0 : Keep h0 h0 [a0b] := Keep.refl _ _
  refine Go.st (T' := s₁) (f' := (mkF m 0 #[rv a0b, rv a1] [])) (fun _ k => castTop (by first | (simp [entryFrame, mkF, argsToLocals, Value.category]; done) | rfl) k) ?_
  have ⟨S_i_COMPACT_STRINGS, nz_i_COMPACT_STRINGS, S_v_SIOOBE_FORMATTER, r_v_SIOOBE_FORMATTER, S_w_ERROR, E_w_ERROR⟩ := WW
  have lt_w_ERROR := E_w_ERROR.lt
  have lt_a0b := E_a0b.lt
  have ne_w_ERROR_a0b : w_ERROR ≠ a0b := O0.ne lt_w_ERROR g_a0b
  have sf_a0b : Safe Z EL s.vm h0 a0b := own_safe0 hZ.alike E_a0b F_a0b_value
  have lt_a1 := V_a1.lt
  have nt_a0b_a1 : a0b ≠ a1 := Exa.neArv E_a0b V_a1 (hw _ (List.mem_of_getElem? (i := 14) rfl))
  refine Go.st (f' := (mkF m 1 #[rv a0b, rv a1] [(.ref a0b)])) (fun _ k => XS.aloadN X0.here hx rfl (hb hby d15_0) rfl rfl k) ?_
  refine Go.st (f' := (mkF m 2 #[rv a0b, rv a1] [(.ref a1), (.ref a0b)])) (fun _ k => XS.aloadN X0.here hx rfl (hb hby d15_1) rfl rfl k) ?_
  refine Go.st (f' := (mkF m 3 #[rv a0b, rv a1] [(.int 0), (.ref a1), (.ref a0b)])) (fun _ k => XS.iconst X0.here hx rfl (hb hby d15_2) k) ?_
  refine Go.st (f' := (mkF m 4 #[rv a0b, rv a1] [(.ref a1), (.int 0), (.ref a1), (.ref a0b)])) (fun _ k => XS.aloadN X0.here hx rfl (hb hby d15_3) rfl rfl k) ?_
  obtain ⟨cl1, Ar1, -, S1, Nx1, -, -⟩ := id V_a1
  refine Go.st (T' := s₁) (f' := (mkF m 5 #[rv a0b, rv a1] [(.int 0), (.int 0), (.ref a1), (.ref a0b)])) (fun _ k => X0.arraylength hx (by rw [e0]; exact Ar1.1) (State.isArrayOf_alike hZ.alike Ar1.2.1) (g := (mkF m 4 #[rv a0b, rv a1] [(.ref a1), (.int 0), (.ref a1), (.ref a0b)])) rfl rfl (hb hby d15_4) _ (by rw [len_of S1 Nx1]; exact k)) ?_
  refine Go.st (f' := (mkF m 6 #[rv a0b, rv a1] [.null, (.int 0), (.int 0), (.ref a1), (.ref a0b)])) (fun _ k => XS.aconstNull X0.here hx rfl (hb hby d15_5) k) ?_
  obtain ⟨_, _, ⟨T2, L2, kk2, nn2⟩, -, Xw2, hSw2, hgw2, ⟨Lc2, hQ2, lq2, yq2, zz2, crw2⟩, st2⟩ := X0.specialBackS hx (y := (⟨"java/lang/String", "<init>", "([CIILjava/lang/Void;)V"⟩ : MethodName)) rfl hown (mvT hZ (hw _ (List.mem_of_getElem? (i := 83) rfl))) (mvT hZ (hw _ (List.mem_of_getElem? (i := 84) rfl))) (mvT hZ (hw _ (List.mem_of_getElem? (i := 85) rfl))) (by decide) (own_backW (W := 0) (sv_0 l Z a0 hw [] a0b a1 w_ERROR i_COMPACT_STRINGS v_SIOOBE_FORMATTER h0 n0 O0 g_a0b E_a0b F_a0b_coder F_a0b_value WW) hZ (hw _ (List.mem_of_getElem? (i := 85) rfl)) (hw _ (List.mem_of_getElem? (i := 6) rfl)) (by decide) (by decide) hEL CR0.1) (g := (mkF m 6 #[rv a0b, rv a1] [.null, (.int 0), (.int 0), (.ref a1), (.ref a0b)])) rfl (by rw [hml]; rfl) (Steps.refl _) (a := a0b) (argsL := [(.ref a1), (.int (0 : Int32)), (.int (0 : Int32)), .null]) (rest := []) (lenOf pd___CIILjava_lang_Void__V rfl) rfl (by show 2 * 0 + _ ≤ _; exact Nat.le_of_eq rfl) (hb hby d15_6) (fun _ _ => ⟨rfl, e0, (by decide : 0 + 4 ≤ _), (by decide : 0 + 8 ≤ _)⟩)
  dsimp only [Pt.U, Pt.locs, Pt.cells, Pt.slots] at Xw2 lq2 yq2 zz2 st2 hQ2 hSw2 hgw2 crw2
  subst lq2 yq2 zz2
  obtain ⟨X2, hS2, hZ2, hown2⟩ := rebS hS (by rw [e0]; exact (Nat.zero_le _)) Xw2 hSw2 hgw2 hZ hown
  obtain ⟨rfl, Nq2, kq2, eq2, cq2, tt2, kt2, fq2, vq2⟩ := hQ2
  have N2 := Fr.app N0 Nq2
  have O2 : Old Z n0 T2.heap := O0.keep kq2 (allS g_a0b all0)
  have K2 : Keep h0 T2.heap [a0b] := K0.trans kq2 (allS (Or.inl (List.mem_of_getElem? (i := 0) rfl)) all0)
  have lt_tt2 := vq2.lt
  have nt_a0b_tt2 : a0b ≠ tt2 := Exa.neArv eq2 vq2 (hw _ (List.mem_of_getElem? (i := 14) rfl))
  have ft3 := (V_a1.keep kq2 (ninS (Ne.symm nt_a0b_a1) nin0))
  have nt_a1_tt2 : a1 ≠ tt2 := own_neArv ft3 vq2 (by decide)
  have hk2 : T2.heap.size ≤ T2.heap.size := Nat.le_refl _
  have sf4 := crw2.safe lt_a0b sf_a0b
  have CR2 := CR0.trans crw2
  refine Go.tr (f' := (mkF m 9 #[rv a0b, rv a1] [])) st2 ?_
  refine GoW.ret0 X2 hlk hx hret (hb hby d15_9) rfl hS2 hk2 hZ2 hEL CR2 hh ?_ (by decide) (by decide)
  exact ⟨rfl, N2, K2, eq2, cq2, tt2, kt2, fq2, vq2⟩
theorem pn_java_lang_StringLatin1 : plainName "java/lang/StringLatin1" = true := by first | (simp [plainName, overriddenIn]; done) | decide +kernel
theorem d3_0 : decode jdk_43_method_3_code 0 = .ok (.iload_n 0, 1) := by decide +kernel
theorem d3_1 : decode jdk_43_method_3_code 1 = .ok (.sipush 255, 3) := by decide +kernel
theorem d3_4 : decode jdk_43_method_3_code 4 = .ok (.if_icmp .gt 7, 3) := by decide +kernel
theorem d3_7 : decode jdk_43_method_3_code 7 = .ok (.iconst 1, 1) := by decide +kernel
theorem d3_8 : decode jdk_43_method_3_code 8 = .ok (.goto 4, 3) := by decide +kernel
theorem d3_12 : decode jdk_43_method_3_code 12 = .ok (.ireturn, 1) := by decide +kernel
set_option maxRecDepth 65536 in
set_option maxHeartbeats 40000000 in
theorem st_enc (l : Launch) (Z : State) (a0 : Array Value) (hw : ∀ d ∈ tables_1, d.before a0 Z = true) (ws : List Jvm.Cond) (c0 : Int32) (h0 : Heap) (n0 : Nat) (O0 : Old Z n0 h0) (hc_c0 : ¬ (255 : Int32) < c0) :
    Con l Z (⟨"java/lang/StringLatin1", "canEncode", "(C)Z"⟩ : MethodName) jdk_43_method_3_code 1 (some .boolean) ws ({ frames := 0, cells := 0, slots := 0, locals := 0 } : Room) #[(.int c0)] h0 (fun v h L => v = some (.int 1) ∧ Fr n0 L ∧ h = h0) := by
  refine own_body (plainFor_of_name pn_java_lang_StringLatin1) ?_
  intro p e s m below meth c s₁ hx hby hml hZ hown hnm hlk hret X0 e0
  have N0 := Fr.nil n0
  refine Go.st (T' := s₁) (f' := (mkF m 0 #[iv c0] [])) (fun _ k => castTop (by first | (simp [entryFrame, mkF, argsToLocals, Value.category]; done) | rfl) k) ?_
  refine Go.st (f' := (mkF m 1 #[iv c0] [(.int c0)])) (fun _ k => XS.iloadN X0.here hx rfl (hb hby d3_0) rfl k) ?_
  refine Go.st (f' := (mkF m 4 #[iv c0] [(.int 255), (.int c0)])) (fun _ k => XS.sipush X0.here hx rfl (hb hby d3_1) k) ?_
  refine Go.st (f' := (mkF m 7 #[iv c0] [])) (fun _ k => XS.icmpNo X0.here hx rfl (hb hby d3_4) rfl (flt hc_c0).2.2.1 k) ?_
  refine Go.st (f' := (mkF m 8 #[iv c0] [(.int 1)])) (fun _ k => XS.iconst X0.here hx rfl (hb hby d3_7) k) ?_
  refine Go.st (f' := (mkF m 12 #[iv c0] [(.int 1)])) (fun _ k => XS.goto X0.here hx rfl (pc0 := 8) (pc' := 12) rfl (hb hby d3_8) (by decide) (by decide) k) ?_
  refine Go.retB X0 hlk hx (t := .boolean) hret (by simp) (hb hby d3_12) e0 ?_ (by decide) (by decide)
  exact ⟨rfl, N0, rfl⟩
theorem d4_0 : decode jdk_43_method_46_code 0 = .ok (.iconst 1, 1) := by decide +kernel
theorem d4_1 : decode jdk_43_method_46_code 1 = .ok (.newarray .byte, 2) := by decide +kernel
theorem d4_3 : decode jdk_43_method_46_code 3 = .ok (.dup, 1) := by decide +kernel
theorem d4_4 : decode jdk_43_method_46_code 4 = .ok (.iconst 0, 1) := by decide +kernel
theorem d4_5 : decode jdk_43_method_46_code 5 = .ok (.iload_n 0, 1) := by decide +kernel
theorem d4_6 : decode jdk_43_method_46_code 6 = .ok (.i2b, 1) := by decide +kernel
theorem d4_7 : decode jdk_43_method_46_code 7 = .ok (.bastore, 1) := by decide +kernel
theorem d4_8 : decode jdk_43_method_46_code 8 = .ok (.areturn, 1) := by decide +kernel
set_option maxRecDepth 65536 in
set_option maxHeartbeats 40000000 in
theorem st_tob (l : Launch) (Z : State) (a0 : Array Value) (hw : ∀ d ∈ tables_1, d.before a0 Z = true) (ws : List Jvm.Cond) (c0 : Int32) (h0 : Heap) (n0 : Nat) (O0 : Old Z n0 h0)  :
    Con l Z (⟨"java/lang/StringLatin1", "toBytes", "(C)[B"⟩ : MethodName) jdk_43_method_46_code 1 (some (.array .byte)) ws ({ frames := 0, cells := 1, slots := 1, locals := 0 } : Room) #[(.int c0)] h0 (fun v h L => ∃ (b : Addr) (kb : ClassId), v = some (.ref b) ∧ Fr n0 L ∧ h0.size ≤ b ∧ Keep h0 h [] ∧ Arv Z h b kb .byte (1 : Int32) [(.int (nar .byte (c0.toInt8.toInt32)))] (.int 0)) := by
  refine own_body (plainFor_of_name pn_java_lang_StringLatin1) ?_
  intro p e s m below meth c s₁ hx hby hml hZ hown hnm hlk hret X0 e0
  have N0 := Fr.nil n0
  have K0 : Keep h0 h0 [] := Keep.refl _ _
  refine Go.st (T' := s₁) (f' := (mkF m 0 #[iv c0] [])) (fun _ k => castTop (by first | (simp [entryFrame, mkF, argsToLocals, Value.category]; done) | rfl) k) ?_
  refine Go.st (f' := (mkF m 1 #[iv c0] [(.int 1)])) (fun _ k => XS.iconst X0.here hx rfl (hb hby d4_0) k) ?_
  obtain ⟨T1, h1, kc1, X1, e1, E1, A1, st1⟩ := newP X0 hx hZ (hw _ (List.mem_of_getElem? (i := 18) rfl)) e0 (g := (mkF m 1 #[iv c0] [(.int 1)])) rfl (hb hby d4_1) rfl (by decide) (cap := 1) (by decide) (by decide) (by decide) (by decide)
  obtain ⟨b1, g1⟩ : ∃ z, z = h0.size := ⟨_, rfl⟩
  rw [← g1] at A1 st1
  have g_b1 : n0 ≤ b1 := Nat.le_trans (O0.1 ▸ O0.2.1) (Nat.le_of_eq g1.symm)
  have O1 : Old Z n0 h1 := O0.ext E1
  have sz_b1 : h0.size ≤ b1 := Nat.le_trans K0.1 (Nat.le_of_eq g1.symm)
  have K1 : Keep h0 h1 [] := K0.ext E1
  have V_b1 : Arv Z h1 b1 kc1 .byte (1 : Int32) [(.int (0 : Int32))] (.int (0 : Int32)) := (Arv.new A1 (by decide)).pad (pad_rep [] (.int (0 : Int32)) 1)
  have lt_b1 := V_b1.lt
  refine Go.st (f' := (mkF m 3 #[iv c0] [(.ref b1)])) (fun _ k => st1 _ k) ?_
  refine Go.st (f' := (mkF m 4 #[iv c0] [(.ref b1), (.ref b1)])) (fun _ k => XS.dup X1.here hx rfl (hb hby d4_3) rfl rfl k) ?_
  refine Go.st (f' := (mkF m 5 #[iv c0] [(.int 0), (.ref b1), (.ref b1)])) (fun _ k => XS.iconst X1.here hx rfl (hb hby d4_4) k) ?_
  refine Go.st (f' := (mkF m 6 #[iv c0] [(.int c0), (.int 0), (.ref b1), (.ref b1)])) (fun _ k => XS.iloadN X1.here hx rfl (hb hby d4_5) rfl k) ?_
  refine Go.st (f' := (mkF m 7 #[iv c0] [(.int (c0.toInt8.toInt32)), (.int 0), (.ref b1), (.ref b1)])) (fun _ k => XS.i2b X1.here hx rfl (hb hby d4_6) rfl k) ?_
  obtain ⟨cl2, Ar2, q2, S2, Nx2, H2, G2⟩ := id V_b1
  have hin2 : ¬ ((0 : Int32) < 0 ∨ cl2.slots.size ≤ ((0 : Int32)).toNatClampNeg) := inb_of S2 ⟨by decide, by decide⟩
  obtain ⟨T3, h3, X3, e3, W3, st3⟩ := stB X1 hx hZ e1 Ar2 (j := (0 : Int32)) hin2 (g := (mkF m 7 #[iv c0] [(.int (c0.toInt8.toInt32)), (.int 0), (.ref b1), (.ref b1)])) rfl rfl (hb hby d4_7)
  have V_b1_3 : Arv Z h3 b1 kc1 .byte (1 : Int32) [(.int (nar .byte (c0.toInt8.toInt32)))] (.int (0 : Int32)) := Arv.set Ar2 q2 S2 Nx2 H2 G2 (fits_nar_byte _) W3 0 rfl (Nat.le_of_ble_eq_true rfl)
  have N3 := Fr.snoc X3 N0 g_b1
  have O3 : Old Z n0 h3 := O1.wr W3 g_b1
  have K3 : Keep h0 h3 [] := K1.wr W3 (Or.inr sz_b1)
  refine Go.st (f' := (mkF m 8 #[iv c0] [(.ref b1)])) (fun _ k => st3 _ k) ?_
  refine Go.retV X3 hlk hx (t := (.array .byte)) hret rfl (Or.inr (Or.inr (Or.inr (Or.inr ⟨rfl, rfl, rfl⟩)))) (hb hby d4_8) e3 ?_ (by decide) (by decide)
  exact ⟨b1, kc1, rfl, N3, sz_b1, K3, V_b1_3⟩
theorem d5_0 : decode jdk_42_method_151_code 0 = .ok (.aload_n 0, 1) := by decide +kernel
theorem d5_1 : decode jdk_42_method_151_code 1 = .ok (.invokespecial 1, 3) := by decide +kernel
theorem d5_4 : decode jdk_42_method_151_code 4 = .ok (.aload_n 0, 1) := by decide +kernel
theorem d5_5 : decode jdk_42_method_151_code 5 = .ok (.aload_n 1, 1) := by decide +kernel
theorem d5_6 : decode jdk_42_method_151_code 6 = .ok (.putfield 9, 3) := by decide +kernel
theorem d5_9 : decode jdk_42_method_151_code 9 = .ok (.aload_n 0, 1) := by decide +kernel
theorem d5_10 : decode jdk_42_method_151_code 10 = .ok (.iload_n 2, 1) := by decide +kernel
theorem d5_11 : decode jdk_42_method_151_code 11 = .ok (.putfield 15, 3) := by decide +kernel
theorem d5_14 : decode jdk_42_method_151_code 14 = .ok (.return_, 1) := by decide +kernel
set_option maxRecDepth 65536 in
set_option maxHeartbeats 40000000 in
theorem st_bb (l : Launch) (Z : State) (a0 : Array Value) (hw : ∀ d ∈ tables_1, d.before a0 Z = true) (ws : List Jvm.Cond) (a1 : Addr) (t1 : Addr) (h0 : Heap) (n0 : Nat) (O0 : Old Z n0 h0) (g_a1 : n0 ≤ a1) (E_a1 : Exa Z h0 a1 "java/lang/String") (F_a1_coder : Fld Z h0 a1 "java/lang/String" "coder" "B" (.int 0)) (F_a1_value : Fld Z h0 a1 "java/lang/String" "value" "[B" .null) :
    Con l Z (⟨"java/lang/String", "<init>", "([BB)V"⟩ : MethodName) jdk_42_method_151_code 3 none ws ({ frames := 1, cells := 0, slots := 0, locals := 12 } : Room) #[(.ref a1), (.ref t1), (.int 0)] h0 (fun v h L => v = none ∧ Fr n0 L ∧ Keep h0 h [a1] ∧ Exa Z h a1 "java/lang/String" ∧ Fld Z h a1 "java/lang/String" "coder" "B" (.int 0) ∧ Fld Z h a1 "java/lang/String" "value" "[B" (.ref t1)) := by
  refine own_body (plainFor_of_name pn_java_lang_String) ?_
  intro p e s m below meth c s₁ hx hby hml hZ hown hnm hlk hret X0 e0
  have N0 := Fr.nil n0
  have K0 : Keep h0 h0 [a1] := Keep.refl _ _
  refine Go.st (T' := s₁) (f' := (mkF m 0 #[rv a1, rv t1, iv 0] [])) (fun _ k => castTop (by first | (simp [entryFrame, mkF, argsToLocals, Value.category]; done) | rfl) k) ?_
  have lt_a1 := E_a1.lt
  refine Go.st (f' := (mkF m 1 #[rv a1, rv t1, iv 0] [(.ref a1)])) (fun _ k => XS.aloadN X0.here hx rfl (hb hby d5_0) rfl rfl k) ?_
  obtain ⟨T1, X1, e1, st1⟩ := initO X0 hx hZ hown (hw _ (List.mem_of_getElem? (i := 23) rfl)) (hw _ (List.mem_of_getElem? (i := 24) rfl)) (hw _ (List.mem_of_getElem? (i := 25) rfl)) e0 (g := (mkF m 1 #[rv a1, rv t1, iv 0] [(.ref a1)])) rfl (by rw [hml]; rfl) rfl (hb hby d5_1) (by decide) (W := 0) (by show 2 * 0 + _ ≤ _; exact Nat.le_of_eq rfl) (by decide)
  refine Go.st (f' := (mkF m 4 #[rv a1, rv t1, iv 0] [])) (fun _ k => st1 _ k) ?_
  refine Go.st (f' := (mkF m 5 #[rv a1, rv t1, iv 0] [(.ref a1)])) (fun _ k => XS.aloadN X1.here hx rfl (hb hby d5_4) rfl rfl k) ?_
  refine Go.st (f' := (mkF m 6 #[rv a1, rv t1, iv 0] [(.ref t1), (.ref a1)])) (fun _ k => XS.aloadN X1.here hx rfl (hb hby d5_5) rfl rfl k) ?_
  obtain ⟨T2, h2, X2, e2, W2, st2⟩ := putF X1 hx hZ hown (host := "") (Or.inl (hw _ (List.mem_of_getElem? (i := 26) rfl))) Via.refl e1 F_a1_value E_a1 (Or.inr ⟨(hw _ (List.mem_of_getElem? (i := 27) rfl)), rfl, hnm⟩) (hw _ (List.mem_of_getElem? (i := 14) rfl)) (ty := (.array .byte)) (by decide) rfl rfl (g := (mkF m 6 #[rv a1, rv t1, iv 0] [(.ref t1), (.ref a1)])) rfl rfl (hb hby d5_6)
  have N2 := Fr.snoc X2 N0 g_a1
  have O2 : Old Z n0 h2 := O0.wr W2 g_a1
  have K2 : Keep h0 h2 [a1] := K0.wr W2 (Or.inl (List.mem_of_getElem? (i := 0) rfl))
  have Fw2 := F_a1_value.same W2
  refine Go.st (f' := (mkF m 9 #[rv a1, rv t1, iv 0] [])) (fun _ k => st2 _ k) ?_
  refine Go.st (f' := (mkF m 10 #[rv a1, rv t1, iv 0] [(.ref a1)])) (fun _ k => XS.aloadN X2.here hx rfl (hb hby d5_9) rfl rfl k) ?_
  refine Go.st (f' := (mkF m 11 #[rv a1, rv t1, iv 0] [(.int 0), (.ref a1)])) (fun _ k => XS.iloadN X2.here hx rfl (hb hby d5_10) rfl k) ?_
  have ft3 := (E_a1.wr W2)
  have ft4 := (F_a1_coder.other W2 (Or.inr (slot_ne (Or.inr (hw _ (List.mem_of_getElem? (i := 29) rfl))) (Or.inr (hw _ (List.mem_of_getElem? (i := 27) rfl))) (by decide) (t := .byte) (t' := (.array .byte)) (by decide) (by decide))))
  obtain ⟨T5, h5, X5, e5, W5, st5⟩ := putFN X2 hx hZ hown (hw _ (List.mem_of_getElem? (i := 28) rfl)) Via.refl e2 ft4 ft3 (Or.inr ⟨(hw _ (List.mem_of_getElem? (i := 29) rfl)), rfl, hnm⟩) (hw _ (List.mem_of_getElem? (i := 14) rfl)) (ty := .byte) (v' := (.int (0 : Int32))) (by decide) rfl (by decide) (g := (mkF m 11 #[rv a1, rv t1, iv 0] [(.int 0), (.ref a1)])) rfl rfl (hb hby d5_11)
  have N5 := Fr.snoc X5 N2 g_a1
  have O5 : Old Z n0 h5 := O2.wr W5 g_a1
  have K5 : Keep h0 h5 [a1] := K2.wr W5 (Or.inl (List.mem_of_getElem? (i := 0) rfl))
  have Fw5 := ft4.same W5
  refine Go.st (f' := (mkF m 14 #[rv a1, rv t1, iv 0] [])) (fun _ k => st5 _ k) ?_
  refine Go.ret0 X5 hlk hx hret (hb hby d5_14) e5 ?_ (by decide) (by decide)
  have ft6 := (ft3.wr W5)
  have ft7 := (Fw2.other W5 (Or.inr (slot_ne (Or.inr (hw _ (List.mem_of_getElem? (i := 27) rfl))) (Or.inr (hw _ (List.mem_of_getElem? (i := 29) rfl))) (by decide) (t := (.array .byte)) (t' := .byte) (by decide) (by decide))))
  exact ⟨rfl, N5, K5, ft6, Fw5, ft7⟩
theorem d2_0 : decode jdk_42_method_139_code 0 = .ok (.getstatic 38, 3) := by decide +kernel
theorem d2_3 : decode jdk_42_method_139_code 3 = .ok (.ifCond .eq 23, 3) := by decide +kernel
theorem d2_6 : decode jdk_42_method_139_code 6 = .ok (.iload_n 0, 1) := by decide +kernel
theorem d2_7 : decode jdk_42_method_139_code 7 = .ok (.invokestatic 1015, 3) := by decide +kernel
theorem pd__C_Z : parseMethodDescriptor "(C)Z" = some ⟨[.char], some .boolean⟩ := by decide +kernel
theorem d2_10 : decode jdk_42_method_139_code 10 = .ok (.ifCond .eq 16, 3) := by decide +kernel
theorem d2_13 : decode jdk_42_method_139_code 13 = .ok (.new 10, 3) := by decide +kernel
theorem d2_16 : decode jdk_42_method_139_code 16 = .ok (.dup, 1) := by decide +kernel
theorem d2_17 : decode jdk_42_method_139_code 17 = .ok (.iload_n 0, 1) := by decide +kernel
theorem d2_18 : decode jdk_42_method_139_code 18 = .ok (.invokestatic 1018, 3) := by decide +kernel
theorem pd__C__B : parseMethodDescriptor "(C)[B" = some ⟨[.char], some (.array .byte)⟩ := by decide +kernel
theorem d2_21 : decode jdk_42_method_139_code 21 = .ok (.iconst 0, 1) := by decide +kernel
theorem d2_22 : decode jdk_42_method_139_code 22 = .ok (.invokespecial 209, 3) := by decide +kernel
theorem pd___BB_V : parseMethodDescriptor "([BB)V" = some ⟨[(.array .byte), .byte], none⟩ := by decide +kernel
theorem d2_25 : decode jdk_42_method_139_code 25 = .ok (.areturn, 1) := by decide +kernel
set_option maxRecDepth 65536 in
set_option maxHeartbeats 40000000 in
theorem st_vof (l : Launch) (Z : State) (a0 : Array Value) (hw : ∀ d ∈ tables_1, d.before a0 Z = true) (ws : List Jvm.Cond) (c0 : Int32) (w_ERROR : Addr) (i_COMPACT_STRINGS : Int32) (v_SIOOBE_FORMATTER : Value) (h0 : Heap) (n0 : Nat) (O0 : Old Z n0 h0) (hc_c0 : ¬ (255 : Int32) < c0) (WW : World1 Z w_ERROR i_COMPACT_STRINGS v_SIOOBE_FORMATTER) :
    Con l Z (⟨"java/lang/String", "valueOf", "(C)Ljava/lang/String;"⟩ : MethodName) jdk_42_method_139_code 1 (some (.object "java/lang/String")) ws ({ frames := 2, cells := 2, slots := 5, locals := 27 } : Room) #[(.int c0)] h0 (fun v h L => ∃ b : Addr, v = some (.ref b) ∧ Fr n0 L ∧ h0.size ≤ b ∧ Keep h0 h [] ∧ Exa Z h b "java/lang/String" ∧ Fld Z h b "java/lang/String" "coder" "B" (.int 0) ∧ ∃ (t : Addr) (kt : ClassId), h0.size ≤ t ∧ Fld Z h b "java/lang/String" "value" "[B" (.ref t) ∧ Arv Z h t kt .byte (1 : Int32) [(.int (nar .byte (c0.toInt8.toInt32)))] (.int 0)) := by
  refine own_body (plainFor_of_name pn_java_lang_String) ?_
  intro p e s m below meth c s₁ hx hby hml hZ hown hnm hlk hret X0 e0
  have N0 := Fr.nil n0
  have K0 : Keep h0 h0 [] := Keep.refl _ _
  refine Go.st (T' := s₁) (f' := (mkF m 0 #[iv c0] [])) (fun _ k => castTop (by first | (simp [entryFrame, mkF, argsToLocals, Value.category]; done) | rfl) k) ?_
  have ⟨S_i_COMPACT_STRINGS, nz_i_COMPACT_STRINGS, S_v_SIOOBE_FORMATTER, r_v_SIOOBE_FORMATTER, S_w_ERROR, E_w_ERROR⟩ := WW
  have lt_w_ERROR := E_w_ERROR.lt
  obtain ⟨T1, X1, e1, st1⟩ := getS2 X0 hx hZ hown (host := "") (Or.inl (hw _ (List.mem_of_getElem? (i := 8) rfl))) Via.refl e0 (S_i_COMPACT_STRINGS.ext O0.2) (g := (mkF m 0 #[iv c0] [])) rfl (hb hby d2_0)
  refine Go.st (f' := (mkF m 3 #[iv c0] [(.int i_COMPACT_STRINGS)])) (fun _ k => st1 _ k) ?_
  refine Go.st (f' := (mkF m 6 #[iv c0] [])) (fun _ k => XS.ifNo X1.here hx rfl (hb hby d2_3) rfl ((if0 _ _).trans (feq nz_i_COMPACT_STRINGS).1) k) ?_
  refine Go.st (f' := (mkF m 7 #[iv c0] [(.int c0)])) (fun _ k => XS.iloadN X1.here hx rfl (hb hby d2_6) rfl k) ?_
  obtain ⟨_, _, ⟨T2, L2, kk2, nn2⟩, -, X2, ⟨Lc2, hQ2, lq2, yq2, zz2⟩, st2⟩ := Jvm.LawKit.callS X1 hx (y := (⟨"java/lang/StringLatin1", "canEncode", "(C)Z"⟩ : MethodName)) hown (mvT hZ (hw _ (List.mem_of_getElem? (i := 9) rfl))) (mvT hZ (hw _ (List.mem_of_getElem? (i := 10) rfl))) (mvT hZ (hw _ (List.mem_of_getElem? (i := 11) rfl))) (mvT hZ (hw _ (List.mem_of_getElem? (i := 12) rfl))) (by decide) (own_back (W := 0) (st_enc l Z a0 hw [] c0 h0 n0 O0 hc_c0) hZ (hw _ (List.mem_of_getElem? (i := 12) rfl)) (hw _ (List.mem_of_getElem? (i := 11) rfl)) (by decide) (by decide)) (g := (mkF m 7 #[iv c0] [(.int c0)])) rfl (by rw [hml]; rfl) (argsL := [(.int c0)]) (rest := []) (lenOf pd__C_Z rfl) rfl (by show 2 * 0 + _ ≤ _; exact Nat.le_of_eq rfl) (hb hby d2_7) (fun _ _ => ⟨rfl, e1, (by decide : 0 + 0 ≤ _), (by decide : 0 + 0 ≤ _)⟩)
  dsimp only [Pt.U, Pt.locs, Pt.cells, Pt.slots] at X2 lq2 yq2 zz2 st2 hQ2
  subst lq2 yq2 zz2
  obtain ⟨rfl, Nq2, kq2⟩ := hQ2
  have N2 := Fr.app N0 Nq2
  refine Go.st (f' := (mkF m 10 #[iv c0] [(.int 1)])) (fun _ k => st2 _ k) ?_
  refine Go.st (f' := (mkF m 13 #[iv c0] [])) (fun _ k => XS.ifNo X2.here hx rfl (hb hby d2_10) rfl (by decide) k) ?_
  obtain ⟨T3, h3, X3, e3, E3, A3, D3, -, st3⟩ := newO X2 hx hZ hown (hw _ (List.mem_of_getElem? (i := 13) rfl)) (hw _ (List.mem_of_getElem? (i := 14) rfl)) (hw _ (List.mem_of_getElem? (i := 6) rfl)) kq2 (g := (mkF m 13 #[iv c0] [])) rfl (hb hby d2_13) (by decide) (by decide)
  obtain ⟨b3, g3⟩ : ∃ z, z = h0.size := ⟨_, rfl⟩
  rw [← g3] at A3 D3 st3
  have ne_w_ERROR_b3 : w_ERROR ≠ b3 := Nat.ne_of_lt (Nat.lt_of_lt_of_le lt_w_ERROR (Nat.le_trans O0.2.1 (Nat.le_of_eq g3.symm)))
  have g_b3 : n0 ≤ b3 := Nat.le_trans (O0.1 ▸ O0.2.1) (Nat.le_of_eq g3.symm)
  have O3 : Old Z n0 h3 := O0.ext E3
  have sz_b3 : h0.size ≤ b3 := Nat.le_trans K0.1 (Nat.le_of_eq g3.symm)
  have K3 : Keep h0 h3 [] := K0.ext E3
  have lt_b3 := A3.lt
  have F_value_b3 : Fld Z h3 b3 "java/lang/String" "value" "[B" .null := D3 (Or.inr (hw _ (List.mem_of_getElem? (i := 27) rfl))) (ty := (.array .byte)) (by decide)
  have F_coder_b3 : Fld Z h3 b3 "java/lang/String" "coder" "B" (.int (0 : Int32)) := D3 (Or.inr (hw _ (List.mem_of_getElem? (i := 29) rfl))) (ty := .byte) (by decide)
  refine Go.st (f' := (mkF m 16 #[iv c0] [(.ref b3)])) (fun _ k => st3 _ k) ?_
  refine Go.st (f' := (mkF m 17 #[iv c0] [(.ref b3), (.ref b3)])) (fun _ k => XS.dup X3.here hx rfl (hb hby d2_16) rfl rfl k) ?_
  refine Go.st (f' := (mkF m 18 #[iv c0] [(.int c0), (.ref b3), (.ref b3)])) (fun _ k => XS.iloadN X3.here hx rfl (hb hby d2_17) rfl k) ?_
  obtain ⟨_, _, ⟨T4, L4, kk4, nn4⟩, -, X4, ⟨Lc4, hQ4, lq4, yq4, zz4⟩, st4⟩ := Jvm.LawKit.callS X3 hx (y := (⟨"java/lang/StringLatin1", "toBytes", "(C)[B"⟩ : MethodName)) hown (mvT hZ (hw _ (List.mem_of_getElem? (i := 15) rfl))) (mvT hZ (hw _ (List.mem_of_getElem? (i := 16) rfl))) (mvT hZ (hw _ (List.mem_of_getElem? (i := 11) rfl))) (mvT hZ (hw _ (List.mem_of_getElem? (i := 17) rfl))) (by decide) (own_back (W := 2) (st_tob l Z a0 hw [] c0 h3 n0 O3) hZ (hw _ (List.mem_of_getElem? (i := 17) rfl)) (hw _ (List.mem_of_getElem? (i := 11) rfl)) (by decide) (by decide)) (g := (mkF m 18 #[iv c0] [(.int c0), (.ref b3), (.ref b3)])) rfl (by rw [hml]; rfl) (argsL := [(.int c0)]) (rest := [(.ref b3), (.ref b3)]) (lenOf pd__C__B rfl) rfl (by show 2 * 0 + _ ≤ _; exact Nat.le_of_eq rfl) (hb hby d2_18) (fun _ _ => ⟨rfl, e3, (by decide : 1 + 1 ≤ _), (by decide : 4 + 1 ≤ _)⟩)
  dsimp only [Pt.U, Pt.locs, Pt.cells, Pt.slots] at X4 lq4 yq4 zz4 st4 hQ4
  subst lq4 yq4 zz4
  obtain ⟨b4, kb4, rfl, Nq4, zq4, kq4, vq4⟩ := hQ4
  have N4 := Fr.app N2 Nq4
  have ne_b3_b4 : b3 ≠ b4 := Nat.ne_of_lt (Nat.lt_of_lt_of_le lt_b3 zq4)
  have ne_w_ERROR_b4 : w_ERROR ≠ b4 := Nat.ne_of_lt (Nat.lt_of_lt_of_le lt_w_ERROR (Nat.le_trans O3.2.1 zq4))
  have g_b4 : n0 ≤ b4 := Nat.le_trans (O3.1 ▸ O3.2.1) zq4
  have sz_b4 : h0.size ≤ b4 := Nat.le_trans K3.1 zq4
  have O4 : Old Z n0 T4.heap := O3.keep kq4 all0
  have K4 : Keep h0 T4.heap [] := K3.trans kq4 all0
  have lt_b4 := vq4.lt
  refine Go.st (f' := (mkF m 21 #[iv c0] [(.ref b4), (.ref b3), (.ref b3)])) (fun _ k => st4 _ k) ?_
  refine Go.st (f' := (mkF m 22 #[iv c0] [(.int 0), (.ref b4), (.ref b3), (.ref b3)])) (fun _ k => XS.iconst X4.here hx rfl (hb hby d2_21) k) ?_
  have ft6 := (A3.keep kq4)
  have ft7 := (F_coder_b3.keep kq4 nin0)
  have ft8 := (F_value_b3.keep kq4 nin0)
  obtain ⟨_, _, ⟨T5, L5, kk5, nn5⟩, -, X5, ⟨Lc5, hQ5, lq5, yq5, zz5⟩, st5⟩ := X4.specialBack hx (y := (⟨"java/lang/String", "<init>", "([BB)V"⟩ : MethodName)) rfl hown (mvT hZ (hw _ (List.mem_of_getElem? (i := 19) rfl))) (mvT hZ (hw _ (List.mem_of_getElem? (i := 20) rfl))) (mvT hZ (hw _ (List.mem_of_getElem? (i := 22) rfl))) (by decide) (own_back (W := 1) (st_bb l Z a0 hw [] b3 b4 T4.heap n0 O4 g_b3 ft6 ft7 ft8 ) hZ (hw _ (List.mem_of_getElem? (i := 22) rfl)) (hw _ (List.mem_of_getElem? (i := 6) rfl)) (by decide) (by decide)) (g := (mkF m 22 #[iv c0] [(.int 0), (.ref b4), (.ref b3), (.ref b3)])) rfl (by rw [hml]; rfl) (Steps.refl _) (a := b3) (argsL := [(.ref b4), (.int (0 : Int32))]) (rest := [(.ref b3)]) (lenOf pd___BB_V rfl) rfl (by show 2 * 0 + _ ≤ _; exact Nat.le_of_eq rfl) (hb hby d2_22) (fun _ _ => ⟨rfl, rfl, (by decide : 2 + 0 ≤ _), (by decide : 5 + 0 ≤ _)⟩)
  dsimp only [Pt.U, Pt.locs, Pt.cells, Pt.slots] at X5 lq5 yq5 zz5 st5 hQ5
  subst lq5 yq5 zz5
  obtain ⟨rfl, Nq5, kq5, eq5, fq5_0, fq5_1⟩ := hQ5
  have N5 := Fr.app N4 Nq5
  have O5 : Old Z n0 T5.heap := O4.keep kq5 (allS g_b3 all0)
  have K5 : Keep h0 T5.heap [] := K4.trans kq5 (allS (Or.inr sz_b3) all0)
  refine Go.tr (f' := (mkF m 25 #[iv c0] [(.ref b3)])) st5 ?_
  refine Go.retV X5 hlk hx (t := (.object "java/lang/String")) hret rfl (Or.inr (Or.inr (Or.inr (Or.inr ⟨rfl, rfl, rfl⟩)))) (hb hby d2_25) rfl ?_ (by decide) (by decide)
  have ft9 := (vq4.keep kq5 (ninS (Ne.symm ne_b3_b4) nin0))
  exact ⟨b3, rfl, N5, sz_b3, K5, eq5, fq5_0, b4, kb4, sz_b4, fq5_1, ft9⟩
theorem d13_0 : decode jdk_42_method_66_code 0 = .ok (.aload_n 0, 1) := by decide +kernel
theorem d13_1 : decode jdk_42_method_66_code 1 = .ok (.aload_n 1, 1) := by decide +kernel
theorem d13_2 : decode jdk_42_method_66_code 2 = .ok (.if_acmp .ne 5, 3) := by decide +kernel
theorem d13_5 : decode jdk_42_method_66_code 5 = .ok (.iconst 1, 1) := by decide +kernel
theorem d13_6 : decode jdk_42_method_66_code 6 = .ok (.ireturn, 1) := by decide +kernel
set_option maxRecDepth 65536 in
set_option maxHeartbeats 40000000 in
theorem st_eqs (l : Launch) (Z : State) (a0 : Array Value) (hw : ∀ d ∈ tables_1, d.before a0 Z = true) (ws : List Jvm.Cond) (a1 : Addr) (h0 : Heap) (n0 : Nat) (O0 : Old Z n0 h0)  :
    Con l Z (⟨"java/lang/String", "equals", "(Ljava/lang/Object;)Z"⟩ : MethodName) jdk_42_method_66_code 3 (some .boolean) ws ({ frames := 0, cells := 0, slots := 0, locals := 0 } : Room) #[(.ref a1), (.ref a1)] h0 (fun v h L => v = some (.int 1) ∧ Fr n0 L ∧ h = h0) := by
  refine own_body (plainFor_of_name pn_java_lang_String) ?_
  intro p e s m below meth c s₁ hx hby hml hZ hown hnm hlk hret X0 e0
  have N0 := Fr.nil n0
  refine Go.st (T' := s₁) (f' := (mkF m 0 #[rv a1, rv a1, .unset] [])) (fun _ k => castTop (by first | (simp [entryFrame, mkF, argsToLocals, Value.category]; done) | rfl) k) ?_
  refine Go.st (f' := (mkF m 1 #[rv a1, rv a1, .unset] [(.ref a1)])) (fun _ k => XS.aloadN X0.here hx rfl (hb hby d13_0) rfl rfl k) ?_
  refine Go.st (f' := (mkF m 2 #[rv a1, rv a1, .unset] [(.ref a1), (.ref a1)])) (fun _ k => XS.aloadN X0.here hx rfl (hb hby d13_1) rfl rfl k) ?_
  refine Go.st (f' := (mkF m 5 #[rv a1, rv a1, .unset] [])) (fun _ k => Jvm.RoadKit.acmp (g := (mkF m 2 #[rv a1, rv a1, .unset] [(.ref a1), (.ref a1)])) X0 hx rfl rfl rfl (pc0 := 2) (pc' := 5) (same := true) rfl (hb hby d13_2) rfl (decide_eq_true rfl) (by decide) (by decide) k) ?_
  refine Go.st (f' := (mkF m 6 #[rv a1, rv a1, .unset] [(.int 1)])) (fun _ k => XS.iconst X0.here hx rfl (hb hby d13_5) k) ?_
  refine Go.retB X0 hlk hx (t := .boolean) hret (by simp) (hb hby d13_6) e0 ?_ (by decide) (by decide)
  exact ⟨rfl, N0, rfl⟩
theorem own_nc {c : Int32} (h : ¬ (255 : Int32) < c) (h0 : 0 ≤ c.toInt) : ¬ (255 : Int32) < nar .char c := by
  have q := c_i2c c
  show ¬ (255 : Int32) < c.toUInt32.toUInt16.toUInt32.toInt32
  have e : (255 : Int32).toInt = 255 := by decide
  rw [Int32.lt_iff_toInt_lt] at h ⊢
  omega
theorem own_b (x : Int32) : ¬ (255 : Int32) < (x &&& (255 : Int32)).toUInt32.toUInt16.toUInt32.toInt32 ∧ 0 ≤ ((x &&& (255 : Int32)).toUInt32.toUInt16.toUInt32.toInt32).toInt := by
  rw [i2c_mask]
  have h := c_and x 255 (by decide)
  refine ⟨?_, h.1⟩
  rw [Int32.lt_iff_toInt_lt]
  omega
theorem pn_com_example_lapwing_lapwing_profile_RuleViolationErrorPinLaw : plainName "com/example/lapwing/lapwing/profile/RuleViolationErrorPinLaw" = true := by first | (simp [plainName, overriddenIn]; done) | decide +kernel
theorem d1_0 : decode method_3_code 0 = .ok (.iload_n 0, 1) := by decide +kernel
theorem d1_1 : decode method_3_code 1 = .ok (.iconst 3, 1) := by decide +kernel
theorem d1_2 : decode method_3_code 2 = .ok (.iand, 1) := by decide +kernel
theorem d1_3 : decode method_3_code 3 = .ok (.istore_n 3, 1) := by decide +kernel
theorem d1_4 : decode method_3_code 4 = .ok (.iload_n 3, 1) := by decide +kernel
theorem d1_5 : decode method_3_code 5 = .ok (.ifCond .ne 5, 3) := by decide +kernel
theorem d1_8 : decode method_3_code 8 = .ok (.aconst_null, 1) := by decide +kernel
theorem d1_9 : decode method_3_code 9 = .ok (.areturn, 1) := by decide +kernel
theorem d1_10 : decode method_3_code 10 = .ok (.iload_n 3, 1) := by decide +kernel
theorem d1_11 : decode method_3_code 11 = .ok (.iconst 1, 1) := by decide +kernel
theorem d1_12 : decode method_3_code 12 = .ok (.if_icmp .ne 14, 3) := by decide +kernel
theorem d1_15 : decode method_3_code 15 = .ok (.new 40, 3) := by decide +kernel
theorem d1_18 : decode method_3_code 18 = .ok (.dup, 1) := by decide +kernel
theorem d1_19 : decode method_3_code 19 = .ok (.iconst 0, 1) := by decide +kernel
theorem d1_20 : decode method_3_code 20 = .ok (.newarray .char, 2) := by decide +kernel
theorem d1_22 : decode method_3_code 22 = .ok (.invokespecial 42, 3) := by decide +kernel
theorem pd___C_V : parseMethodDescriptor "([C)V" = some ⟨[(.array .char)], none⟩ := by decide +kernel
theorem d1_25 : decode method_3_code 25 = .ok (.areturn, 1) := by decide +kernel
theorem d1_26 : decode method_3_code 26 = .ok (.iload_n 3, 1) := by decide +kernel
theorem d1_27 : decode method_3_code 27 = .ok (.iconst 2, 1) := by decide +kernel
theorem d1_28 : decode method_3_code 28 = .ok (.if_icmp .ne 8, 3) := by decide +kernel
theorem d1_31 : decode method_3_code 31 = .ok (.iload_n 1, 1) := by decide +kernel
theorem d1_32 : decode method_3_code 32 = .ok (.invokestatic 45, 3) := by decide +kernel
theorem pd__C_Ljava_lang_String_ : parseMethodDescriptor "(C)Ljava/lang/String;" = some ⟨[.char], some (.object "java/lang/String")⟩ := by decide +kernel
theorem d1_35 : decode method_3_code 35 = .ok (.areturn, 1) := by decide +kernel
theorem d1_36 : decode method_3_code 36 = .ok (.new 40, 3) := by decide +kernel
theorem d1_39 : decode method_3_code 39 = .ok (.dup, 1) := by decide +kernel
theorem d1_40 : decode method_3_code 40 = .ok (.iconst 2, 1) := by decide +kernel
theorem d1_41 : decode method_3_code 41 = .ok (.newarray .char, 2) := by decide +kernel
theorem d1_43 : decode method_3_code 43 = .ok (.dup, 1) := by decide +kernel
theorem d1_44 : decode method_3_code 44 = .ok (.iconst 0, 1) := by decide +kernel
theorem d1_45 : decode method_3_code 45 = .ok (.iload_n 1, 1) := by decide +kernel
theorem d1_46 : decode method_3_code 46 = .ok (.castore, 1) := by decide +kernel
theorem d1_47 : decode method_3_code 47 = .ok (.dup, 1) := by decide +kernel
theorem d1_48 : decode method_3_code 48 = .ok (.iconst 1, 1) := by decide +kernel
theorem d1_49 : decode method_3_code 49 = .ok (.iload_n 2, 1) := by decide +kernel
theorem d1_50 : decode method_3_code 50 = .ok (.castore, 1) := by decide +kernel
theorem d1_51 : decode method_3_code 51 = .ok (.invokespecial 42, 3) := by decide +kernel
theorem d1_54 : decode method_3_code 54 = .ok (.areturn, 1) := by decide +kernel
set_option maxRecDepth 65536 in
set_option maxHeartbeats 40000000 in
theorem rmP (l : Launch) (Z : State) (a0 : Array Value) (hw : ∀ d ∈ tables_1, d.before a0 Z = true) (ws : List Jvm.Cond) (p1 : Int32) (c0 : Int32) (c1 : Int32) (w_ERROR : Addr) (i_COMPACT_STRINGS : Int32) (v_SIOOBE_FORMATTER : Value) (h0 : Heap) (n0 : Nat) (O0 : Old Z n0 h0) (hc_c0 : ¬ (255 : Int32) < c0) (hc_c1 : ¬ (255 : Int32) < c1) (hk_c0 : 0 ≤ c0.toInt) (hk_c1 : 0 ≤ c1.toInt) (WW : World1 Z w_ERROR i_COMPACT_STRINGS v_SIOOBE_FORMATTER) :
    ConW l Z EL (⟨"com/example/lapwing/lapwing/profile/RuleViolationErrorPinLaw", "pick", "(ICC)Ljava/lang/String;"⟩ : MethodName) method_3_code 4 (some (.object "java/lang/String")) ws ({ frames := 4, cells := 6, slots := 12, locals := 66 } : Room) #[(.int p1), (.int c0), (.int c1)] h0 (fun v h L => ∃ val : Value, v = some val ∧ Fr n0 L ∧ Keep h0 h [] ∧ (val = .null ∨ ∃ b : Addr, val = .ref b ∧ h0.size ≤ b ∧ Exa Z h b "java/lang/String")) := by
  refine own_bodyW (plainFor_of_name pn_com_example_lapwing_lapwing_profile_RuleViolationErrorPinLaw) ?_
  intro p e s m below meth c s₁ hx hby hml hZ hown hnm hlk hret X0 e0 hh hS CR0
  have hEL := own_EL hw
  have wS := own_wS hw
  have N0 := Fr.nil n0
  have K0 : Keep h0 h0 [] := Keep.refl _ _
  refine Go.st (T' := s₁) (f' := (mkF m 0 #[iv p1, iv c0, iv c1, .unset] [])) (fun _ k => castTop (by first | (simp [entryFrame, mkF, argsToLocals, Value.category]; done) | rfl) k) ?_
  have ⟨S_i_COMPACT_STRINGS, nz_i_COMPACT_STRINGS, S_v_SIOOBE_FORMATTER, r_v_SIOOBE_FORMATTER, S_w_ERROR, E_w_ERROR⟩ := WW
  have lt_w_ERROR := E_w_ERROR.lt
  refine Go.st (f' := (mkF m 1 #[iv p1, iv c0, iv c1, .unset] [(.int p1)])) (fun _ k => XS.iloadN X0.here hx rfl (hb hby d1_0) rfl k) ?_
  refine Go.st (f' := (mkF m 2 #[iv p1, iv c0, iv c1, .unset] [(.int 3), (.int p1)])) (fun _ k => XS.iconst X0.here hx rfl (hb hby d1_1) k) ?_
  refine Go.st (f' := (mkF m 3 #[iv p1, iv c0, iv c1, .unset] [(.int (p1 &&& (3 : Int32)))])) (fun _ k => XS.iand X0.here hx rfl (hb hby d1_2) rfl k) ?_
  obtain ⟨yy1, hyy1⟩ : ∃ z, z = (p1 &&& (3 : Int32)) := ⟨_, rfl⟩
  rw [← hyy1]
  refine Go.st (f' := (mkF m 4 #[iv p1, iv c0, iv c1, iv yy1] [])) (fun _ k => XS.istoreN X0.here hx rfl (hb hby d1_3) rfl (l' := #[iv p1, iv c0, iv c1, iv yy1]) rfl k) ?_
  refine Go.st (f' := (mkF m 5 #[iv p1, iv c0, iv c1, iv yy1] [(.int yy1)])) (fun _ k => XS.iloadN X0.here hx rfl (hb hby d1_4) rfl k) ?_
  by_cases cd2 : yy1 = (0 : Int32)
  · refine Go.st (f' := (mkF m 8 #[iv p1, iv c0, iv c1, iv yy1] [])) (fun _ k => XS.ifNo X0.here hx rfl (hb hby d1_5) rfl ((if0 _ _).trans (teq cd2).2) k) ?_
    refine Go.st (f' := (mkF m 9 #[iv p1, iv c0, iv c1, iv yy1] [.null])) (fun _ k => XS.aconstNull X0.here hx rfl (hb hby d1_8) k) ?_
    refine GoW.retV X0 hlk hx (t := (.object "java/lang/String")) hret rfl (Or.inr (Or.inr (Or.inr (Or.inr ⟨rfl, rfl, rfl⟩)))) (hb hby d1_9) e0 hS (Nat.zero_le _) hZ hEL CR0 hh ?_ (by decide) (by decide)
    exact ⟨.null, rfl, N0, K0, Or.inl rfl⟩
  · refine Go.st (f' := (mkF m 10 #[iv p1, iv c0, iv c1, iv yy1] [])) (fun _ k => XS.ifYes X0.here hx rfl (pc0 := 5) (pc' := 10) rfl (hb hby d1_5) rfl ((if0 _ _).trans (feq cd2).2) (by decide) (by decide) k) ?_
    refine Go.st (f' := (mkF m 11 #[iv p1, iv c0, iv c1, iv yy1] [(.int yy1)])) (fun _ k => XS.iloadN X0.here hx rfl (hb hby d1_10) rfl k) ?_
    refine Go.st (f' := (mkF m 12 #[iv p1, iv c0, iv c1, iv yy1] [(.int 1), (.int yy1)])) (fun _ k => XS.iconst X0.here hx rfl (hb hby d1_11) k) ?_
    by_cases cd3 : yy1 = (1 : Int32)
    · refine Go.st (f' := (mkF m 15 #[iv p1, iv c0, iv c1, iv yy1] [])) (fun _ k => XS.icmpNo X0.here hx rfl (hb hby d1_12) rfl (teq cd3).2 k) ?_
      obtain ⟨T4, h4, X4, e4, E4, A4, D4, -, st4⟩ := newO X0 hx hZ hown (hw _ (List.mem_of_getElem? (i := 78) rfl)) (hw _ (List.mem_of_getElem? (i := 14) rfl)) (hw _ (List.mem_of_getElem? (i := 6) rfl)) e0 (g := (mkF m 15 #[iv p1, iv c0, iv c1, iv yy1] [])) rfl (hb hby d1_15) (by decide) (by decide)
      obtain ⟨b4, g4⟩ : ∃ z, z = h0.size := ⟨_, rfl⟩
      rw [← g4] at A4 D4 st4
      have ne_w_ERROR_b4 : w_ERROR ≠ b4 := Nat.ne_of_lt (Nat.lt_of_lt_of_le lt_w_ERROR (Nat.le_trans O0.2.1 (Nat.le_of_eq g4.symm)))
      have g_b4 : n0 ≤ b4 := Nat.le_trans (O0.1 ▸ O0.2.1) (Nat.le_of_eq g4.symm)
      have O4 : Old Z n0 h4 := O0.ext E4
      have sz_b4 : h0.size ≤ b4 := Nat.le_trans K0.1 (Nat.le_of_eq g4.symm)
      have K4 : Keep h0 h4 [] := K0.ext E4
      have CR4 : CHr Z EL s.vm h0 s.vm h4 := CR0.trans (CHr.ext E4 CR0.1)
      have sf_b4 : Safe Z EL s.vm h4 b4 := (Safe.new (Nat.le_of_eq g4.symm)).ext E4 CR0.1
      have lt_b4 := A4.lt
      have F_value_b4 : Fld Z h4 b4 "java/lang/String" "value" "[B" .null := D4 (Or.inr (hw _ (List.mem_of_getElem? (i := 27) rfl))) (ty := (.array .byte)) (by decide)
      have F_coder_b4 : Fld Z h4 b4 "java/lang/String" "coder" "B" (.int (0 : Int32)) := D4 (Or.inr (hw _ (List.mem_of_getElem? (i := 29) rfl))) (ty := .byte) (by decide)
      refine Go.st (f' := (mkF m 18 #[iv p1, iv c0, iv c1, iv yy1] [(.ref b4)])) (fun _ k => st4 _ k) ?_
      refine Go.st (f' := (mkF m 19 #[iv p1, iv c0, iv c1, iv yy1] [(.ref b4), (.ref b4)])) (fun _ k => XS.dup X4.here hx rfl (hb hby d1_18) rfl rfl k) ?_
      refine Go.st (f' := (mkF m 20 #[iv p1, iv c0, iv c1, iv yy1] [(.int 0), (.ref b4), (.ref b4)])) (fun _ k => XS.iconst X4.here hx rfl (hb hby d1_19) k) ?_
      obtain ⟨T5, h5, kc5, X5, e5, E5, A5, st5⟩ := newP X4 hx hZ (hw _ (List.mem_of_getElem? (i := 79) rfl)) e4 (g := (mkF m 20 #[iv p1, iv c0, iv c1, iv yy1] [(.int 0), (.ref b4), (.ref b4)])) rfl (hb hby d1_20) rfl (by decide) (cap := 0) (by decide) (by decide) (by decide) (by decide)
      obtain ⟨b5, g5⟩ : ∃ z, z = h4.size := ⟨_, rfl⟩
      rw [← g5] at A5 st5
      have ne_b4_b5 : b4 ≠ b5 := Nat.ne_of_lt (Nat.lt_of_lt_of_eq lt_b4 g5.symm)
      have ne_w_ERROR_b5 : w_ERROR ≠ b5 := Nat.ne_of_lt (Nat.lt_of_lt_of_le lt_w_ERROR (Nat.le_trans O4.2.1 (Nat.le_of_eq g5.symm)))
      have g_b5 : n0 ≤ b5 := Nat.le_trans (O4.1 ▸ O4.2.1) (Nat.le_of_eq g5.symm)
      have O5 : Old Z n0 h5 := O4.ext E5
      have sz_b5 : h0.size ≤ b5 := Nat.le_trans K4.1 (Nat.le_of_eq g5.symm)
      have K5 : Keep h0 h5 [] := K4.ext E5
      have CR5 : CHr Z EL s.vm h0 s.vm h5 := CR4.trans (CHr.ext E5 CR4.1)
      have sf_b5 : Safe Z EL s.vm h5 b5 := (Safe.new (Nat.le_of_eq g5.symm)).ext E5 CR4.1
      have V_b5 : Arv Z h5 b5 kc5 .char (0 : Int32) [] (.int (0 : Int32)) := Arv.new A5 (by decide)
      have lt_b5 := V_b5.lt
      refine Go.st (f' := (mkF m 22 #[iv p1, iv c0, iv c1, iv yy1] [(.ref b5), (.ref b4), (.ref b4)])) (fun _ k => st5 _ k) ?_
      have ft7 := (A4.ext E5)
      have ft8 := (F_coder_b4.ext E5)
      have ft9 := (F_value_b4.ext E5)
      obtain ⟨_, _, ⟨T6, L6, kk6, nn6⟩, -, Xw6, hSw6, hgw6, ⟨Lc6, hQ6, lq6, yq6, zz6, crw6⟩, st6⟩ := X5.specialBackS hx (y := (⟨"java/lang/String", "<init>", "([C)V"⟩ : MethodName)) rfl hown (mvT hZ (hw _ (List.mem_of_getElem? (i := 80) rfl))) (mvT hZ (hw _ (List.mem_of_getElem? (i := 81) rfl))) (mvT hZ (hw _ (List.mem_of_getElem? (i := 82) rfl))) (by decide) (own_backW (W := 1) (s1_0 l Z a0 hw [] b4 b5 kc5 w_ERROR i_COMPACT_STRINGS v_SIOOBE_FORMATTER h5 n0 O5 g_b4 ft7 ft8 ft9 V_b5 WW) hZ (hw _ (List.mem_of_getElem? (i := 82) rfl)) (hw _ (List.mem_of_getElem? (i := 6) rfl)) (by decide) (by decide) hEL CR5.1) (g := (mkF m 22 #[iv p1, iv c0, iv c1, iv yy1] [(.ref b5), (.ref b4), (.ref b4)])) rfl (by rw [hml]; rfl) (Steps.refl _) (a := b4) (argsL := [(.ref b5)]) (rest := [(.ref b4)]) (lenOf pd___C_V rfl) rfl (by show 2 * 0 + _ ≤ _; exact Nat.le_of_eq rfl) (hb hby d1_22) (fun _ _ => ⟨rfl, e5, (by decide : 2 + 4 ≤ _), (by decide : 4 + 8 ≤ _)⟩)
      dsimp only [Pt.U, Pt.locs, Pt.cells, Pt.slots] at Xw6 lq6 yq6 zz6 st6 hQ6 hSw6 hgw6 crw6
      subst lq6 yq6 zz6
      obtain ⟨X6, hS6, hZ6, hown6⟩ := rebS hS (by rw [e5]; exact (Nat.zero_le _)) Xw6 hSw6 hgw6 hZ hown
      obtain ⟨rfl, Nq6, kq6, eq6, cq6, tt6, kt6, fq6, vq6⟩ := hQ6
      have N6 := Fr.app N0 Nq6
      have ft10 := (Safe.ext E5 CR4.1 sf_b4)
      have ft11 := (Nat.lt_of_lt_of_le lt_b4 E5.1)
      have O6 : Old Z n0 T6.heap := O5.keep kq6 (allS g_b4 all0)
      have K6 : Keep h0 T6.heap [] := K5.trans kq6 (allS (Or.inr sz_b4) all0)
      have lt_tt6 := vq6.lt
      have nt_b4_tt6 : b4 ≠ tt6 := Exa.neArv eq6 vq6 (hw _ (List.mem_of_getElem? (i := 14) rfl))
      have ft12 := (V_b5.keep kq6 (ninS (Ne.symm ne_b4_b5) nin0))
      have nt_b5_tt6 : b5 ≠ tt6 := own_neArv ft12 vq6 (by decide)
      have hk6 : T6.heap.size ≤ T6.heap.size := Nat.le_refl _
      have sf13 := crw6.safe ft11 ft10
      have sf14 := crw6.safe lt_b5 sf_b5
      have CR6 := CR5.trans crw6
      refine Go.tr (f' := (mkF m 25 #[iv p1, iv c0, iv c1, iv yy1] [(.ref b4)])) st6 ?_
      refine GoW.retV X6 hlk hx (t := (.object "java/lang/String")) hret rfl (Or.inr (Or.inr (Or.inr (Or.inr ⟨rfl, rfl, rfl⟩)))) (hb hby d1_25) rfl hS6 hk6 hZ6 hEL CR6 hh ?_ (by decide) (by decide)
      exact ⟨.ref b4, rfl, N6, K6, Or.inr ⟨b4, rfl, sz_b4, eq6⟩⟩
    · refine Go.st (f' := (mkF m 26 #[iv p1, iv c0, iv c1, iv yy1] [])) (fun _ k => XS.icmpYes X0.here hx rfl (pc0 := 12) (pc' := 26) rfl (hb hby d1_12) rfl (feq cd3).2 (by decide) (by decide) k) ?_
      refine Go.st (f' := (mkF m 27 #[iv p1, iv c0, iv c1, iv yy1] [(.int yy1)])) (fun _ k => XS.iloadN X0.here hx rfl (hb hby d1_26) rfl k) ?_
      refine Go.st (f' := (mkF m 28 #[iv p1, iv c0, iv c1, iv yy1] [(.int 2), (.int yy1)])) (fun _ k => XS.iconst X0.here hx rfl (hb hby d1_27) k) ?_
      by_cases cd15 : yy1 = (2 : Int32)
      · refine Go.st (f' := (mkF m 31 #[iv p1, iv c0, iv c1, iv yy1] [])) (fun _ k => XS.icmpNo X0.here hx rfl (hb hby d1_28) rfl (teq cd15).2 k) ?_
        refine Go.st (f' := (mkF m 32 #[iv p1, iv c0, iv c1, iv yy1] [(.int c0)])) (fun _ k => XS.iloadN X0.here hx rfl (hb hby d1_31) rfl k) ?_
        obtain ⟨_, _, ⟨T16, L16, kk16, nn16⟩, -, X16, ⟨Lc16, hQ16, lq16, yq16, zz16⟩, st16⟩ := Jvm.LawKit.callS X0 hx (y := (⟨"java/lang/String", "valueOf", "(C)Ljava/lang/String;"⟩ : MethodName)) hown (mvT hZ (hw _ (List.mem_of_getElem? (i := 4) rfl))) (mvT hZ (hw _ (List.mem_of_getElem? (i := 5) rfl))) (mvT hZ (hw _ (List.mem_of_getElem? (i := 6) rfl))) (mvT hZ (hw _ (List.mem_of_getElem? (i := 7) rfl))) (by decide) (own_back (W := 0) (st_vof l Z a0 hw [] c0 w_ERROR i_COMPACT_STRINGS v_SIOOBE_FORMATTER h0 n0 O0 hc_c0 WW) hZ (hw _ (List.mem_of_getElem? (i := 7) rfl)) (hw _ (List.mem_of_getElem? (i := 6) rfl)) (by decide) (by decide)) (g := (mkF m 32 #[iv p1, iv c0, iv c1, iv yy1] [(.int c0)])) rfl (by rw [hml]; rfl) (argsL := [(.int c0)]) (rest := []) (lenOf pd__C_Ljava_lang_String_ rfl) rfl (by show 2 * 0 + _ ≤ _; exact Nat.le_of_eq rfl) (hb hby d1_32) (fun _ _ => ⟨rfl, e0, (by decide : 0 + 2 ≤ _), (by decide : 0 + 5 ≤ _)⟩)
        dsimp only [Pt.U, Pt.locs, Pt.cells, Pt.slots] at X16 lq16 yq16 zz16 st16 hQ16
        subst lq16 yq16 zz16
        obtain ⟨b16, rfl, Nq16, zb16, kq16, eq16, cq16, tt16, kt16, zq16, fq16, vq16⟩ := hQ16
        have N16 := Fr.app N0 Nq16
        have ne_w_ERROR_b16 : w_ERROR ≠ b16 := Nat.ne_of_lt (Nat.lt_of_lt_of_le lt_w_ERROR (Nat.le_trans O0.2.1 zb16))
        have g_b16 : n0 ≤ b16 := Nat.le_trans (O0.1 ▸ O0.2.1) zb16
        have sz_b16 : h0.size ≤ b16 := Nat.le_trans K0.1 zb16
        have sn_b16 : Safe Z EL s.vm h0 b16 := Safe.new zb16
        have ne_w_ERROR_tt16 : w_ERROR ≠ tt16 := Nat.ne_of_lt (Nat.lt_of_lt_of_le lt_w_ERROR (Nat.le_trans O0.2.1 zq16))
        have g_tt16 : n0 ≤ tt16 := Nat.le_trans (O0.1 ▸ O0.2.1) zq16
        have sz_tt16 : h0.size ≤ tt16 := Nat.le_trans K0.1 zq16
        have sn_tt16 : Safe Z EL s.vm h0 tt16 := Safe.new zq16
        have O16 : Old Z n0 T16.heap := O0.keep kq16 all0
        have CR16 : CHr Z EL s.vm h0 s.vm T16.heap := CR0.trans (CHr.keep kq16 sf0 CR0.1)
        have K16 : Keep h0 T16.heap [] := K0.trans kq16 all0
        have lt_b16 := eq16.lt
        have lt_tt16 := vq16.lt
        refine Go.st (f' := (mkF m 35 #[iv p1, iv c0, iv c1, iv yy1] [(.ref b16)])) (fun _ k => st16 _ k) ?_
        refine GoW.retV X16 hlk hx (t := (.object "java/lang/String")) hret rfl (Or.inr (Or.inr (Or.inr (Or.inr ⟨rfl, rfl, rfl⟩)))) (hb hby d1_35) rfl hS (Nat.zero_le _) hZ hEL CR16 hh ?_ (by decide) (by decide)
        exact ⟨.ref b16, rfl, N16, K16, Or.inr ⟨b16, rfl, sz_b16, eq16⟩⟩
      · refine Go.st (f' := (mkF m 36 #[iv p1, iv c0, iv c1, iv yy1] [])) (fun _ k => XS.icmpYes X0.here hx rfl (pc0 := 28) (pc' := 36) rfl (hb hby d1_28) rfl (feq cd15).2 (by decide) (by decide) k) ?_
        obtain ⟨T17, h17, X17, e17, E17, A17, D17, -, st17⟩ := newO X0 hx hZ hown (hw _ (List.mem_of_getElem? (i := 78) rfl)) (hw _ (List.mem_of_getElem? (i := 14) rfl)) (hw _ (List.mem_of_getElem? (i := 6) rfl)) e0 (g := (mkF m 36 #[iv p1, iv c0, iv c1, iv yy1] [])) rfl (hb hby d1_36) (by decide) (by decide)
        obtain ⟨b17, g17⟩ : ∃ z, z = h0.size := ⟨_, rfl⟩
        rw [← g17] at A17 D17 st17
        have ne_w_ERROR_b17 : w_ERROR ≠ b17 := Nat.ne_of_lt (Nat.lt_of_lt_of_le lt_w_ERROR (Nat.le_trans O0.2.1 (Nat.le_of_eq g17.symm)))
        have g_b17 : n0 ≤ b17 := Nat.le_trans (O0.1 ▸ O0.2.1) (Nat.le_of_eq g17.symm)
        have O17 : Old Z n0 h17 := O0.ext E17
        have sz_b17 : h0.size ≤ b17 := Nat.le_trans K0.1 (Nat.le_of_eq g17.symm)
        have K17 : Keep h0 h17 [] := K0.ext E17
        have CR17 : CHr Z EL s.vm h0 s.vm h17 := CR0.trans (CHr.ext E17 CR0.1)
        have sf_b17 : Safe Z EL s.vm h17 b17 := (Safe.new (Nat.le_of_eq g17.symm)).ext E17 CR0.1
        have lt_b17 := A17.lt
        have F_value_b17 : Fld Z h17 b17 "java/lang/String" "value" "[B" .null := D17 (Or.inr (hw _ (List.mem_of_getElem? (i := 27) rfl))) (ty := (.array .byte)) (by decide)
        have F_coder_b17 : Fld Z h17 b17 "java/lang/String" "coder" "B" (.int (0 : Int32)) := D17 (Or.inr (hw _ (List.mem_of_getElem? (i := 29) rfl))) (ty := .byte) (by decide)
        refine Go.st (f' := (mkF m 39 #[iv p1, iv c0, iv c1, iv yy1] [(.ref b17)])) (fun _ k => st17 _ k) ?_
        refine Go.st (f' := (mkF m 40 #[iv p1, iv c0, iv c1, iv yy1] [(.ref b17), (.ref b17)])) (fun _ k => XS.dup X17.here hx rfl (hb hby d1_39) rfl rfl k) ?_
        refine Go.st (f' := (mkF m 41 #[iv p1, iv c0, iv c1, iv yy1] [(.int 2), (.ref b17), (.ref b17)])) (fun _ k => XS.iconst X17.here hx rfl (hb hby d1_40) k) ?_
        obtain ⟨T18, h18, kc18, X18, e18, E18, A18, st18⟩ := newP X17 hx hZ (hw _ (List.mem_of_getElem? (i := 79) rfl)) e17 (g := (mkF m 41 #[iv p1, iv c0, iv c1, iv yy1] [(.int 2), (.ref b17), (.ref b17)])) rfl (hb hby d1_41) rfl (by decide) (cap := 2) (by decide) (by decide) (by decide) (by decide)
        obtain ⟨b18, g18⟩ : ∃ z, z = h17.size := ⟨_, rfl⟩
        rw [← g18] at A18 st18
        have ne_b17_b18 : b17 ≠ b18 := Nat.ne_of_lt (Nat.lt_of_lt_of_eq lt_b17 g18.symm)
        have ne_w_ERROR_b18 : w_ERROR ≠ b18 := Nat.ne_of_lt (Nat.lt_of_lt_of_le lt_w_ERROR (Nat.le_trans O17.2.1 (Nat.le_of_eq g18.symm)))
        have g_b18 : n0 ≤ b18 := Nat.le_trans (O17.1 ▸ O17.2.1) (Nat.le_of_eq g18.symm)
        have O18 : Old Z n0 h18 := O17.ext E18
        have sz_b18 : h0.size ≤ b18 := Nat.le_trans K17.1 (Nat.le_of_eq g18.symm)
        have K18 : Keep h0 h18 [] := K17.ext E18
        have CR18 : CHr Z EL s.vm h0 s.vm h18 := CR17.trans (CHr.ext E18 CR17.1)
        have sf_b18 : Safe Z EL s.vm h18 b18 := (Safe.new (Nat.le_of_eq g18.symm)).ext E18 CR17.1
        have V_b18 : Arv Z h18 b18 kc18 .char (2 : Int32) [(.int (0 : Int32)), (.int (0 : Int32))] (.int (0 : Int32)) := (Arv.new A18 (by decide)).pad (pad_rep [] (.int (0 : Int32)) 2)
        have lt_b18 := V_b18.lt
        refine Go.st (f' := (mkF m 43 #[iv p1, iv c0, iv c1, iv yy1] [(.ref b18), (.ref b17), (.ref b17)])) (fun _ k => st18 _ k) ?_
        refine Go.st (f' := (mkF m 44 #[iv p1, iv c0, iv c1, iv yy1] [(.ref b18), (.ref b18), (.ref b17), (.ref b17)])) (fun _ k => XS.dup X18.here hx rfl (hb hby d1_43) rfl rfl k) ?_
        refine Go.st (f' := (mkF m 45 #[iv p1, iv c0, iv c1, iv yy1] [(.int 0), (.ref b18), (.ref b18), (.ref b17), (.ref b17)])) (fun _ k => XS.iconst X18.here hx rfl (hb hby d1_44) k) ?_
        refine Go.st (f' := (mkF m 46 #[iv p1, iv c0, iv c1, iv yy1] [(.int c0), (.int 0), (.ref b18), (.ref b18), (.ref b17), (.ref b17)])) (fun _ k => XS.iloadN X18.here hx rfl (hb hby d1_45) rfl k) ?_
        obtain ⟨cl19, Ar19, q19, S19, Nx19, H19, G19⟩ := id V_b18
        have hin19 : ¬ ((0 : Int32) < 0 ∨ cl19.slots.size ≤ ((0 : Int32)).toNatClampNeg) := inb_of S19 ⟨by decide, by decide⟩
        obtain ⟨T20, h20, X20, e20, W20, st20⟩ := stC X18 hx hZ e18 Ar19 (j := (0 : Int32)) hin19 (g := (mkF m 46 #[iv p1, iv c0, iv c1, iv yy1] [(.int c0), (.int 0), (.ref b18), (.ref b18), (.ref b17), (.ref b17)])) rfl rfl (hb hby d1_46)
        have V_b18_20 : Arv Z h20 b18 kc18 .char (2 : Int32) [(.int (nar .char c0)), (.int (0 : Int32))] (.int (0 : Int32)) := Arv.set Ar19 q19 S19 Nx19 H19 G19 (fits_nar_char _) W20 0 rfl (Nat.le_of_ble_eq_true rfl)
        have N20 := Fr.snoc X20 N0 g_b18
        have O20 : Old Z n0 h20 := O18.wr W20 g_b18
        have K20 : Keep h0 h20 [] := K18.wr W20 (Or.inr sz_b18)
        have CR20 : CHr Z EL s.vm h0 s.vm h20 := CR18.trans (CHr.wr W20 sf_b18 CR18.1)
        refine Go.st (f' := (mkF m 47 #[iv p1, iv c0, iv c1, iv yy1] [(.ref b18), (.ref b17), (.ref b17)])) (fun _ k => st20 _ k) ?_
        refine Go.st (f' := (mkF m 48 #[iv p1, iv c0, iv c1, iv yy1] [(.ref b18), (.ref b18), (.ref b17), (.ref b17)])) (fun _ k => XS.dup X20.here hx rfl (hb hby d1_47) rfl rfl k) ?_
        refine Go.st (f' := (mkF m 49 #[iv p1, iv c0, iv c1, iv yy1] [(.int 1), (.ref b18), (.ref b18), (.ref b17), (.ref b17)])) (fun _ k => XS.iconst X20.here hx rfl (hb hby d1_48) k) ?_
        refine Go.st (f' := (mkF m 50 #[iv p1, iv c0, iv c1, iv yy1] [(.int c1), (.int 1), (.ref b18), (.ref b18), (.ref b17), (.ref b17)])) (fun _ k => XS.iloadN X20.here hx rfl (hb hby d1_49) rfl k) ?_
        have ft22 := (Safe.wr W20 sf_b18 CR18.1 sf_b18)
        obtain ⟨cl21, Ar21, q21, S21, Nx21, H21, G21⟩ := id V_b18_20
        have hin21 : ¬ ((1 : Int32) < 0 ∨ cl21.slots.size ≤ ((1 : Int32)).toNatClampNeg) := inb_of S21 ⟨by decide, by decide⟩
        obtain ⟨T23, h23, X23, e23, W23, st23⟩ := stC X20 hx hZ e20 Ar21 (j := (1 : Int32)) hin21 (g := (mkF m 50 #[iv p1, iv c0, iv c1, iv yy1] [(.int c1), (.int 1), (.ref b18), (.ref b18), (.ref b17), (.ref b17)])) rfl rfl (hb hby d1_50)
        have V_b18_23 : Arv Z h23 b18 kc18 .char (2 : Int32) [(.int (nar .char c0)), (.int (nar .char c1))] (.int (0 : Int32)) := Arv.set Ar21 q21 S21 Nx21 H21 G21 (fits_nar_char _) W23 1 rfl (Nat.le_of_ble_eq_true rfl)
        have N23 := Fr.snoc X23 N20 g_b18
        have O23 : Old Z n0 h23 := O20.wr W23 g_b18
        have K23 : Keep h0 h23 [] := K20.wr W23 (Or.inr sz_b18)
        have CR23 : CHr Z EL s.vm h0 s.vm h23 := CR20.trans (CHr.wr W23 ft22 CR20.1)
        refine Go.st (f' := (mkF m 51 #[iv p1, iv c0, iv c1, iv yy1] [(.ref b18), (.ref b17), (.ref b17)])) (fun _ k => st23 _ k) ?_
        have ft25 := (((A17.ext E18).wr W20).wr W23)
        have ft26 := (((F_coder_b17.ext E18).other W20 (Or.inl ne_b17_b18)).other W23 (Or.inl ne_b17_b18))
        have ft27 := (((F_value_b17.ext E18).other W20 (Or.inl ne_b17_b18)).other W23 (Or.inl ne_b17_b18))
        obtain ⟨_, _, ⟨T24, L24, kk24, nn24⟩, -, X24, ⟨Lc24, hQ24, lq24, yq24, zz24⟩, st24⟩ := X23.specialBack hx (y := (⟨"java/lang/String", "<init>", "([C)V"⟩ : MethodName)) rfl hown (mvT hZ (hw _ (List.mem_of_getElem? (i := 80) rfl))) (mvT hZ (hw _ (List.mem_of_getElem? (i := 81) rfl))) (mvT hZ (hw _ (List.mem_of_getElem? (i := 82) rfl))) (by decide) (own_back (W := 1) (st1_2 l Z a0 hw [] b17 b18 kc18 (nar .char c0) (nar .char c1) w_ERROR i_COMPACT_STRINGS v_SIOOBE_FORMATTER h23 n0 O23 (own_nc hc_c0 hk_c0) (own_nc hc_c1 hk_c1) g_b17 ne_b17_b18 ft25 ft26 ft27 V_b18_23 WW) hZ (hw _ (List.mem_of_getElem? (i := 82) rfl)) (hw _ (List.mem_of_getElem? (i := 6) rfl)) (by decide) (by decide)) (g := (mkF m 51 #[iv p1, iv c0, iv c1, iv yy1] [(.ref b18), (.ref b17), (.ref b17)])) rfl (by rw [hml]; rfl) (Steps.refl _) (a := b17) (argsL := [(.ref b18)]) (rest := [(.ref b17)]) (lenOf pd___C_V rfl) rfl (by show 2 * 0 + _ ≤ _; exact Nat.le_of_eq rfl) (hb hby d1_51) (fun _ _ => ⟨rfl, e23, (by decide : 2 + 1 ≤ _), (by decide : 6 + 2 ≤ _)⟩)
        dsimp only [Pt.U, Pt.locs, Pt.cells, Pt.slots] at X24 lq24 yq24 zz24 st24 hQ24
        subst lq24 yq24 zz24
        obtain ⟨rfl, Nq24, kq24, eq24, cq24, tt24, kt24, zq24, fq24, vq24⟩ := hQ24
        have N24 := Fr.app N23 Nq24
        have ft28 := (Nat.lt_of_lt_of_eq (Nat.lt_of_lt_of_eq (Nat.lt_of_lt_of_le lt_b17 E18.1) W20.size.symm) W23.size.symm)
        have ne_b17_tt24 : b17 ≠ tt24 := Nat.ne_of_lt (Nat.lt_of_lt_of_le ft28 zq24)
        have ft29 := (Nat.lt_of_lt_of_eq (Nat.lt_of_lt_of_eq lt_b18 W20.size.symm) W23.size.symm)
        have ne_b18_tt24 : b18 ≠ tt24 := Nat.ne_of_lt (Nat.lt_of_lt_of_le ft29 zq24)
        have ne_w_ERROR_tt24 : w_ERROR ≠ tt24 := Nat.ne_of_lt (Nat.lt_of_lt_of_le lt_w_ERROR (Nat.le_trans O23.2.1 zq24))
        have g_tt24 : n0 ≤ tt24 := Nat.le_trans (O23.1 ▸ O23.2.1) zq24
        have sz_tt24 : h0.size ≤ tt24 := Nat.le_trans K23.1 zq24
        have sn_tt24 : Safe Z EL s.vm h23 tt24 := Safe.new zq24
        have O24 : Old Z n0 T24.heap := O23.keep kq24 (allS g_b17 all0)
        have ft30 := (Safe.wr W23 ft22 CR20.1 (Safe.wr W20 sf_b18 CR18.1 (Safe.ext E18 CR17.1 sf_b17)))
        have CR24 : CHr Z EL s.vm h0 s.vm T24.heap := CR23.trans (CHr.keep kq24 (sfS ft30 sf0) CR23.1)
        have K24 : Keep h0 T24.heap [] := K23.trans kq24 (allS (Or.inr sz_b17) all0)
        have lt_tt24 := vq24.lt
        refine Go.tr (f' := (mkF m 54 #[iv p1, iv c0, iv c1, iv yy1] [(.ref b17)])) st24 ?_
        refine GoW.retV X24 hlk hx (t := (.object "java/lang/String")) hret rfl (Or.inr (Or.inr (Or.inr (Or.inr ⟨rfl, rfl, rfl⟩)))) (hb hby d1_54) rfl hS (Nat.zero_le _) hZ hEL CR24 hh ?_ (by decide) (by decide)
        exact ⟨.ref b17, rfl, N24, K24, Or.inr ⟨b17, rfl, sz_b17, eq24⟩⟩
theorem pn_java_lang_Record : plainName "java/lang/Record" = true := by first | (simp [plainName, overriddenIn]; done) | decide +kernel
theorem d9_0 : decode jdk_30_method_1_code 0 = .ok (.aload_n 0, 1) := by decide +kernel
theorem d9_1 : decode jdk_30_method_1_code 1 = .ok (.invokespecial 1, 3) := by decide +kernel
theorem d9_4 : decode jdk_30_method_1_code 4 = .ok (.return_, 1) := by decide +kernel
set_option maxRecDepth 65536 in
set_option maxHeartbeats 40000000 in
theorem rmRec (l : Launch) (Z : State) (a0 : Array Value) (hw : ∀ d ∈ tables_1, d.before a0 Z = true) (ws : List Jvm.Cond) (a1 : Addr) (h0 : Heap) (n0 : Nat) (O0 : Old Z n0 h0)  :
    Con l Z (⟨"java/lang/Record", "<init>", "()V"⟩ : MethodName) jdk_30_method_1_code 1 none ws ({ frames := 1, cells := 0, slots := 0, locals := 12 } : Room) #[(.ref a1)] h0 (fun v h L => v = none ∧ Fr n0 L ∧ h = h0) := by
  refine own_body (plainFor_of_name pn_java_lang_Record) ?_
  intro p e s m below meth c s₁ hx hby hml hZ hown hnm hlk hret X0 e0
  have N0 := Fr.nil n0
  refine Go.st (T' := s₁) (f' := (mkF m 0 #[rv a1] [])) (fun _ k => castTop (by first | (simp [entryFrame, mkF, argsToLocals, Value.category]; done) | rfl) k) ?_
  refine Go.st (f' := (mkF m 1 #[rv a1] [(.ref a1)])) (fun _ k => XS.aloadN X0.here hx rfl (hb hby d9_0) rfl rfl k) ?_
  obtain ⟨T1, X1, e1, st1⟩ := initO X0 hx hZ hown (hw _ (List.mem_of_getElem? (i := 47) rfl)) (hw _ (List.mem_of_getElem? (i := 24) rfl)) (hw _ (List.mem_of_getElem? (i := 25) rfl)) e0 (g := (mkF m 1 #[rv a1] [(.ref a1)])) rfl (by rw [hml]; rfl) rfl (hb hby d9_1) (by decide) (W := 0) (by show 2 * 0 + _ ≤ _; exact Nat.le_of_eq rfl) (by decide)
  refine Go.st (f' := (mkF m 4 #[rv a1] [])) (fun _ k => st1 _ k) ?_
  refine Go.ret0 X1 hlk hx hret (hb hby d9_4) e1 ?_ (by decide) (by decide)
  exact ⟨rfl, N0, rfl⟩
theorem pn_com_example_lapwing_lapwing_profile_RuleViolation : plainName "com/example/lapwing/lapwing/profile/RuleViolation" = true := by first | (simp [plainName, overriddenIn]; done) | decide +kernel
theorem d8_0 : decode prog_38_method_1_code 0 = .ok (.aload_n 0, 1) := by decide +kernel
theorem d8_1 : decode prog_38_method_1_code 1 = .ok (.invokespecial 1, 3) := by decide +kernel
theorem pd___V : parseMethodDescriptor "()V" = some ⟨[], none⟩ := by decide +kernel
theorem d8_4 : decode prog_38_method_1_code 4 = .ok (.aload_n 0, 1) := by decide +kernel
theorem d8_5 : decode prog_38_method_1_code 5 = .ok (.aload_n 1, 1) := by decide +kernel
theorem d8_6 : decode prog_38_method_1_code 6 = .ok (.putfield 7, 3) := by decide +kernel
theorem d8_9 : decode prog_38_method_1_code 9 = .ok (.aload_n 0, 1) := by decide +kernel
theorem d8_10 : decode prog_38_method_1_code 10 = .ok (.aload_n 2, 1) := by decide +kernel
theorem d8_11 : decode prog_38_method_1_code 11 = .ok (.putfield 13, 3) := by decide +kernel
theorem d8_14 : decode prog_38_method_1_code 14 = .ok (.aload_n 0, 1) := by decide +kernel
theorem d8_15 : decode prog_38_method_1_code 15 = .ok (.aload_n 3, 1) := by decide +kernel
theorem d8_16 : decode prog_38_method_1_code 16 = .ok (.putfield 17, 3) := by decide +kernel
theorem d8_19 : decode prog_38_method_1_code 19 = .ok (.return_, 1) := by decide +kernel
set_option maxRecDepth 65536 in
set_option maxHeartbeats 40000000 in
theorem rmI11 (l : Launch) (Z : State) (a0 : Array Value) (hw : ∀ d ∈ tables_1, d.before a0 Z = true) (ws : List Jvm.Cond) (a1 : Addr) (s1 : Addr) (h0 : Heap) (n0 : Nat) (O0 : Old Z n0 h0) (g_a1 : n0 ≤ a1) (E_a1 : Exa Z h0 a1 "com/example/lapwing/lapwing/profile/RuleViolation") (F_a1_severity : Fld Z h0 a1 "com/example/lapwing/lapwing/profile/RuleViolation" "severity" "Lcom/example/lapwing/lapwing/profile/RuleViolation$Severity;" .null) (F_a1_path : Fld Z h0 a1 "com/example/lapwing/lapwing/profile/RuleViolation" "path" "Ljava/lang/String;" .null) (F_a1_message : Fld Z h0 a1 "com/example/lapwing/lapwing/profile/RuleViolation" "message" "Ljava/lang/String;" .null) :
    Con l Z (⟨"com/example/lapwing/lapwing/profile/RuleViolation", "<init>", "(Lcom/example/lapwing/lapwing/profile/RuleViolation$Severity;Ljava/lang/String;Ljava/lang/String;)V"⟩ : MethodName) prog_38_method_1_code 4 none ws ({ frames := 2, cells := 0, slots := 0, locals := 24 } : Room) #[(.ref a1), (.ref s1), .null, .null] h0 (fun v h L => v = none ∧ Fr n0 L ∧ Keep h0 h [a1] ∧ Exa Z h a1 "com/example/lapwing/lapwing/profile/RuleViolation" ∧ Fld Z h a1 "com/example/lapwing/lapwing/profile/RuleViolation" "severity" "Lcom/example/lapwing/lapwing/profile/RuleViolation$Severity;" (.ref s1) ∧ Fld Z h a1 "com/example/lapwing/lapwing/profile/RuleViolation" "path" "Ljava/lang/String;" .null ∧ Fld Z h a1 "com/example/lapwing/lapwing/profile/RuleViolation" "message" "Ljava/lang/String;" .null) := by
  refine own_body (plainFor_of_name pn_com_example_lapwing_lapwing_profile_RuleViolation) ?_
  intro p e s m below meth c s₁ hx hby hml hZ hown hnm hlk hret X0 e0
  have N0 := Fr.nil n0
  have K0 : Keep h0 h0 [a1] := Keep.refl _ _
  refine Go.st (T' := s₁) (f' := (mkF m 0 #[rv a1, rv s1, .val .null, .val .null] [])) (fun _ k => castTop (by first | (simp [entryFrame, mkF, argsToLocals, Value.category]; done) | rfl) k) ?_
  have lt_a1 := E_a1.lt
  refine Go.st (f' := (mkF m 1 #[rv a1, rv s1, .val .null, .val .null] [(.ref a1)])) (fun _ k => XS.aloadN X0.here hx rfl (hb hby d8_0) rfl rfl k) ?_
  obtain ⟨_, _, ⟨T1, L1, kk1, nn1⟩, -, X1, ⟨Lc1, hQ1, lq1, yq1, zz1⟩, st1⟩ := X0.specialBack hx (y := (⟨"java/lang/Record", "<init>", "()V"⟩ : MethodName)) rfl hown (mvT hZ (hw _ (List.mem_of_getElem? (i := 42) rfl))) (mvT hZ (hw _ (List.mem_of_getElem? (i := 43) rfl))) (mvT hZ (hw _ (List.mem_of_getElem? (i := 46) rfl))) (by decide) (own_back (W := 0) (rmRec l Z a0 hw [] a1 h0 n0 O0) hZ (hw _ (List.mem_of_getElem? (i := 46) rfl)) (hw _ (List.mem_of_getElem? (i := 45) rfl)) (by decide) (by decide)) (g := (mkF m 1 #[rv a1, rv s1, .val .null, .val .null] [(.ref a1)])) rfl (by rw [hml]; rfl) (Steps.refl _) (a := a1) (argsL := []) (rest := []) (lenOf pd___V rfl) rfl (by show 2 * 0 + _ ≤ _; exact Nat.le_of_eq rfl) (hb hby d8_1) (fun _ _ => ⟨rfl, e0, (by decide : 0 + 0 ≤ _), (by decide : 0 + 0 ≤ _)⟩)
  dsimp only [Pt.U, Pt.locs, Pt.cells, Pt.slots] at X1 lq1 yq1 zz1 st1 hQ1
  subst lq1 yq1 zz1
  obtain ⟨rfl, Nq1, kq1⟩ := hQ1
  have N1 := Fr.app N0 Nq1
  refine Go.tr (f' := (mkF m 4 #[rv a1, rv s1, .val .null, .val .null] [])) st1 ?_
  refine Go.st (f' := (mkF m 5 #[rv a1, rv s1, .val .null, .val .null] [(.ref a1)])) (fun _ k => XS.aloadN X1.here hx rfl (hb hby d8_4) rfl rfl k) ?_
  refine Go.st (f' := (mkF m 6 #[rv a1, rv s1, .val .null, .val .null] [(.ref s1), (.ref a1)])) (fun _ k => XS.aloadN X1.here hx rfl (hb hby d8_5) rfl rfl k) ?_
  obtain ⟨T2, h2, X2, e2, W2, st2⟩ := putF X1 hx hZ hown (host := "") (Or.inl (hw _ (List.mem_of_getElem? (i := 48) rfl))) Via.refl kq1 F_a1_severity E_a1 (Or.inr ⟨(hw _ (List.mem_of_getElem? (i := 49) rfl)), rfl, hnm⟩) (hw _ (List.mem_of_getElem? (i := 35) rfl)) (ty := (.object "com/example/lapwing/lapwing/profile/RuleViolation$Severity")) (by decide) rfl rfl (g := (mkF m 6 #[rv a1, rv s1, .val .null, .val .null] [(.ref s1), (.ref a1)])) rfl rfl (hb hby d8_6)
  have N2 := Fr.snoc X2 N1 g_a1
  have O2 : Old Z n0 h2 := O0.wr W2 g_a1
  have K2 : Keep h0 h2 [a1] := K0.wr W2 (Or.inl (List.mem_of_getElem? (i := 0) rfl))
  have Fw2 := F_a1_severity.same W2
  refine Go.st (f' := (mkF m 9 #[rv a1, rv s1, .val .null, .val .null] [])) (fun _ k => st2 _ k) ?_
  refine Go.st (f' := (mkF m 10 #[rv a1, rv s1, .val .null, .val .null] [(.ref a1)])) (fun _ k => XS.aloadN X2.here hx rfl (hb hby d8_9) rfl rfl k) ?_
  refine Go.st (f' := (mkF m 11 #[rv a1, rv s1, .val .null, .val .null] [.null, (.ref a1)])) (fun _ k => XS.aloadN X2.here hx rfl (hb hby d8_10) rfl rfl k) ?_
  have ft3 := (E_a1.wr W2)
  have ft4 := (F_a1_path.other W2 (Or.inr (slot_ne (Or.inr (hw _ (List.mem_of_getElem? (i := 51) rfl))) (Or.inr (hw _ (List.mem_of_getElem? (i := 49) rfl))) (by decide) (t := (.object "java/lang/String")) (t' := (.object "com/example/lapwing/lapwing/profile/RuleViolation$Severity")) (by decide) (by decide))))
  obtain ⟨T5, h5, X5, e5, W5, st5⟩ := putF X2 hx hZ hown (host := "") (Or.inl (hw _ (List.mem_of_getElem? (i := 50) rfl))) Via.refl e2 ft4 ft3 (Or.inr ⟨(hw _ (List.mem_of_getElem? (i := 51) rfl)), rfl, hnm⟩) (hw _ (List.mem_of_getElem? (i := 35) rfl)) (ty := (.object "java/lang/String")) (by decide) rfl rfl (g := (mkF m 11 #[rv a1, rv s1, .val .null, .val .null] [.null, (.ref a1)])) rfl rfl (hb hby d8_11)
  have N5 := Fr.snoc X5 N2 g_a1
  have O5 : Old Z n0 h5 := O2.wr W5 g_a1
  have K5 : Keep h0 h5 [a1] := K2.wr W5 (Or.inl (List.mem_of_getElem? (i := 0) rfl))
  have Fw5 := ft4.same W5
  refine Go.st (f' := (mkF m 14 #[rv a1, rv s1, .val .null, .val .null] [])) (fun _ k => st5 _ k) ?_
  refine Go.st (f' := (mkF m 15 #[rv a1, rv s1, .val .null, .val .null] [(.ref a1)])) (fun _ k => XS.aloadN X5.here hx rfl (hb hby d8_14) rfl rfl k) ?_
  refine Go.st (f' := (mkF m 16 #[rv a1, rv s1, .val .null, .val .null] [.null, (.ref a1)])) (fun _ k => XS.aloadN X5.here hx rfl (hb hby d8_15) rfl rfl k) ?_
  have ft6 := (ft3.wr W5)
  have ft7 := ((F_a1_message.other W2 (Or.inr (slot_ne (Or.inr (hw _ (List.mem_of_getElem? (i := 53) rfl))) (Or.inr (hw _ (List.mem_of_getElem? (i := 49) rfl))) (by decide) (t := (.object "java/lang/String")) (t' := (.object "com/example/lapwing/lapwing/profile/RuleViolation$Severity")) (by decide) (by decide)))).other W5 (Or.inr (slot_ne (Or.inr (hw _ (List.mem_of_getElem? (i := 53) rfl))) (Or.inr (hw _ (List.mem_of_getElem? (i := 51) rfl))) (by decide) (t := (.object "java/lang/String")) (t' := (.object "java/lang/String")) (by decide) (by decide))))
  obtain ⟨T8, h8, X8, e8, W8, st8⟩ := putF X5 hx hZ hown (host := "") (Or.inl (hw _ (List.mem_of_getElem? (i := 52) rfl))) Via.refl e5 ft7 ft6 (Or.inr ⟨(hw _ (List.mem_of_getElem? (i := 53) rfl)), rfl, hnm⟩) (hw _ (List.mem_of_getElem? (i := 35) rfl)) (ty := (.object "java/lang/String")) (by decide) rfl rfl (g := (mkF m 16 #[rv a1, rv s1, .val .null, .val .null] [.null, (.ref a1)])) rfl rfl (hb hby d8_16)
  have N8 := Fr.snoc X8 N5 g_a1
  have O8 : Old Z n0 h8 := O5.wr W8 g_a1
  have K8 : Keep h0 h8 [a1] := K5.wr W8 (Or.inl (List.mem_of_getElem? (i := 0) rfl))
  have Fw8 := ft7.same W8
  refine Go.st (f' := (mkF m 19 #[rv a1, rv s1, .val .null, .val .null] [])) (fun _ k => st8 _ k) ?_
  refine Go.ret0 X8 hlk hx hret (hb hby d8_19) e8 ?_ (by decide) (by decide)
  have ft9 := (ft6.wr W8)
  have ft10 := ((Fw2.other W5 (Or.inr (slot_ne (Or.inr (hw _ (List.mem_of_getElem? (i := 49) rfl))) (Or.inr (hw _ (List.mem_of_getElem? (i := 51) rfl))) (by decide) (t := (.object "com/example/lapwing/lapwing/profile/RuleViolation$Severity")) (t' := (.object "java/lang/String")) (by decide) (by decide)))).other W8 (Or.inr (slot_ne (Or.inr (hw _ (List.mem_of_getElem? (i := 49) rfl))) (Or.inr (hw _ (List.mem_of_getElem? (i := 53) rfl))) (by decide) (t := (.object "com/example/lapwing/lapwing/profile/RuleViolation$Severity")) (t' := (.object "java/lang/String")) (by decide) (by decide))))
  have ft11 := (Fw5.other W8 (Or.inr (slot_ne (Or.inr (hw _ (List.mem_of_getElem? (i := 51) rfl))) (Or.inr (hw _ (List.mem_of_getElem? (i := 53) rfl))) (by decide) (t := (.object "java/lang/String")) (t' := (.object "java/lang/String")) (by decide) (by decide))))
  exact ⟨rfl, N8, K8, ft9, ft10, ft11, Fw8⟩
theorem d7_0 : decode prog_38_method_2_code 0 = .ok (.new 8, 3) := by decide +kernel
theorem d7_3 : decode prog_38_method_2_code 3 = .ok (.dup, 1) := by decide +kernel
theorem d7_4 : decode prog_38_method_2_code 4 = .ok (.getstatic 20, 3) := by decide +kernel
theorem d7_7 : decode prog_38_method_2_code 7 = .ok (.aload_n 0, 1) := by decide +kernel
theorem d7_8 : decode prog_38_method_2_code 8 = .ok (.aload_n 1, 1) := by decide +kernel
theorem d7_9 : decode prog_38_method_2_code 9 = .ok (.invokespecial 25, 3) := by decide +kernel
theorem pd__Lcom_example_lapwing_lapwing_profile_RuleViolation_Severity_Ljava_lang_String_Ljava_lang_String__V : parseMethodDescriptor "(Lcom/example/lapwing/lapwing/profile/RuleViolation$Severity;Ljava/lang/String;Ljava/lang/String;)V" = some ⟨[(.object "com/example/lapwing/lapwing/profile/RuleViolation$Severity"), (.object "java/lang/String"), (.object "java/lang/String")], none⟩ := by decide +kernel
theorem d7_12 : decode prog_38_method_2_code 12 = .ok (.areturn, 1) := by decide +kernel
set_option maxRecDepth 65536 in
set_option maxHeartbeats 40000000 in
theorem rmW11 (l : Launch) (Z : State) (a0 : Array Value) (hw : ∀ d ∈ tables_1, d.before a0 Z = true) (ws : List Jvm.Cond) (w_ERROR : Addr) (i_COMPACT_STRINGS : Int32) (v_SIOOBE_FORMATTER : Value) (h0 : Heap) (n0 : Nat) (O0 : Old Z n0 h0) (WW : World1 Z w_ERROR i_COMPACT_STRINGS v_SIOOBE_FORMATTER) :
    Con l Z (⟨"com/example/lapwing/lapwing/profile/RuleViolation", "error", "(Ljava/lang/String;Ljava/lang/String;)Lcom/example/lapwing/lapwing/profile/RuleViolation;"⟩ : MethodName) prog_38_method_2_code 2 (some (.object "com/example/lapwing/lapwing/profile/RuleViolation")) ws ({ frames := 3, cells := 1, slots := 3, locals := 40 } : Room) #[.null, .null] h0 (fun v h L => ∃ b : Addr, v = some (.ref b) ∧ Fr n0 L ∧ h0.size ≤ b ∧ Keep h0 h [] ∧ Exa Z h b "com/example/lapwing/lapwing/profile/RuleViolation" ∧ Fld Z h b "com/example/lapwing/lapwing/profile/RuleViolation" "severity" "Lcom/example/lapwing/lapwing/profile/RuleViolation$Severity;" (.ref w_ERROR) ∧ Fld Z h b "com/example/lapwing/lapwing/profile/RuleViolation" "path" "Ljava/lang/String;" .null ∧ Fld Z h b "com/example/lapwing/lapwing/profile/RuleViolation" "message" "Ljava/lang/String;" .null) := by
  refine own_body (plainFor_of_name pn_com_example_lapwing_lapwing_profile_RuleViolation) ?_
  intro p e s m below meth c s₁ hx hby hml hZ hown hnm hlk hret X0 e0
  have N0 := Fr.nil n0
  have K0 : Keep h0 h0 [] := Keep.refl _ _
  refine Go.st (T' := s₁) (f' := (mkF m 0 #[.val .null, .val .null] [])) (fun _ k => castTop (by first | (simp [entryFrame, mkF, argsToLocals, Value.category]; done) | rfl) k) ?_
  have ⟨S_i_COMPACT_STRINGS, nz_i_COMPACT_STRINGS, S_v_SIOOBE_FORMATTER, r_v_SIOOBE_FORMATTER, S_w_ERROR, E_w_ERROR⟩ := WW
  have lt_w_ERROR := E_w_ERROR.lt
  obtain ⟨T1, h1, X1, e1, E1, A1, D1, -, st1⟩ := newO X0 hx hZ hown (hw _ (List.mem_of_getElem? (i := 34) rfl)) (hw _ (List.mem_of_getElem? (i := 35) rfl)) (hw _ (List.mem_of_getElem? (i := 32) rfl)) e0 (g := (mkF m 0 #[.val .null, .val .null] [])) rfl (hb hby d7_0) (by decide) (by decide)
  obtain ⟨b1, g1⟩ : ∃ z, z = h0.size := ⟨_, rfl⟩
  rw [← g1] at A1 D1 st1
  have ne_w_ERROR_b1 : w_ERROR ≠ b1 := Nat.ne_of_lt (Nat.lt_of_lt_of_le lt_w_ERROR (Nat.le_trans O0.2.1 (Nat.le_of_eq g1.symm)))
  have g_b1 : n0 ≤ b1 := Nat.le_trans (O0.1 ▸ O0.2.1) (Nat.le_of_eq g1.symm)
  have O1 : Old Z n0 h1 := O0.ext E1
  have sz_b1 : h0.size ≤ b1 := Nat.le_trans K0.1 (Nat.le_of_eq g1.symm)
  have K1 : Keep h0 h1 [] := K0.ext E1
  have lt_b1 := A1.lt
  have F_severity_b1 : Fld Z h1 b1 "com/example/lapwing/lapwing/profile/RuleViolation" "severity" "Lcom/example/lapwing/lapwing/profile/RuleViolation$Severity;" .null := D1 (Or.inr (hw _ (List.mem_of_getElem? (i := 49) rfl))) (ty := (.object "com/example/lapwing/lapwing/profile/RuleViolation$Severity")) (by decide)
  have F_path_b1 : Fld Z h1 b1 "com/example/lapwing/lapwing/profile/RuleViolation" "path" "Ljava/lang/String;" .null := D1 (Or.inr (hw _ (List.mem_of_getElem? (i := 51) rfl))) (ty := (.object "java/lang/String")) (by decide)
  have F_message_b1 : Fld Z h1 b1 "com/example/lapwing/lapwing/profile/RuleViolation" "message" "Ljava/lang/String;" .null := D1 (Or.inr (hw _ (List.mem_of_getElem? (i := 53) rfl))) (ty := (.object "java/lang/String")) (by decide)
  refine Go.st (f' := (mkF m 3 #[.val .null, .val .null] [(.ref b1)])) (fun _ k => st1 _ k) ?_
  refine Go.st (f' := (mkF m 4 #[.val .null, .val .null] [(.ref b1), (.ref b1)])) (fun _ k => XS.dup X1.here hx rfl (hb hby d7_3) rfl rfl k) ?_
  obtain ⟨T2, X2, e2, st2⟩ := getS2 X1 hx hZ hown (host := "") (Or.inl (hw _ (List.mem_of_getElem? (i := 36) rfl))) Via.refl e1 (S_w_ERROR.ext O1.2) (g := (mkF m 4 #[.val .null, .val .null] [(.ref b1), (.ref b1)])) rfl (hb hby d7_4)
  refine Go.st (f' := (mkF m 7 #[.val .null, .val .null] [(.ref w_ERROR), (.ref b1), (.ref b1)])) (fun _ k => st2 _ k) ?_
  refine Go.st (f' := (mkF m 8 #[.val .null, .val .null] [.null, (.ref w_ERROR), (.ref b1), (.ref b1)])) (fun _ k => XS.aloadN X2.here hx rfl (hb hby d7_7) rfl rfl k) ?_
  refine Go.st (f' := (mkF m 9 #[.val .null, .val .null] [.null, .null, (.ref w_ERROR), (.ref b1), (.ref b1)])) (fun _ k => XS.aloadN X2.here hx rfl (hb hby d7_8) rfl rfl k) ?_
  obtain ⟨_, _, ⟨T3, L3, kk3, nn3⟩, -, X3, ⟨Lc3, hQ3, lq3, yq3, zz3⟩, st3⟩ := X2.specialBack hx (y := (⟨"com/example/lapwing/lapwing/profile/RuleViolation", "<init>", "(Lcom/example/lapwing/lapwing/profile/RuleViolation$Severity;Ljava/lang/String;Ljava/lang/String;)V"⟩ : MethodName)) rfl hown (mvT hZ (hw _ (List.mem_of_getElem? (i := 39) rfl))) (mvT hZ (hw _ (List.mem_of_getElem? (i := 40) rfl))) (mvT hZ (hw _ (List.mem_of_getElem? (i := 41) rfl))) (by decide) (own_back (W := 1) (rmI11 l Z a0 hw [] b1 w_ERROR h1 n0 O1 g_b1 A1 F_severity_b1 F_path_b1 F_message_b1 ) hZ (hw _ (List.mem_of_getElem? (i := 41) rfl)) (hw _ (List.mem_of_getElem? (i := 32) rfl)) (by decide) (by decide)) (g := (mkF m 9 #[.val .null, .val .null] [.null, .null, (.ref w_ERROR), (.ref b1), (.ref b1)])) rfl (by rw [hml]; rfl) (Steps.refl _) (a := b1) (argsL := [(.ref w_ERROR), .null, .null]) (rest := [(.ref b1)]) (lenOf pd__Lcom_example_lapwing_lapwing_profile_RuleViolation_Severity_Ljava_lang_String_Ljava_lang_String__V rfl) rfl (by show 2 * 0 + _ ≤ _; exact Nat.le_of_eq rfl) (hb hby d7_9) (fun _ _ => ⟨rfl, e2, (by decide : 1 + 0 ≤ _), (by decide : 3 + 0 ≤ _)⟩)
  dsimp only [Pt.U, Pt.locs, Pt.cells, Pt.slots] at X3 lq3 yq3 zz3 st3 hQ3
  subst lq3 yq3 zz3
  obtain ⟨rfl, Nq3, kq3, eq3, fq3_0, fq3_1, fq3_2⟩ := hQ3
  have N3 := Fr.app N0 Nq3
  have O3 : Old Z n0 T3.heap := O1.keep kq3 (allS g_b1 all0)
  have K3 : Keep h0 T3.heap [] := K1.trans kq3 (allS (Or.inr sz_b1) all0)
  refine Go.tr (f' := (mkF m 12 #[.val .null, .val .null] [(.ref b1)])) st3 ?_
  refine Go.retV X3 hlk hx (t := (.object "com/example/lapwing/lapwing/profile/RuleViolation")) hret rfl (Or.inr (Or.inr (Or.inr (Or.inr ⟨rfl, rfl, rfl⟩)))) (hb hby d7_12) rfl ?_ (by decide) (by decide)
  exact ⟨b1, rfl, N3, sz_b1, K3, eq3, fq3_0, fq3_1, fq3_2⟩
set_option maxRecDepth 65536 in
set_option maxHeartbeats 40000000 in
theorem rmI10 (l : Launch) (Z : State) (a0 : Array Value) (hw : ∀ d ∈ tables_1, d.before a0 Z = true) (ws : List Jvm.Cond) (a1 : Addr) (s1 : Addr) (m1 : Addr) (h0 : Heap) (n0 : Nat) (O0 : Old Z n0 h0) (g_a1 : n0 ≤ a1) (E_a1 : Exa Z h0 a1 "com/example/lapwing/lapwing/profile/RuleViolation") (F_a1_severity : Fld Z h0 a1 "com/example/lapwing/lapwing/profile/RuleViolation" "severity" "Lcom/example/lapwing/lapwing/profile/RuleViolation$Severity;" .null) (F_a1_path : Fld Z h0 a1 "com/example/lapwing/lapwing/profile/RuleViolation" "path" "Ljava/lang/String;" .null) (F_a1_message : Fld Z h0 a1 "com/example/lapwing/lapwing/profile/RuleViolation" "message" "Ljava/lang/String;" .null) :
    Con l Z (⟨"com/example/lapwing/lapwing/profile/RuleViolation", "<init>", "(Lcom/example/lapwing/lapwing/profile/RuleViolation$Severity;Ljava/lang/String;Ljava/lang/String;)V"⟩ : MethodName) prog_38_method_1_code 4 none ws ({ frames := 2, cells := 0, slots := 0, locals := 24 } : Room) #[(.ref a1), (.ref s1), .null, (.ref m1)] h0 (fun v h L => v = none ∧ Fr n0 L ∧ Keep h0 h [a1] ∧ Exa Z h a1 "com/example/lapwing/lapwing/profile/RuleViolation" ∧ Fld Z h a1 "com/example/lapwing/lapwing/profile/RuleViolation" "severity" "Lcom/example/lapwing/lapwing/profile/RuleViolation$Severity;" (.ref s1) ∧ Fld Z h a1 "com/example/lapwing/lapwing/profile/RuleViolation" "path" "Ljava/lang/String;" .null ∧ Fld Z h a1 "com/example/lapwing/lapwing/profile/RuleViolation" "message" "Ljava/lang/String;" (.ref m1)) := by
  refine own_body (plainFor_of_name pn_com_example_lapwing_lapwing_profile_RuleViolation) ?_
  intro p e s m below meth c s₁ hx hby hml hZ hown hnm hlk hret X0 e0
  have N0 := Fr.nil n0
  have K0 : Keep h0 h0 [a1] := Keep.refl _ _
  refine Go.st (T' := s₁) (f' := (mkF m 0 #[rv a1, rv s1, .val .null, rv m1] [])) (fun _ k => castTop (by first | (simp [entryFrame, mkF, argsToLocals, Value.category]; done) | rfl) k) ?_
  have lt_a1 := E_a1.lt
  refine Go.st (f' := (mkF m 1 #[rv a1, rv s1, .val .null, rv m1] [(.ref a1)])) (fun _ k => XS.aloadN X0.here hx rfl (hb hby d8_0) rfl rfl k) ?_
  obtain ⟨_, _, ⟨T1, L1, kk1, nn1⟩, -, X1, ⟨Lc1, hQ1, lq1, yq1, zz1⟩, st1⟩ := X0.specialBack hx (y := (⟨"java/lang/Record", "<init>", "()V"⟩ : MethodName)) rfl hown (mvT hZ (hw _ (List.mem_of_getElem? (i := 42) rfl))) (mvT hZ (hw _ (List.mem_of_getElem? (i := 43) rfl))) (mvT hZ (hw _ (List.mem_of_getElem? (i := 46) rfl))) (by decide) (own_back (W := 0) (rmRec l Z a0 hw [] a1 h0 n0 O0) hZ (hw _ (List.mem_of_getElem? (i := 46) rfl)) (hw _ (List.mem_of_getElem? (i := 45) rfl)) (by decide) (by decide)) (g := (mkF m 1 #[rv a1, rv s1, .val .null, rv m1] [(.ref a1)])) rfl (by rw [hml]; rfl) (Steps.refl _) (a := a1) (argsL := []) (rest := []) (lenOf pd___V rfl) rfl (by show 2 * 0 + _ ≤ _; exact Nat.le_of_eq rfl) (hb hby d8_1) (fun _ _ => ⟨rfl, e0, (by decide : 0 + 0 ≤ _), (by decide : 0 + 0 ≤ _)⟩)
  dsimp only [Pt.U, Pt.locs, Pt.cells, Pt.slots] at X1 lq1 yq1 zz1 st1 hQ1
  subst lq1 yq1 zz1
  obtain ⟨rfl, Nq1, kq1⟩ := hQ1
  have N1 := Fr.app N0 Nq1
  refine Go.tr (f' := (mkF m 4 #[rv a1, rv s1, .val .null, rv m1] [])) st1 ?_
  refine Go.st (f' := (mkF m 5 #[rv a1, rv s1, .val .null, rv m1] [(.ref a1)])) (fun _ k => XS.aloadN X1.here hx rfl (hb hby d8_4) rfl rfl k) ?_
  refine Go.st (f' := (mkF m 6 #[rv a1, rv s1, .val .null, rv m1] [(.ref s1), (.ref a1)])) (fun _ k => XS.aloadN X1.here hx rfl (hb hby d8_5) rfl rfl k) ?_
  obtain ⟨T2, h2, X2, e2, W2, st2⟩ := putF X1 hx hZ hown (host := "") (Or.inl (hw _ (List.mem_of_getElem? (i := 48) rfl))) Via.refl kq1 F_a1_severity E_a1 (Or.inr ⟨(hw _ (List.mem_of_getElem? (i := 49) rfl)), rfl, hnm⟩) (hw _ (List.mem_of_getElem? (i := 35) rfl)) (ty := (.object "com/example/lapwing/lapwing/profile/RuleViolation$Severity")) (by decide) rfl rfl (g := (mkF m 6 #[rv a1, rv s1, .val .null, rv m1] [(.ref s1), (.ref a1)])) rfl rfl (hb hby d8_6)
  have N2 := Fr.snoc X2 N1 g_a1
  have O2 : Old Z n0 h2 := O0.wr W2 g_a1
  have K2 : Keep h0 h2 [a1] := K0.wr W2 (Or.inl (List.mem_of_getElem? (i := 0) rfl))
  have Fw2 := F_a1_severity.same W2
  refine Go.st (f' := (mkF m 9 #[rv a1, rv s1, .val .null, rv m1] [])) (fun _ k => st2 _ k) ?_
  refine Go.st (f' := (mkF m 10 #[rv a1, rv s1, .val .null, rv m1] [(.ref a1)])) (fun _ k => XS.aloadN X2.here hx rfl (hb hby d8_9) rfl rfl k) ?_
  refine Go.st (f' := (mkF m 11 #[rv a1, rv s1, .val .null, rv m1] [.null, (.ref a1)])) (fun _ k => XS.aloadN X2.here hx rfl (hb hby d8_10) rfl rfl k) ?_
  have ft3 := (E_a1.wr W2)
  have ft4 := (F_a1_path.other W2 (Or.inr (slot_ne (Or.inr (hw _ (List.mem_of_getElem? (i := 51) rfl))) (Or.inr (hw _ (List.mem_of_getElem? (i := 49) rfl))) (by decide) (t := (.object "java/lang/String")) (t' := (.object "com/example/lapwing/lapwing/profile/RuleViolation$Severity")) (by decide) (by decide))))
  obtain ⟨T5, h5, X5, e5, W5, st5⟩ := putF X2 hx hZ hown (host := "") (Or.inl (hw _ (List.mem_of_getElem? (i := 50) rfl))) Via.refl e2 ft4 ft3 (Or.inr ⟨(hw _ (List.mem_of_getElem? (i := 51) rfl)), rfl, hnm⟩) (hw _ (List.mem_of_getElem? (i := 35) rfl)) (ty := (.object "java/lang/String")) (by decide) rfl rfl (g := (mkF m 11 #[rv a1, rv s1, .val .null, rv m1] [.null, (.ref a1)])) rfl rfl (hb hby d8_11)
  have N5 := Fr.snoc X5 N2 g_a1
  have O5 : Old Z n0 h5 := O2.wr W5 g_a1
  have K5 : Keep h0 h5 [a1] := K2.wr W5 (Or.inl (List.mem_of_getElem? (i := 0) rfl))
  have Fw5 := ft4.same W5
  refine Go.st (f' := (mkF m 14 #[rv a1, rv s1, .val .null, rv m1] [])) (fun _ k => st5 _ k) ?_
  refine Go.st (f' := (mkF m 15 #[rv a1, rv s1, .val .null, rv m1] [(.ref a1)])) (fun _ k => XS.aloadN X5.here hx rfl (hb hby d8_14) rfl rfl k) ?_
  refine Go.st (f' := (mkF m 16 #[rv a1, rv s1, .val .null, rv m1] [(.ref m1), (.ref a1)])) (fun _ k => XS.aloadN X5.here hx rfl (hb hby d8_15) rfl rfl k) ?_
  have ft6 := (ft3.wr W5)
  have ft7 := ((F_a1_message.other W2 (Or.inr (slot_ne (Or.inr (hw _ (List.mem_of_getElem? (i := 53) rfl))) (Or.inr (hw _ (List.mem_of_getElem? (i := 49) rfl))) (by decide) (t := (.object "java/lang/String")) (t' := (.object "com/example/lapwing/lapwing/profile/RuleViolation$Severity")) (by decide) (by decide)))).other W5 (Or.inr (slot_ne (Or.inr (hw _ (List.mem_of_getElem? (i := 53) rfl))) (Or.inr (hw _ (List.mem_of_getElem? (i := 51) rfl))) (by decide) (t := (.object "java/lang/String")) (t' := (.object "java/lang/String")) (by decide) (by decide))))
  obtain ⟨T8, h8, X8, e8, W8, st8⟩ := putF X5 hx hZ hown (host := "") (Or.inl (hw _ (List.mem_of_getElem? (i := 52) rfl))) Via.refl e5 ft7 ft6 (Or.inr ⟨(hw _ (List.mem_of_getElem? (i := 53) rfl)), rfl, hnm⟩) (hw _ (List.mem_of_getElem? (i := 35) rfl)) (ty := (.object "java/lang/String")) (by decide) rfl rfl (g := (mkF m 16 #[rv a1, rv s1, .val .null, rv m1] [(.ref m1), (.ref a1)])) rfl rfl (hb hby d8_16)
  have N8 := Fr.snoc X8 N5 g_a1
  have O8 : Old Z n0 h8 := O5.wr W8 g_a1
  have K8 : Keep h0 h8 [a1] := K5.wr W8 (Or.inl (List.mem_of_getElem? (i := 0) rfl))
  have Fw8 := ft7.same W8
  refine Go.st (f' := (mkF m 19 #[rv a1, rv s1, .val .null, rv m1] [])) (fun _ k => st8 _ k) ?_
  refine Go.ret0 X8 hlk hx hret (hb hby d8_19) e8 ?_ (by decide) (by decide)
  have ft9 := (ft6.wr W8)
  have ft10 := ((Fw2.other W5 (Or.inr (slot_ne (Or.inr (hw _ (List.mem_of_getElem? (i := 49) rfl))) (Or.inr (hw _ (List.mem_of_getElem? (i := 51) rfl))) (by decide) (t := (.object "com/example/lapwing/lapwing/profile/RuleViolation$Severity")) (t' := (.object "java/lang/String")) (by decide) (by decide)))).other W8 (Or.inr (slot_ne (Or.inr (hw _ (List.mem_of_getElem? (i := 49) rfl))) (Or.inr (hw _ (List.mem_of_getElem? (i := 53) rfl))) (by decide) (t := (.object "com/example/lapwing/lapwing/profile/RuleViolation$Severity")) (t' := (.object "java/lang/String")) (by decide) (by decide))))
  have ft11 := (Fw5.other W8 (Or.inr (slot_ne (Or.inr (hw _ (List.mem_of_getElem? (i := 51) rfl))) (Or.inr (hw _ (List.mem_of_getElem? (i := 53) rfl))) (by decide) (t := (.object "java/lang/String")) (t' := (.object "java/lang/String")) (by decide) (by decide))))
  exact ⟨rfl, N8, K8, ft9, ft10, ft11, Fw8⟩
set_option maxRecDepth 65536 in
set_option maxHeartbeats 40000000 in
theorem rmW10 (l : Launch) (Z : State) (a0 : Array Value) (hw : ∀ d ∈ tables_1, d.before a0 Z = true) (ws : List Jvm.Cond) (m1 : Addr) (w_ERROR : Addr) (i_COMPACT_STRINGS : Int32) (v_SIOOBE_FORMATTER : Value) (h0 : Heap) (n0 : Nat) (O0 : Old Z n0 h0) (WW : World1 Z w_ERROR i_COMPACT_STRINGS v_SIOOBE_FORMATTER) :
    Con l Z (⟨"com/example/lapwing/lapwing/profile/RuleViolation", "error", "(Ljava/lang/String;Ljava/lang/String;)Lcom/example/lapwing/lapwing/profile/RuleViolation;"⟩ : MethodName) prog_38_method_2_code 2 (some (.object "com/example/lapwing/lapwing/profile/RuleViolation")) ws ({ frames := 3, cells := 1, slots := 3, locals := 40 } : Room) #[.null, (.ref m1)] h0 (fun v h L => ∃ b : Addr, v = some (.ref b) ∧ Fr n0 L ∧ h0.size ≤ b ∧ Keep h0 h [] ∧ Exa Z h b "com/example/lapwing/lapwing/profile/RuleViolation" ∧ Fld Z h b "com/example/lapwing/lapwing/profile/RuleViolation" "severity" "Lcom/example/lapwing/lapwing/profile/RuleViolation$Severity;" (.ref w_ERROR) ∧ Fld Z h b "com/example/lapwing/lapwing/profile/RuleViolation" "path" "Ljava/lang/String;" .null ∧ Fld Z h b "com/example/lapwing/lapwing/profile/RuleViolation" "message" "Ljava/lang/String;" (.ref m1)) := by
  refine own_body (plainFor_of_name pn_com_example_lapwing_lapwing_profile_RuleViolation) ?_
  intro p e s m below meth c s₁ hx hby hml hZ hown hnm hlk hret X0 e0
  have N0 := Fr.nil n0
  have K0 : Keep h0 h0 [] := Keep.refl _ _
  refine Go.st (T' := s₁) (f' := (mkF m 0 #[.val .null, rv m1] [])) (fun _ k => castTop (by first | (simp [entryFrame, mkF, argsToLocals, Value.category]; done) | rfl) k) ?_
  have ⟨S_i_COMPACT_STRINGS, nz_i_COMPACT_STRINGS, S_v_SIOOBE_FORMATTER, r_v_SIOOBE_FORMATTER, S_w_ERROR, E_w_ERROR⟩ := WW
  have lt_w_ERROR := E_w_ERROR.lt
  obtain ⟨T1, h1, X1, e1, E1, A1, D1, -, st1⟩ := newO X0 hx hZ hown (hw _ (List.mem_of_getElem? (i := 34) rfl)) (hw _ (List.mem_of_getElem? (i := 35) rfl)) (hw _ (List.mem_of_getElem? (i := 32) rfl)) e0 (g := (mkF m 0 #[.val .null, rv m1] [])) rfl (hb hby d7_0) (by decide) (by decide)
  obtain ⟨b1, g1⟩ : ∃ z, z = h0.size := ⟨_, rfl⟩
  rw [← g1] at A1 D1 st1
  have ne_w_ERROR_b1 : w_ERROR ≠ b1 := Nat.ne_of_lt (Nat.lt_of_lt_of_le lt_w_ERROR (Nat.le_trans O0.2.1 (Nat.le_of_eq g1.symm)))
  have g_b1 : n0 ≤ b1 := Nat.le_trans (O0.1 ▸ O0.2.1) (Nat.le_of_eq g1.symm)
  have O1 : Old Z n0 h1 := O0.ext E1
  have sz_b1 : h0.size ≤ b1 := Nat.le_trans K0.1 (Nat.le_of_eq g1.symm)
  have K1 : Keep h0 h1 [] := K0.ext E1
  have lt_b1 := A1.lt
  have F_severity_b1 : Fld Z h1 b1 "com/example/lapwing/lapwing/profile/RuleViolation" "severity" "Lcom/example/lapwing/lapwing/profile/RuleViolation$Severity;" .null := D1 (Or.inr (hw _ (List.mem_of_getElem? (i := 49) rfl))) (ty := (.object "com/example/lapwing/lapwing/profile/RuleViolation$Severity")) (by decide)
  have F_path_b1 : Fld Z h1 b1 "com/example/lapwing/lapwing/profile/RuleViolation" "path" "Ljava/lang/String;" .null := D1 (Or.inr (hw _ (List.mem_of_getElem? (i := 51) rfl))) (ty := (.object "java/lang/String")) (by decide)
  have F_message_b1 : Fld Z h1 b1 "com/example/lapwing/lapwing/profile/RuleViolation" "message" "Ljava/lang/String;" .null := D1 (Or.inr (hw _ (List.mem_of_getElem? (i := 53) rfl))) (ty := (.object "java/lang/String")) (by decide)
  refine Go.st (f' := (mkF m 3 #[.val .null, rv m1] [(.ref b1)])) (fun _ k => st1 _ k) ?_
  refine Go.st (f' := (mkF m 4 #[.val .null, rv m1] [(.ref b1), (.ref b1)])) (fun _ k => XS.dup X1.here hx rfl (hb hby d7_3) rfl rfl k) ?_
  obtain ⟨T2, X2, e2, st2⟩ := getS2 X1 hx hZ hown (host := "") (Or.inl (hw _ (List.mem_of_getElem? (i := 36) rfl))) Via.refl e1 (S_w_ERROR.ext O1.2) (g := (mkF m 4 #[.val .null, rv m1] [(.ref b1), (.ref b1)])) rfl (hb hby d7_4)
  refine Go.st (f' := (mkF m 7 #[.val .null, rv m1] [(.ref w_ERROR), (.ref b1), (.ref b1)])) (fun _ k => st2 _ k) ?_
  refine Go.st (f' := (mkF m 8 #[.val .null, rv m1] [.null, (.ref w_ERROR), (.ref b1), (.ref b1)])) (fun _ k => XS.aloadN X2.here hx rfl (hb hby d7_7) rfl rfl k) ?_
  refine Go.st (f' := (mkF m 9 #[.val .null, rv m1] [(.ref m1), .null, (.ref w_ERROR), (.ref b1), (.ref b1)])) (fun _ k => XS.aloadN X2.here hx rfl (hb hby d7_8) rfl rfl k) ?_
  obtain ⟨_, _, ⟨T3, L3, kk3, nn3⟩, -, X3, ⟨Lc3, hQ3, lq3, yq3, zz3⟩, st3⟩ := X2.specialBack hx (y := (⟨"com/example/lapwing/lapwing/profile/RuleViolation", "<init>", "(Lcom/example/lapwing/lapwing/profile/RuleViolation$Severity;Ljava/lang/String;Ljava/lang/String;)V"⟩ : MethodName)) rfl hown (mvT hZ (hw _ (List.mem_of_getElem? (i := 39) rfl))) (mvT hZ (hw _ (List.mem_of_getElem? (i := 40) rfl))) (mvT hZ (hw _ (List.mem_of_getElem? (i := 41) rfl))) (by decide) (own_back (W := 1) (rmI10 l Z a0 hw [] b1 w_ERROR m1 h1 n0 O1 g_b1 A1 F_severity_b1 F_path_b1 F_message_b1 ) hZ (hw _ (List.mem_of_getElem? (i := 41) rfl)) (hw _ (List.mem_of_getElem? (i := 32) rfl)) (by decide) (by decide)) (g := (mkF m 9 #[.val .null, rv m1] [(.ref m1), .null, (.ref w_ERROR), (.ref b1), (.ref b1)])) rfl (by rw [hml]; rfl) (Steps.refl _) (a := b1) (argsL := [(.ref w_ERROR), .null, (.ref m1)]) (rest := [(.ref b1)]) (lenOf pd__Lcom_example_lapwing_lapwing_profile_RuleViolation_Severity_Ljava_lang_String_Ljava_lang_String__V rfl) rfl (by show 2 * 0 + _ ≤ _; exact Nat.le_of_eq rfl) (hb hby d7_9) (fun _ _ => ⟨rfl, e2, (by decide : 1 + 0 ≤ _), (by decide : 3 + 0 ≤ _)⟩)
  dsimp only [Pt.U, Pt.locs, Pt.cells, Pt.slots] at X3 lq3 yq3 zz3 st3 hQ3
  subst lq3 yq3 zz3
  obtain ⟨rfl, Nq3, kq3, eq3, fq3_0, fq3_1, fq3_2⟩ := hQ3
  have N3 := Fr.app N0 Nq3
  have O3 : Old Z n0 T3.heap := O1.keep kq3 (allS g_b1 all0)
  have K3 : Keep h0 T3.heap [] := K1.trans kq3 (allS (Or.inr sz_b1) all0)
  refine Go.tr (f' := (mkF m 12 #[.val .null, rv m1] [(.ref b1)])) st3 ?_
  refine Go.retV X3 hlk hx (t := (.object "com/example/lapwing/lapwing/profile/RuleViolation")) hret rfl (Or.inr (Or.inr (Or.inr (Or.inr ⟨rfl, rfl, rfl⟩)))) (hb hby d7_12) rfl ?_ (by decide) (by decide)
  exact ⟨b1, rfl, N3, sz_b1, K3, eq3, fq3_0, fq3_1, fq3_2⟩
set_option maxRecDepth 65536 in
set_option maxHeartbeats 40000000 in
theorem rmI01 (l : Launch) (Z : State) (a0 : Array Value) (hw : ∀ d ∈ tables_1, d.before a0 Z = true) (ws : List Jvm.Cond) (a1 : Addr) (s1 : Addr) (p1 : Addr) (h0 : Heap) (n0 : Nat) (O0 : Old Z n0 h0) (g_a1 : n0 ≤ a1) (E_a1 : Exa Z h0 a1 "com/example/lapwing/lapwing/profile/RuleViolation") (F_a1_severity : Fld Z h0 a1 "com/example/lapwing/lapwing/profile/RuleViolation" "severity" "Lcom/example/lapwing/lapwing/profile/RuleViolation$Severity;" .null) (F_a1_path : Fld Z h0 a1 "com/example/lapwing/lapwing/profile/RuleViolation" "path" "Ljava/lang/String;" .null) (F_a1_message : Fld Z h0 a1 "com/example/lapwing/lapwing/profile/RuleViolation" "message" "Ljava/lang/String;" .null) :
    Con l Z (⟨"com/example/lapwing/lapwing/profile/RuleViolation", "<init>", "(Lcom/example/lapwing/lapwing/profile/RuleViolation$Severity;Ljava/lang/String;Ljava/lang/String;)V"⟩ : MethodName) prog_38_method_1_code 4 none ws ({ frames := 2, cells := 0, slots := 0, locals := 24 } : Room) #[(.ref a1), (.ref s1), (.ref p1), .null] h0 (fun v h L => v = none ∧ Fr n0 L ∧ Keep h0 h [a1] ∧ Exa Z h a1 "com/example/lapwing/lapwing/profile/RuleViolation" ∧ Fld Z h a1 "com/example/lapwing/lapwing/profile/RuleViolation" "severity" "Lcom/example/lapwing/lapwing/profile/RuleViolation$Severity;" (.ref s1) ∧ Fld Z h a1 "com/example/lapwing/lapwing/profile/RuleViolation" "path" "Ljava/lang/String;" (.ref p1) ∧ Fld Z h a1 "com/example/lapwing/lapwing/profile/RuleViolation" "message" "Ljava/lang/String;" .null) := by
  refine own_body (plainFor_of_name pn_com_example_lapwing_lapwing_profile_RuleViolation) ?_
  intro p e s m below meth c s₁ hx hby hml hZ hown hnm hlk hret X0 e0
  have N0 := Fr.nil n0
  have K0 : Keep h0 h0 [a1] := Keep.refl _ _
  refine Go.st (T' := s₁) (f' := (mkF m 0 #[rv a1, rv s1, rv p1, .val .null] [])) (fun _ k => castTop (by first | (simp [entryFrame, mkF, argsToLocals, Value.category]; done) | rfl) k) ?_
  have lt_a1 := E_a1.lt
  refine Go.st (f' := (mkF m 1 #[rv a1, rv s1, rv p1, .val .null] [(.ref a1)])) (fun _ k => XS.aloadN X0.here hx rfl (hb hby d8_0) rfl rfl k) ?_
  obtain ⟨_, _, ⟨T1, L1, kk1, nn1⟩, -, X1, ⟨Lc1, hQ1, lq1, yq1, zz1⟩, st1⟩ := X0.specialBack hx (y := (⟨"java/lang/Record", "<init>", "()V"⟩ : MethodName)) rfl hown (mvT hZ (hw _ (List.mem_of_getElem? (i := 42) rfl))) (mvT hZ (hw _ (List.mem_of_getElem? (i := 43) rfl))) (mvT hZ (hw _ (List.mem_of_getElem? (i := 46) rfl))) (by decide) (own_back (W := 0) (rmRec l Z a0 hw [] a1 h0 n0 O0) hZ (hw _ (List.mem_of_getElem? (i := 46) rfl)) (hw _ (List.mem_of_getElem? (i := 45) rfl)) (by decide) (by decide)) (g := (mkF m 1 #[rv a1, rv s1, rv p1, .val .null] [(.ref a1)])) rfl (by rw [hml]; rfl) (Steps.refl _) (a := a1) (argsL := []) (rest := []) (lenOf pd___V rfl) rfl (by show 2 * 0 + _ ≤ _; exact Nat.le_of_eq rfl) (hb hby d8_1) (fun _ _ => ⟨rfl, e0, (by decide : 0 + 0 ≤ _), (by decide : 0 + 0 ≤ _)⟩)
  dsimp only [Pt.U, Pt.locs, Pt.cells, Pt.slots] at X1 lq1 yq1 zz1 st1 hQ1
  subst lq1 yq1 zz1
  obtain ⟨rfl, Nq1, kq1⟩ := hQ1
  have N1 := Fr.app N0 Nq1
  refine Go.tr (f' := (mkF m 4 #[rv a1, rv s1, rv p1, .val .null] [])) st1 ?_
  refine Go.st (f' := (mkF m 5 #[rv a1, rv s1, rv p1, .val .null] [(.ref a1)])) (fun _ k => XS.aloadN X1.here hx rfl (hb hby d8_4) rfl rfl k) ?_
  refine Go.st (f' := (mkF m 6 #[rv a1, rv s1, rv p1, .val .null] [(.ref s1), (.ref a1)])) (fun _ k => XS.aloadN X1.here hx rfl (hb hby d8_5) rfl rfl k) ?_
  obtain ⟨T2, h2, X2, e2, W2, st2⟩ := putF X1 hx hZ hown (host := "") (Or.inl (hw _ (List.mem_of_getElem? (i := 48) rfl))) Via.refl kq1 F_a1_severity E_a1 (Or.inr ⟨(hw _ (List.mem_of_getElem? (i := 49) rfl)), rfl, hnm⟩) (hw _ (List.mem_of_getElem? (i := 35) rfl)) (ty := (.object "com/example/lapwing/lapwing/profile/RuleViolation$Severity")) (by decide) rfl rfl (g := (mkF m 6 #[rv a1, rv s1, rv p1, .val .null] [(.ref s1), (.ref a1)])) rfl rfl (hb hby d8_6)
  have N2 := Fr.snoc X2 N1 g_a1
  have O2 : Old Z n0 h2 := O0.wr W2 g_a1
  have K2 : Keep h0 h2 [a1] := K0.wr W2 (Or.inl (List.mem_of_getElem? (i := 0) rfl))
  have Fw2 := F_a1_severity.same W2
  refine Go.st (f' := (mkF m 9 #[rv a1, rv s1, rv p1, .val .null] [])) (fun _ k => st2 _ k) ?_
  refine Go.st (f' := (mkF m 10 #[rv a1, rv s1, rv p1, .val .null] [(.ref a1)])) (fun _ k => XS.aloadN X2.here hx rfl (hb hby d8_9) rfl rfl k) ?_
  refine Go.st (f' := (mkF m 11 #[rv a1, rv s1, rv p1, .val .null] [(.ref p1), (.ref a1)])) (fun _ k => XS.aloadN X2.here hx rfl (hb hby d8_10) rfl rfl k) ?_
  have ft3 := (E_a1.wr W2)
  have ft4 := (F_a1_path.other W2 (Or.inr (slot_ne (Or.inr (hw _ (List.mem_of_getElem? (i := 51) rfl))) (Or.inr (hw _ (List.mem_of_getElem? (i := 49) rfl))) (by decide) (t := (.object "java/lang/String")) (t' := (.object "com/example/lapwing/lapwing/profile/RuleViolation$Severity")) (by decide) (by decide))))
  obtain ⟨T5, h5, X5, e5, W5, st5⟩ := putF X2 hx hZ hown (host := "") (Or.inl (hw _ (List.mem_of_getElem? (i := 50) rfl))) Via.refl e2 ft4 ft3 (Or.inr ⟨(hw _ (List.mem_of_getElem? (i := 51) rfl)), rfl, hnm⟩) (hw _ (List.mem_of_getElem? (i := 35) rfl)) (ty := (.object "java/lang/String")) (by decide) rfl rfl (g := (mkF m 11 #[rv a1, rv s1, rv p1, .val .null] [(.ref p1), (.ref a1)])) rfl rfl (hb hby d8_11)
  have N5 := Fr.snoc X5 N2 g_a1
  have O5 : Old Z n0 h5 := O2.wr W5 g_a1
  have K5 : Keep h0 h5 [a1] := K2.wr W5 (Or.inl (List.mem_of_getElem? (i := 0) rfl))
  have Fw5 := ft4.same W5
  refine Go.st (f' := (mkF m 14 #[rv a1, rv s1, rv p1, .val .null] [])) (fun _ k => st5 _ k) ?_
  refine Go.st (f' := (mkF m 15 #[rv a1, rv s1, rv p1, .val .null] [(.ref a1)])) (fun _ k => XS.aloadN X5.here hx rfl (hb hby d8_14) rfl rfl k) ?_
  refine Go.st (f' := (mkF m 16 #[rv a1, rv s1, rv p1, .val .null] [.null, (.ref a1)])) (fun _ k => XS.aloadN X5.here hx rfl (hb hby d8_15) rfl rfl k) ?_
  have ft6 := (ft3.wr W5)
  have ft7 := ((F_a1_message.other W2 (Or.inr (slot_ne (Or.inr (hw _ (List.mem_of_getElem? (i := 53) rfl))) (Or.inr (hw _ (List.mem_of_getElem? (i := 49) rfl))) (by decide) (t := (.object "java/lang/String")) (t' := (.object "com/example/lapwing/lapwing/profile/RuleViolation$Severity")) (by decide) (by decide)))).other W5 (Or.inr (slot_ne (Or.inr (hw _ (List.mem_of_getElem? (i := 53) rfl))) (Or.inr (hw _ (List.mem_of_getElem? (i := 51) rfl))) (by decide) (t := (.object "java/lang/String")) (t' := (.object "java/lang/String")) (by decide) (by decide))))
  obtain ⟨T8, h8, X8, e8, W8, st8⟩ := putF X5 hx hZ hown (host := "") (Or.inl (hw _ (List.mem_of_getElem? (i := 52) rfl))) Via.refl e5 ft7 ft6 (Or.inr ⟨(hw _ (List.mem_of_getElem? (i := 53) rfl)), rfl, hnm⟩) (hw _ (List.mem_of_getElem? (i := 35) rfl)) (ty := (.object "java/lang/String")) (by decide) rfl rfl (g := (mkF m 16 #[rv a1, rv s1, rv p1, .val .null] [.null, (.ref a1)])) rfl rfl (hb hby d8_16)
  have N8 := Fr.snoc X8 N5 g_a1
  have O8 : Old Z n0 h8 := O5.wr W8 g_a1
  have K8 : Keep h0 h8 [a1] := K5.wr W8 (Or.inl (List.mem_of_getElem? (i := 0) rfl))
  have Fw8 := ft7.same W8
  refine Go.st (f' := (mkF m 19 #[rv a1, rv s1, rv p1, .val .null] [])) (fun _ k => st8 _ k) ?_
  refine Go.ret0 X8 hlk hx hret (hb hby d8_19) e8 ?_ (by decide) (by decide)
  have ft9 := (ft6.wr W8)
  have ft10 := ((Fw2.other W5 (Or.inr (slot_ne (Or.inr (hw _ (List.mem_of_getElem? (i := 49) rfl))) (Or.inr (hw _ (List.mem_of_getElem? (i := 51) rfl))) (by decide) (t := (.object "com/example/lapwing/lapwing/profile/RuleViolation$Severity")) (t' := (.object "java/lang/String")) (by decide) (by decide)))).other W8 (Or.inr (slot_ne (Or.inr (hw _ (List.mem_of_getElem? (i := 49) rfl))) (Or.inr (hw _ (List.mem_of_getElem? (i := 53) rfl))) (by decide) (t := (.object "com/example/lapwing/lapwing/profile/RuleViolation$Severity")) (t' := (.object "java/lang/String")) (by decide) (by decide))))
  have ft11 := (Fw5.other W8 (Or.inr (slot_ne (Or.inr (hw _ (List.mem_of_getElem? (i := 51) rfl))) (Or.inr (hw _ (List.mem_of_getElem? (i := 53) rfl))) (by decide) (t := (.object "java/lang/String")) (t' := (.object "java/lang/String")) (by decide) (by decide))))
  exact ⟨rfl, N8, K8, ft9, ft10, ft11, Fw8⟩
set_option maxRecDepth 65536 in
set_option maxHeartbeats 40000000 in
theorem rmW01 (l : Launch) (Z : State) (a0 : Array Value) (hw : ∀ d ∈ tables_1, d.before a0 Z = true) (ws : List Jvm.Cond) (p1 : Addr) (w_ERROR : Addr) (i_COMPACT_STRINGS : Int32) (v_SIOOBE_FORMATTER : Value) (h0 : Heap) (n0 : Nat) (O0 : Old Z n0 h0) (WW : World1 Z w_ERROR i_COMPACT_STRINGS v_SIOOBE_FORMATTER) :
    Con l Z (⟨"com/example/lapwing/lapwing/profile/RuleViolation", "error", "(Ljava/lang/String;Ljava/lang/String;)Lcom/example/lapwing/lapwing/profile/RuleViolation;"⟩ : MethodName) prog_38_method_2_code 2 (some (.object "com/example/lapwing/lapwing/profile/RuleViolation")) ws ({ frames := 3, cells := 1, slots := 3, locals := 40 } : Room) #[(.ref p1), .null] h0 (fun v h L => ∃ b : Addr, v = some (.ref b) ∧ Fr n0 L ∧ h0.size ≤ b ∧ Keep h0 h [] ∧ Exa Z h b "com/example/lapwing/lapwing/profile/RuleViolation" ∧ Fld Z h b "com/example/lapwing/lapwing/profile/RuleViolation" "severity" "Lcom/example/lapwing/lapwing/profile/RuleViolation$Severity;" (.ref w_ERROR) ∧ Fld Z h b "com/example/lapwing/lapwing/profile/RuleViolation" "path" "Ljava/lang/String;" (.ref p1) ∧ Fld Z h b "com/example/lapwing/lapwing/profile/RuleViolation" "message" "Ljava/lang/String;" .null) := by
  refine own_body (plainFor_of_name pn_com_example_lapwing_lapwing_profile_RuleViolation) ?_
  intro p e s m below meth c s₁ hx hby hml hZ hown hnm hlk hret X0 e0
  have N0 := Fr.nil n0
  have K0 : Keep h0 h0 [] := Keep.refl _ _
  refine Go.st (T' := s₁) (f' := (mkF m 0 #[rv p1, .val .null] [])) (fun _ k => castTop (by first | (simp [entryFrame, mkF, argsToLocals, Value.category]; done) | rfl) k) ?_
  have ⟨S_i_COMPACT_STRINGS, nz_i_COMPACT_STRINGS, S_v_SIOOBE_FORMATTER, r_v_SIOOBE_FORMATTER, S_w_ERROR, E_w_ERROR⟩ := WW
  have lt_w_ERROR := E_w_ERROR.lt
  obtain ⟨T1, h1, X1, e1, E1, A1, D1, -, st1⟩ := newO X0 hx hZ hown (hw _ (List.mem_of_getElem? (i := 34) rfl)) (hw _ (List.mem_of_getElem? (i := 35) rfl)) (hw _ (List.mem_of_getElem? (i := 32) rfl)) e0 (g := (mkF m 0 #[rv p1, .val .null] [])) rfl (hb hby d7_0) (by decide) (by decide)
  obtain ⟨b1, g1⟩ : ∃ z, z = h0.size := ⟨_, rfl⟩
  rw [← g1] at A1 D1 st1
  have ne_w_ERROR_b1 : w_ERROR ≠ b1 := Nat.ne_of_lt (Nat.lt_of_lt_of_le lt_w_ERROR (Nat.le_trans O0.2.1 (Nat.le_of_eq g1.symm)))
  have g_b1 : n0 ≤ b1 := Nat.le_trans (O0.1 ▸ O0.2.1) (Nat.le_of_eq g1.symm)
  have O1 : Old Z n0 h1 := O0.ext E1
  have sz_b1 : h0.size ≤ b1 := Nat.le_trans K0.1 (Nat.le_of_eq g1.symm)
  have K1 : Keep h0 h1 [] := K0.ext E1
  have lt_b1 := A1.lt
  have F_severity_b1 : Fld Z h1 b1 "com/example/lapwing/lapwing/profile/RuleViolation" "severity" "Lcom/example/lapwing/lapwing/profile/RuleViolation$Severity;" .null := D1 (Or.inr (hw _ (List.mem_of_getElem? (i := 49) rfl))) (ty := (.object "com/example/lapwing/lapwing/profile/RuleViolation$Severity")) (by decide)
  have F_path_b1 : Fld Z h1 b1 "com/example/lapwing/lapwing/profile/RuleViolation" "path" "Ljava/lang/String;" .null := D1 (Or.inr (hw _ (List.mem_of_getElem? (i := 51) rfl))) (ty := (.object "java/lang/String")) (by decide)
  have F_message_b1 : Fld Z h1 b1 "com/example/lapwing/lapwing/profile/RuleViolation" "message" "Ljava/lang/String;" .null := D1 (Or.inr (hw _ (List.mem_of_getElem? (i := 53) rfl))) (ty := (.object "java/lang/String")) (by decide)
  refine Go.st (f' := (mkF m 3 #[rv p1, .val .null] [(.ref b1)])) (fun _ k => st1 _ k) ?_
  refine Go.st (f' := (mkF m 4 #[rv p1, .val .null] [(.ref b1), (.ref b1)])) (fun _ k => XS.dup X1.here hx rfl (hb hby d7_3) rfl rfl k) ?_
  obtain ⟨T2, X2, e2, st2⟩ := getS2 X1 hx hZ hown (host := "") (Or.inl (hw _ (List.mem_of_getElem? (i := 36) rfl))) Via.refl e1 (S_w_ERROR.ext O1.2) (g := (mkF m 4 #[rv p1, .val .null] [(.ref b1), (.ref b1)])) rfl (hb hby d7_4)
  refine Go.st (f' := (mkF m 7 #[rv p1, .val .null] [(.ref w_ERROR), (.ref b1), (.ref b1)])) (fun _ k => st2 _ k) ?_
  refine Go.st (f' := (mkF m 8 #[rv p1, .val .null] [(.ref p1), (.ref w_ERROR), (.ref b1), (.ref b1)])) (fun _ k => XS.aloadN X2.here hx rfl (hb hby d7_7) rfl rfl k) ?_
  refine Go.st (f' := (mkF m 9 #[rv p1, .val .null] [.null, (.ref p1), (.ref w_ERROR), (.ref b1), (.ref b1)])) (fun _ k => XS.aloadN X2.here hx rfl (hb hby d7_8) rfl rfl k) ?_
  obtain ⟨_, _, ⟨T3, L3, kk3, nn3⟩, -, X3, ⟨Lc3, hQ3, lq3, yq3, zz3⟩, st3⟩ := X2.specialBack hx (y := (⟨"com/example/lapwing/lapwing/profile/RuleViolation", "<init>", "(Lcom/example/lapwing/lapwing/profile/RuleViolation$Severity;Ljava/lang/String;Ljava/lang/String;)V"⟩ : MethodName)) rfl hown (mvT hZ (hw _ (List.mem_of_getElem? (i := 39) rfl))) (mvT hZ (hw _ (List.mem_of_getElem? (i := 40) rfl))) (mvT hZ (hw _ (List.mem_of_getElem? (i := 41) rfl))) (by decide) (own_back (W := 1) (rmI01 l Z a0 hw [] b1 w_ERROR p1 h1 n0 O1 g_b1 A1 F_severity_b1 F_path_b1 F_message_b1 ) hZ (hw _ (List.mem_of_getElem? (i := 41) rfl)) (hw _ (List.mem_of_getElem? (i := 32) rfl)) (by decide) (by decide)) (g := (mkF m 9 #[rv p1, .val .null] [.null, (.ref p1), (.ref w_ERROR), (.ref b1), (.ref b1)])) rfl (by rw [hml]; rfl) (Steps.refl _) (a := b1) (argsL := [(.ref w_ERROR), (.ref p1), .null]) (rest := [(.ref b1)]) (lenOf pd__Lcom_example_lapwing_lapwing_profile_RuleViolation_Severity_Ljava_lang_String_Ljava_lang_String__V rfl) rfl (by show 2 * 0 + _ ≤ _; exact Nat.le_of_eq rfl) (hb hby d7_9) (fun _ _ => ⟨rfl, e2, (by decide : 1 + 0 ≤ _), (by decide : 3 + 0 ≤ _)⟩)
  dsimp only [Pt.U, Pt.locs, Pt.cells, Pt.slots] at X3 lq3 yq3 zz3 st3 hQ3
  subst lq3 yq3 zz3
  obtain ⟨rfl, Nq3, kq3, eq3, fq3_0, fq3_1, fq3_2⟩ := hQ3
  have N3 := Fr.app N0 Nq3
  have O3 : Old Z n0 T3.heap := O1.keep kq3 (allS g_b1 all0)
  have K3 : Keep h0 T3.heap [] := K1.trans kq3 (allS (Or.inr sz_b1) all0)
  refine Go.tr (f' := (mkF m 12 #[rv p1, .val .null] [(.ref b1)])) st3 ?_
  refine Go.retV X3 hlk hx (t := (.object "com/example/lapwing/lapwing/profile/RuleViolation")) hret rfl (Or.inr (Or.inr (Or.inr (Or.inr ⟨rfl, rfl, rfl⟩)))) (hb hby d7_12) rfl ?_ (by decide) (by decide)
  exact ⟨b1, rfl, N3, sz_b1, K3, eq3, fq3_0, fq3_1, fq3_2⟩
set_option maxRecDepth 65536 in
set_option maxHeartbeats 40000000 in
theorem rmI00 (l : Launch) (Z : State) (a0 : Array Value) (hw : ∀ d ∈ tables_1, d.before a0 Z = true) (ws : List Jvm.Cond) (a1 : Addr) (s1 : Addr) (p1 : Addr) (m1 : Addr) (h0 : Heap) (n0 : Nat) (O0 : Old Z n0 h0) (g_a1 : n0 ≤ a1) (E_a1 : Exa Z h0 a1 "com/example/lapwing/lapwing/profile/RuleViolation") (F_a1_severity : Fld Z h0 a1 "com/example/lapwing/lapwing/profile/RuleViolation" "severity" "Lcom/example/lapwing/lapwing/profile/RuleViolation$Severity;" .null) (F_a1_path : Fld Z h0 a1 "com/example/lapwing/lapwing/profile/RuleViolation" "path" "Ljava/lang/String;" .null) (F_a1_message : Fld Z h0 a1 "com/example/lapwing/lapwing/profile/RuleViolation" "message" "Ljava/lang/String;" .null) :
    Con l Z (⟨"com/example/lapwing/lapwing/profile/RuleViolation", "<init>", "(Lcom/example/lapwing/lapwing/profile/RuleViolation$Severity;Ljava/lang/String;Ljava/lang/String;)V"⟩ : MethodName) prog_38_method_1_code 4 none ws ({ frames := 2, cells := 0, slots := 0, locals := 24 } : Room) #[(.ref a1), (.ref s1), (.ref p1), (.ref m1)] h0 (fun v h L => v = none ∧ Fr n0 L ∧ Keep h0 h [a1] ∧ Exa Z h a1 "com/example/lapwing/lapwing/profile/RuleViolation" ∧ Fld Z h a1 "com/example/lapwing/lapwing/profile/RuleViolation" "severity" "Lcom/example/lapwing/lapwing/profile/RuleViolation$Severity;" (.ref s1) ∧ Fld Z h a1 "com/example/lapwing/lapwing/profile/RuleViolation" "path" "Ljava/lang/String;" (.ref p1) ∧ Fld Z h a1 "com/example/lapwing/lapwing/profile/RuleViolation" "message" "Ljava/lang/String;" (.ref m1)) := by
  refine own_body (plainFor_of_name pn_com_example_lapwing_lapwing_profile_RuleViolation) ?_
  intro p e s m below meth c s₁ hx hby hml hZ hown hnm hlk hret X0 e0
  have N0 := Fr.nil n0
  have K0 : Keep h0 h0 [a1] := Keep.refl _ _
  refine Go.st (T' := s₁) (f' := (mkF m 0 #[rv a1, rv s1, rv p1, rv m1] [])) (fun _ k => castTop (by first | (simp [entryFrame, mkF, argsToLocals, Value.category]; done) | rfl) k) ?_
  have lt_a1 := E_a1.lt
  refine Go.st (f' := (mkF m 1 #[rv a1, rv s1, rv p1, rv m1] [(.ref a1)])) (fun _ k => XS.aloadN X0.here hx rfl (hb hby d8_0) rfl rfl k) ?_
  obtain ⟨_, _, ⟨T1, L1, kk1, nn1⟩, -, X1, ⟨Lc1, hQ1, lq1, yq1, zz1⟩, st1⟩ := X0.specialBack hx (y := (⟨"java/lang/Record", "<init>", "()V"⟩ : MethodName)) rfl hown (mvT hZ (hw _ (List.mem_of_getElem? (i := 42) rfl))) (mvT hZ (hw _ (List.mem_of_getElem? (i := 43) rfl))) (mvT hZ (hw _ (List.mem_of_getElem? (i := 46) rfl))) (by decide) (own_back (W := 0) (rmRec l Z a0 hw [] a1 h0 n0 O0) hZ (hw _ (List.mem_of_getElem? (i := 46) rfl)) (hw _ (List.mem_of_getElem? (i := 45) rfl)) (by decide) (by decide)) (g := (mkF m 1 #[rv a1, rv s1, rv p1, rv m1] [(.ref a1)])) rfl (by rw [hml]; rfl) (Steps.refl _) (a := a1) (argsL := []) (rest := []) (lenOf pd___V rfl) rfl (by show 2 * 0 + _ ≤ _; exact Nat.le_of_eq rfl) (hb hby d8_1) (fun _ _ => ⟨rfl, e0, (by decide : 0 + 0 ≤ _), (by decide : 0 + 0 ≤ _)⟩)
  dsimp only [Pt.U, Pt.locs, Pt.cells, Pt.slots] at X1 lq1 yq1 zz1 st1 hQ1
  subst lq1 yq1 zz1
  obtain ⟨rfl, Nq1, kq1⟩ := hQ1
  have N1 := Fr.app N0 Nq1
  refine Go.tr (f' := (mkF m 4 #[rv a1, rv s1, rv p1, rv m1] [])) st1 ?_
  refine Go.st (f' := (mkF m 5 #[rv a1, rv s1, rv p1, rv m1] [(.ref a1)])) (fun _ k => XS.aloadN X1.here hx rfl (hb hby d8_4) rfl rfl k) ?_
  refine Go.st (f' := (mkF m 6 #[rv a1, rv s1, rv p1, rv m1] [(.ref s1), (.ref a1)])) (fun _ k => XS.aloadN X1.here hx rfl (hb hby d8_5) rfl rfl k) ?_
  obtain ⟨T2, h2, X2, e2, W2, st2⟩ := putF X1 hx hZ hown (host := "") (Or.inl (hw _ (List.mem_of_getElem? (i := 48) rfl))) Via.refl kq1 F_a1_severity E_a1 (Or.inr ⟨(hw _ (List.mem_of_getElem? (i := 49) rfl)), rfl, hnm⟩) (hw _ (List.mem_of_getElem? (i := 35) rfl)) (ty := (.object "com/example/lapwing/lapwing/profile/RuleViolation$Severity")) (by decide) rfl rfl (g := (mkF m 6 #[rv a1, rv s1, rv p1, rv m1] [(.ref s1), (.ref a1)])) rfl rfl (hb hby d8_6)
  have N2 := Fr.snoc X2 N1 g_a1
  have O2 : Old Z n0 h2 := O0.wr W2 g_a1
  have K2 : Keep h0 h2 [a1] := K0.wr W2 (Or.inl (List.mem_of_getElem? (i := 0) rfl))
  have Fw2 := F_a1_severity.same W2
  refine Go.st (f' := (mkF m 9 #[rv a1, rv s1, rv p1, rv m1] [])) (fun _ k => st2 _ k) ?_
  refine Go.st (f' := (mkF m 10 #[rv a1, rv s1, rv p1, rv m1] [(.ref a1)])) (fun _ k => XS.aloadN X2.here hx rfl (hb hby d8_9) rfl rfl k) ?_
  refine Go.st (f' := (mkF m 11 #[rv a1, rv s1, rv p1, rv m1] [(.ref p1), (.ref a1)])) (fun _ k => XS.aloadN X2.here hx rfl (hb hby d8_10) rfl rfl k) ?_
  have ft3 := (E_a1.wr W2)
  have ft4 := (F_a1_path.other W2 (Or.inr (slot_ne (Or.inr (hw _ (List.mem_of_getElem? (i := 51) rfl))) (Or.inr (hw _ (List.mem_of_getElem? (i := 49) rfl))) (by decide) (t := (.object "java/lang/String")) (t' := (.object "com/example/lapwing/lapwing/profile/RuleViolation$Severity")) (by decide) (by decide))))
  obtain ⟨T5, h5, X5, e5, W5, st5⟩ := putF X2 hx hZ hown (host := "") (Or.inl (hw _ (List.mem_of_getElem? (i := 50) rfl))) Via.refl e2 ft4 ft3 (Or.inr ⟨(hw _ (List.mem_of_getElem? (i := 51) rfl)), rfl, hnm⟩) (hw _ (List.mem_of_getElem? (i := 35) rfl)) (ty := (.object "java/lang/String")) (by decide) rfl rfl (g := (mkF m 11 #[rv a1, rv s1, rv p1, rv m1] [(.ref p1), (.ref a1)])) rfl rfl (hb hby d8_11)
  have N5 := Fr.snoc X5 N2 g_a1
  have O5 : Old Z n0 h5 := O2.wr W5 g_a1
  have K5 : Keep h0 h5 [a1] := K2.wr W5 (Or.inl (List.mem_of_getElem? (i := 0) rfl))
  have Fw5 := ft4.same W5
  refine Go.st (f' := (mkF m 14 #[rv a1, rv s1, rv p1, rv m1] [])) (fun _ k => st5 _ k) ?_
  refine Go.st (f' := (mkF m 15 #[rv a1, rv s1, rv p1, rv m1] [(.ref a1)])) (fun _ k => XS.aloadN X5.here hx rfl (hb hby d8_14) rfl rfl k) ?_
  refine Go.st (f' := (mkF m 16 #[rv a1, rv s1, rv p1, rv m1] [(.ref m1), (.ref a1)])) (fun _ k => XS.aloadN X5.here hx rfl (hb hby d8_15) rfl rfl k) ?_
  have ft6 := (ft3.wr W5)
  have ft7 := ((F_a1_message.other W2 (Or.inr (slot_ne (Or.inr (hw _ (List.mem_of_getElem? (i := 53) rfl))) (Or.inr (hw _ (List.mem_of_getElem? (i := 49) rfl))) (by decide) (t := (.object "java/lang/String")) (t' := (.object "com/example/lapwing/lapwing/profile/RuleViolation$Severity")) (by decide) (by decide)))).other W5 (Or.inr (slot_ne (Or.inr (hw _ (List.mem_of_getElem? (i := 53) rfl))) (Or.inr (hw _ (List.mem_of_getElem? (i := 51) rfl))) (by decide) (t := (.object "java/lang/String")) (t' := (.object "java/lang/String")) (by decide) (by decide))))
  obtain ⟨T8, h8, X8, e8, W8, st8⟩ := putF X5 hx hZ hown (host := "") (Or.inl (hw _ (List.mem_of_getElem? (i := 52) rfl))) Via.refl e5 ft7 ft6 (Or.inr ⟨(hw _ (List.mem_of_getElem? (i := 53) rfl)), rfl, hnm⟩) (hw _ (List.mem_of_getElem? (i := 35) rfl)) (ty := (.object "java/lang/String")) (by decide) rfl rfl (g := (mkF m 16 #[rv a1, rv s1, rv p1, rv m1] [(.ref m1), (.ref a1)])) rfl rfl (hb hby d8_16)
  have N8 := Fr.snoc X8 N5 g_a1
  have O8 : Old Z n0 h8 := O5.wr W8 g_a1
  have K8 : Keep h0 h8 [a1] := K5.wr W8 (Or.inl (List.mem_of_getElem? (i := 0) rfl))
  have Fw8 := ft7.same W8
  refine Go.st (f' := (mkF m 19 #[rv a1, rv s1, rv p1, rv m1] [])) (fun _ k => st8 _ k) ?_
  refine Go.ret0 X8 hlk hx hret (hb hby d8_19) e8 ?_ (by decide) (by decide)
  have ft9 := (ft6.wr W8)
  have ft10 := ((Fw2.other W5 (Or.inr (slot_ne (Or.inr (hw _ (List.mem_of_getElem? (i := 49) rfl))) (Or.inr (hw _ (List.mem_of_getElem? (i := 51) rfl))) (by decide) (t := (.object "com/example/lapwing/lapwing/profile/RuleViolation$Severity")) (t' := (.object "java/lang/String")) (by decide) (by decide)))).other W8 (Or.inr (slot_ne (Or.inr (hw _ (List.mem_of_getElem? (i := 49) rfl))) (Or.inr (hw _ (List.mem_of_getElem? (i := 53) rfl))) (by decide) (t := (.object "com/example/lapwing/lapwing/profile/RuleViolation$Severity")) (t' := (.object "java/lang/String")) (by decide) (by decide))))
  have ft11 := (Fw5.other W8 (Or.inr (slot_ne (Or.inr (hw _ (List.mem_of_getElem? (i := 51) rfl))) (Or.inr (hw _ (List.mem_of_getElem? (i := 53) rfl))) (by decide) (t := (.object "java/lang/String")) (t' := (.object "java/lang/String")) (by decide) (by decide))))
  exact ⟨rfl, N8, K8, ft9, ft10, ft11, Fw8⟩
set_option maxRecDepth 65536 in
set_option maxHeartbeats 40000000 in
theorem rmW00 (l : Launch) (Z : State) (a0 : Array Value) (hw : ∀ d ∈ tables_1, d.before a0 Z = true) (ws : List Jvm.Cond) (p1 : Addr) (m1 : Addr) (w_ERROR : Addr) (i_COMPACT_STRINGS : Int32) (v_SIOOBE_FORMATTER : Value) (h0 : Heap) (n0 : Nat) (O0 : Old Z n0 h0) (WW : World1 Z w_ERROR i_COMPACT_STRINGS v_SIOOBE_FORMATTER) :
    Con l Z (⟨"com/example/lapwing/lapwing/profile/RuleViolation", "error", "(Ljava/lang/String;Ljava/lang/String;)Lcom/example/lapwing/lapwing/profile/RuleViolation;"⟩ : MethodName) prog_38_method_2_code 2 (some (.object "com/example/lapwing/lapwing/profile/RuleViolation")) ws ({ frames := 3, cells := 1, slots := 3, locals := 40 } : Room) #[(.ref p1), (.ref m1)] h0 (fun v h L => ∃ b : Addr, v = some (.ref b) ∧ Fr n0 L ∧ h0.size ≤ b ∧ Keep h0 h [] ∧ Exa Z h b "com/example/lapwing/lapwing/profile/RuleViolation" ∧ Fld Z h b "com/example/lapwing/lapwing/profile/RuleViolation" "severity" "Lcom/example/lapwing/lapwing/profile/RuleViolation$Severity;" (.ref w_ERROR) ∧ Fld Z h b "com/example/lapwing/lapwing/profile/RuleViolation" "path" "Ljava/lang/String;" (.ref p1) ∧ Fld Z h b "com/example/lapwing/lapwing/profile/RuleViolation" "message" "Ljava/lang/String;" (.ref m1)) := by
  refine own_body (plainFor_of_name pn_com_example_lapwing_lapwing_profile_RuleViolation) ?_
  intro p e s m below meth c s₁ hx hby hml hZ hown hnm hlk hret X0 e0
  have N0 := Fr.nil n0
  have K0 : Keep h0 h0 [] := Keep.refl _ _
  refine Go.st (T' := s₁) (f' := (mkF m 0 #[rv p1, rv m1] [])) (fun _ k => castTop (by first | (simp [entryFrame, mkF, argsToLocals, Value.category]; done) | rfl) k) ?_
  have ⟨S_i_COMPACT_STRINGS, nz_i_COMPACT_STRINGS, S_v_SIOOBE_FORMATTER, r_v_SIOOBE_FORMATTER, S_w_ERROR, E_w_ERROR⟩ := WW
  have lt_w_ERROR := E_w_ERROR.lt
  obtain ⟨T1, h1, X1, e1, E1, A1, D1, -, st1⟩ := newO X0 hx hZ hown (hw _ (List.mem_of_getElem? (i := 34) rfl)) (hw _ (List.mem_of_getElem? (i := 35) rfl)) (hw _ (List.mem_of_getElem? (i := 32) rfl)) e0 (g := (mkF m 0 #[rv p1, rv m1] [])) rfl (hb hby d7_0) (by decide) (by decide)
  obtain ⟨b1, g1⟩ : ∃ z, z = h0.size := ⟨_, rfl⟩
  rw [← g1] at A1 D1 st1
  have ne_w_ERROR_b1 : w_ERROR ≠ b1 := Nat.ne_of_lt (Nat.lt_of_lt_of_le lt_w_ERROR (Nat.le_trans O0.2.1 (Nat.le_of_eq g1.symm)))
  have g_b1 : n0 ≤ b1 := Nat.le_trans (O0.1 ▸ O0.2.1) (Nat.le_of_eq g1.symm)
  have O1 : Old Z n0 h1 := O0.ext E1
  have sz_b1 : h0.size ≤ b1 := Nat.le_trans K0.1 (Nat.le_of_eq g1.symm)
  have K1 : Keep h0 h1 [] := K0.ext E1
  have lt_b1 := A1.lt
  have F_severity_b1 : Fld Z h1 b1 "com/example/lapwing/lapwing/profile/RuleViolation" "severity" "Lcom/example/lapwing/lapwing/profile/RuleViolation$Severity;" .null := D1 (Or.inr (hw _ (List.mem_of_getElem? (i := 49) rfl))) (ty := (.object "com/example/lapwing/lapwing/profile/RuleViolation$Severity")) (by decide)
  have F_path_b1 : Fld Z h1 b1 "com/example/lapwing/lapwing/profile/RuleViolation" "path" "Ljava/lang/String;" .null := D1 (Or.inr (hw _ (List.mem_of_getElem? (i := 51) rfl))) (ty := (.object "java/lang/String")) (by decide)
  have F_message_b1 : Fld Z h1 b1 "com/example/lapwing/lapwing/profile/RuleViolation" "message" "Ljava/lang/String;" .null := D1 (Or.inr (hw _ (List.mem_of_getElem? (i := 53) rfl))) (ty := (.object "java/lang/String")) (by decide)
  refine Go.st (f' := (mkF m 3 #[rv p1, rv m1] [(.ref b1)])) (fun _ k => st1 _ k) ?_
  refine Go.st (f' := (mkF m 4 #[rv p1, rv m1] [(.ref b1), (.ref b1)])) (fun _ k => XS.dup X1.here hx rfl (hb hby d7_3) rfl rfl k) ?_
  obtain ⟨T2, X2, e2, st2⟩ := getS2 X1 hx hZ hown (host := "") (Or.inl (hw _ (List.mem_of_getElem? (i := 36) rfl))) Via.refl e1 (S_w_ERROR.ext O1.2) (g := (mkF m 4 #[rv p1, rv m1] [(.ref b1), (.ref b1)])) rfl (hb hby d7_4)
  refine Go.st (f' := (mkF m 7 #[rv p1, rv m1] [(.ref w_ERROR), (.ref b1), (.ref b1)])) (fun _ k => st2 _ k) ?_
  refine Go.st (f' := (mkF m 8 #[rv p1, rv m1] [(.ref p1), (.ref w_ERROR), (.ref b1), (.ref b1)])) (fun _ k => XS.aloadN X2.here hx rfl (hb hby d7_7) rfl rfl k) ?_
  refine Go.st (f' := (mkF m 9 #[rv p1, rv m1] [(.ref m1), (.ref p1), (.ref w_ERROR), (.ref b1), (.ref b1)])) (fun _ k => XS.aloadN X2.here hx rfl (hb hby d7_8) rfl rfl k) ?_
  obtain ⟨_, _, ⟨T3, L3, kk3, nn3⟩, -, X3, ⟨Lc3, hQ3, lq3, yq3, zz3⟩, st3⟩ := X2.specialBack hx (y := (⟨"com/example/lapwing/lapwing/profile/RuleViolation", "<init>", "(Lcom/example/lapwing/lapwing/profile/RuleViolation$Severity;Ljava/lang/String;Ljava/lang/String;)V"⟩ : MethodName)) rfl hown (mvT hZ (hw _ (List.mem_of_getElem? (i := 39) rfl))) (mvT hZ (hw _ (List.mem_of_getElem? (i := 40) rfl))) (mvT hZ (hw _ (List.mem_of_getElem? (i := 41) rfl))) (by decide) (own_back (W := 1) (rmI00 l Z a0 hw [] b1 w_ERROR p1 m1 h1 n0 O1 g_b1 A1 F_severity_b1 F_path_b1 F_message_b1 ) hZ (hw _ (List.mem_of_getElem? (i := 41) rfl)) (hw _ (List.mem_of_getElem? (i := 32) rfl)) (by decide) (by decide)) (g := (mkF m 9 #[rv p1, rv m1] [(.ref m1), (.ref p1), (.ref w_ERROR), (.ref b1), (.ref b1)])) rfl (by rw [hml]; rfl) (Steps.refl _) (a := b1) (argsL := [(.ref w_ERROR), (.ref p1), (.ref m1)]) (rest := [(.ref b1)]) (lenOf pd__Lcom_example_lapwing_lapwing_profile_RuleViolation_Severity_Ljava_lang_String_Ljava_lang_String__V rfl) rfl (by show 2 * 0 + _ ≤ _; exact Nat.le_of_eq rfl) (hb hby d7_9) (fun _ _ => ⟨rfl, e2, (by decide : 1 + 0 ≤ _), (by decide : 3 + 0 ≤ _)⟩)
  dsimp only [Pt.U, Pt.locs, Pt.cells, Pt.slots] at X3 lq3 yq3 zz3 st3 hQ3
  subst lq3 yq3 zz3
  obtain ⟨rfl, Nq3, kq3, eq3, fq3_0, fq3_1, fq3_2⟩ := hQ3
  have N3 := Fr.app N0 Nq3
  have O3 : Old Z n0 T3.heap := O1.keep kq3 (allS g_b1 all0)
  have K3 : Keep h0 T3.heap [] := K1.trans kq3 (allS (Or.inr sz_b1) all0)
  refine Go.tr (f' := (mkF m 12 #[rv p1, rv m1] [(.ref b1)])) st3 ?_
  refine Go.retV X3 hlk hx (t := (.object "com/example/lapwing/lapwing/profile/RuleViolation")) hret rfl (Or.inr (Or.inr (Or.inr (Or.inr ⟨rfl, rfl, rfl⟩)))) (hb hby d7_12) rfl ?_ (by decide) (by decide)
  exact ⟨b1, rfl, N3, sz_b1, K3, eq3, fq3_0, fq3_1, fq3_2⟩
theorem d10_0 : decode prog_38_method_7_code 0 = .ok (.aload_n 0, 1) := by decide +kernel
theorem d10_1 : decode prog_38_method_7_code 1 = .ok (.getfield 7, 3) := by decide +kernel
theorem d10_4 : decode prog_38_method_7_code 4 = .ok (.areturn, 1) := by decide +kernel
set_option maxRecDepth 65536 in
set_option maxHeartbeats 40000000 in
theorem rmG_severity (l : Launch) (Z : State) (a0 : Array Value) (hw : ∀ d ∈ tables_1, d.before a0 Z = true) (ws : List Jvm.Cond) (a1 : Addr) (u1 : Value) (h0 : Heap) (n0 : Nat) (O0 : Old Z n0 h0) (hu1 : u1.isRef = true) (E_a1 : Exa Z h0 a1 "com/example/lapwing/lapwing/profile/RuleViolation") (F_a1_severity : Fld Z h0 a1 "com/example/lapwing/lapwing/profile/RuleViolation" "severity" "Lcom/example/lapwing/lapwing/profile/RuleViolation$Severity;" u1) :
    Con l Z (⟨"com/example/lapwing/lapwing/profile/RuleViolation", "severity", "()Lcom/example/lapwing/lapwing/profile/RuleViolation$Severity;"⟩ : MethodName) prog_38_method_7_code 1 (some (.object "com/example/lapwing/lapwing/profile/RuleViolation$Severity")) ws ({ frames := 0, cells := 0, slots := 0, locals := 0 } : Room) #[(.ref a1)] h0 (fun v h L => v = some u1 ∧ Fr n0 L ∧ h = h0) := by
  refine own_body (plainFor_of_name pn_com_example_lapwing_lapwing_profile_RuleViolation) ?_
  intro p e s m below meth c s₁ hx hby hml hZ hown hnm hlk hret X0 e0
  have N0 := Fr.nil n0
  refine Go.st (T' := s₁) (f' := (mkF m 0 #[rv a1] [])) (fun _ k => castTop (by first | (simp [entryFrame, mkF, argsToLocals, Value.category]; done) | rfl) k) ?_
  have lt_a1 := E_a1.lt
  refine Go.st (f' := (mkF m 1 #[rv a1] [(.ref a1)])) (fun _ k => XS.aloadN X0.here hx rfl (hb hby d10_0) rfl rfl k) ?_
  obtain ⟨T1, X1, e1, st1⟩ := getF X0 hx hZ hown (host := "") (Or.inl (hw _ (List.mem_of_getElem? (i := 48) rfl))) Via.refl e0 F_a1_severity (g := (mkF m 1 #[rv a1] [(.ref a1)])) rfl rfl (hb hby d10_1)
  refine Go.st (f' := (mkF m 4 #[rv a1] [u1])) (fun _ k => st1 _ k) ?_
  refine Go.retV X1 hlk hx (t := (.object "com/example/lapwing/lapwing/profile/RuleViolation$Severity")) hret rfl (Or.inr (Or.inr (Or.inr (Or.inr ⟨rfl, rfl, hu1⟩)))) (hb hby d10_4) e1 ?_ (by decide) (by decide)
  exact ⟨rfl, N0, rfl⟩
theorem d11_0 : decode prog_38_method_8_code 0 = .ok (.aload_n 0, 1) := by decide +kernel
theorem d11_1 : decode prog_38_method_8_code 1 = .ok (.getfield 13, 3) := by decide +kernel
theorem d11_4 : decode prog_38_method_8_code 4 = .ok (.areturn, 1) := by decide +kernel
set_option maxRecDepth 65536 in
set_option maxHeartbeats 40000000 in
theorem rmG_path (l : Launch) (Z : State) (a0 : Array Value) (hw : ∀ d ∈ tables_1, d.before a0 Z = true) (ws : List Jvm.Cond) (a1 : Addr) (u1 : Value) (h0 : Heap) (n0 : Nat) (O0 : Old Z n0 h0) (hu1 : u1.isRef = true) (E_a1 : Exa Z h0 a1 "com/example/lapwing/lapwing/profile/RuleViolation") (F_a1_path : Fld Z h0 a1 "com/example/lapwing/lapwing/profile/RuleViolation" "path" "Ljava/lang/String;" u1) :
    Con l Z (⟨"com/example/lapwing/lapwing/profile/RuleViolation", "path", "()Ljava/lang/String;"⟩ : MethodName) prog_38_method_8_code 1 (some (.object "java/lang/String")) ws ({ frames := 0, cells := 0, slots := 0, locals := 0 } : Room) #[(.ref a1)] h0 (fun v h L => v = some u1 ∧ Fr n0 L ∧ h = h0) := by
  refine own_body (plainFor_of_name pn_com_example_lapwing_lapwing_profile_RuleViolation) ?_
  intro p e s m below meth c s₁ hx hby hml hZ hown hnm hlk hret X0 e0
  have N0 := Fr.nil n0
  refine Go.st (T' := s₁) (f' := (mkF m 0 #[rv a1] [])) (fun _ k => castTop (by first | (simp [entryFrame, mkF, argsToLocals, Value.category]; done) | rfl) k) ?_
  have lt_a1 := E_a1.lt
  refine Go.st (f' := (mkF m 1 #[rv a1] [(.ref a1)])) (fun _ k => XS.aloadN X0.here hx rfl (hb hby d11_0) rfl rfl k) ?_
  obtain ⟨T1, X1, e1, st1⟩ := getF X0 hx hZ hown (host := "") (Or.inl (hw _ (List.mem_of_getElem? (i := 50) rfl))) Via.refl e0 F_a1_path (g := (mkF m 1 #[rv a1] [(.ref a1)])) rfl rfl (hb hby d11_1)
  refine Go.st (f' := (mkF m 4 #[rv a1] [u1])) (fun _ k => st1 _ k) ?_
  refine Go.retV X1 hlk hx (t := (.object "java/lang/String")) hret rfl (Or.inr (Or.inr (Or.inr (Or.inr ⟨rfl, rfl, hu1⟩)))) (hb hby d11_4) e1 ?_ (by decide) (by decide)
  exact ⟨rfl, N0, rfl⟩
theorem d14_0 : decode prog_38_method_9_code 0 = .ok (.aload_n 0, 1) := by decide +kernel
theorem d14_1 : decode prog_38_method_9_code 1 = .ok (.getfield 17, 3) := by decide +kernel
theorem d14_4 : decode prog_38_method_9_code 4 = .ok (.areturn, 1) := by decide +kernel
set_option maxRecDepth 65536 in
set_option maxHeartbeats 40000000 in
theorem rmG_message (l : Launch) (Z : State) (a0 : Array Value) (hw : ∀ d ∈ tables_1, d.before a0 Z = true) (ws : List Jvm.Cond) (a1 : Addr) (u1 : Value) (h0 : Heap) (n0 : Nat) (O0 : Old Z n0 h0) (hu1 : u1.isRef = true) (E_a1 : Exa Z h0 a1 "com/example/lapwing/lapwing/profile/RuleViolation") (F_a1_message : Fld Z h0 a1 "com/example/lapwing/lapwing/profile/RuleViolation" "message" "Ljava/lang/String;" u1) :
    Con l Z (⟨"com/example/lapwing/lapwing/profile/RuleViolation", "message", "()Ljava/lang/String;"⟩ : MethodName) prog_38_method_9_code 1 (some (.object "java/lang/String")) ws ({ frames := 0, cells := 0, slots := 0, locals := 0 } : Room) #[(.ref a1)] h0 (fun v h L => v = some u1 ∧ Fr n0 L ∧ h = h0) := by
  refine own_body (plainFor_of_name pn_com_example_lapwing_lapwing_profile_RuleViolation) ?_
  intro p e s m below meth c s₁ hx hby hml hZ hown hnm hlk hret X0 e0
  have N0 := Fr.nil n0
  refine Go.st (T' := s₁) (f' := (mkF m 0 #[rv a1] [])) (fun _ k => castTop (by first | (simp [entryFrame, mkF, argsToLocals, Value.category]; done) | rfl) k) ?_
  have lt_a1 := E_a1.lt
  refine Go.st (f' := (mkF m 1 #[rv a1] [(.ref a1)])) (fun _ k => XS.aloadN X0.here hx rfl (hb hby d14_0) rfl rfl k) ?_
  obtain ⟨T1, X1, e1, st1⟩ := getF X0 hx hZ hown (host := "") (Or.inl (hw _ (List.mem_of_getElem? (i := 52) rfl))) Via.refl e0 F_a1_message (g := (mkF m 1 #[rv a1] [(.ref a1)])) rfl rfl (hb hby d14_1)
  refine Go.st (f' := (mkF m 4 #[rv a1] [u1])) (fun _ k => st1 _ k) ?_
  refine Go.retV X1 hlk hx (t := (.object "java/lang/String")) hret rfl (Or.inr (Or.inr (Or.inr (Or.inr ⟨rfl, rfl, hu1⟩)))) (hb hby d14_4) e1 ?_ (by decide) (by decide)
  exact ⟨rfl, N0, rfl⟩
theorem d12_0 : decode method_4_code 0 = .ok (.aload_n 0, 1) := by decide +kernel
theorem d12_1 : decode method_4_code 1 = .ok (.ifnonnull 13, 3) := by decide +kernel
theorem d12_4 : decode method_4_code 4 = .ok (.aload_n 1, 1) := by decide +kernel
theorem d12_5 : decode method_4_code 5 = .ok (.ifnonnull 7, 3) := by decide +kernel
theorem d12_8 : decode method_4_code 8 = .ok (.iconst 1, 1) := by decide +kernel
theorem d12_9 : decode method_4_code 9 = .ok (.goto 4, 3) := by decide +kernel
theorem d12_13 : decode method_4_code 13 = .ok (.ireturn, 1) := by decide +kernel
set_option maxRecDepth 65536 in
set_option maxHeartbeats 40000000 in
theorem rmS1 (l : Launch) (Z : State) (a0 : Array Value) (hw : ∀ d ∈ tables_1, d.before a0 Z = true) (ws : List Jvm.Cond)  (h0 : Heap) (n0 : Nat) (O0 : Old Z n0 h0)  :
    Con l Z (⟨"com/example/lapwing/lapwing/profile/RuleViolationErrorPinLaw", "same", "(Ljava/lang/String;Ljava/lang/String;)Z"⟩ : MethodName) method_4_code 2 (some .boolean) ws ({ frames := 0, cells := 0, slots := 0, locals := 0 } : Room) #[.null, .null] h0 (fun v h L => v = some (.int 1) ∧ Fr n0 L ∧ h = h0) := by
  refine own_body (plainFor_of_name pn_com_example_lapwing_lapwing_profile_RuleViolationErrorPinLaw) ?_
  intro p e s m below meth c s₁ hx hby hml hZ hown hnm hlk hret X0 e0
  have N0 := Fr.nil n0
  refine Go.st (T' := s₁) (f' := (mkF m 0 #[.val .null, .val .null] [])) (fun _ k => castTop (by first | (simp [entryFrame, mkF, argsToLocals, Value.category]; done) | rfl) k) ?_
  refine Go.st (f' := (mkF m 1 #[.val .null, .val .null] [.null])) (fun _ k => XS.aloadN X0.here hx rfl (hb hby d12_0) rfl rfl k) ?_
  refine Go.st (f' := (mkF m 4 #[.val .null, .val .null] [])) (fun _ k => XS.ifnonnullNo X0.here hx rfl (hb hby d12_1) rfl k) ?_
  refine Go.st (f' := (mkF m 5 #[.val .null, .val .null] [.null])) (fun _ k => XS.aloadN X0.here hx rfl (hb hby d12_4) rfl rfl k) ?_
  refine Go.st (f' := (mkF m 8 #[.val .null, .val .null] [])) (fun _ k => XS.ifnonnullNo X0.here hx rfl (hb hby d12_5) rfl k) ?_
  refine Go.st (f' := (mkF m 9 #[.val .null, .val .null] [(.int 1)])) (fun _ k => XS.iconst X0.here hx rfl (hb hby d12_8) k) ?_
  refine Go.st (f' := (mkF m 13 #[.val .null, .val .null] [(.int 1)])) (fun _ k => XS.goto X0.here hx rfl (pc0 := 9) (pc' := 13) rfl (hb hby d12_9) (by decide) (by decide) k) ?_
  refine Go.retB X0 hlk hx (t := .boolean) hret (by simp) (hb hby d12_13) e0 ?_ (by decide) (by decide)
  exact ⟨rfl, N0, rfl⟩
theorem d12_14 : decode method_4_code 14 = .ok (.aload_n 0, 1) := by decide +kernel
theorem d12_15 : decode method_4_code 15 = .ok (.aload_n 1, 1) := by decide +kernel
theorem d12_16 : decode method_4_code 16 = .ok (.invokevirtual 49, 3) := by decide +kernel
theorem pd__Ljava_lang_Object__Z : parseMethodDescriptor "(Ljava/lang/Object;)Z" = some ⟨[(.object "java/lang/Object")], some .boolean⟩ := by decide +kernel
theorem d12_19 : decode method_4_code 19 = .ok (.ireturn, 1) := by decide +kernel
set_option maxRecDepth 65536 in
set_option maxHeartbeats 40000000 in
theorem rmS0 (l : Launch) (Z : State) (a0 : Array Value) (hw : ∀ d ∈ tables_1, d.before a0 Z = true) (ws : List Jvm.Cond) (a1 : Addr) (h0 : Heap) (n0 : Nat) (O0 : Old Z n0 h0) (E_a1 : Exa Z h0 a1 "java/lang/String") :
    Con l Z (⟨"com/example/lapwing/lapwing/profile/RuleViolationErrorPinLaw", "same", "(Ljava/lang/String;Ljava/lang/String;)Z"⟩ : MethodName) method_4_code 2 (some .boolean) ws ({ frames := 1, cells := 0, slots := 0, locals := 14 } : Room) #[(.ref a1), (.ref a1)] h0 (fun v h L => v = some (.int 1) ∧ Fr n0 L ∧ h = h0) := by
  refine own_body (plainFor_of_name pn_com_example_lapwing_lapwing_profile_RuleViolationErrorPinLaw) ?_
  intro p e s m below meth c s₁ hx hby hml hZ hown hnm hlk hret X0 e0
  have N0 := Fr.nil n0
  refine Go.st (T' := s₁) (f' := (mkF m 0 #[rv a1, rv a1] [])) (fun _ k => castTop (by first | (simp [entryFrame, mkF, argsToLocals, Value.category]; done) | rfl) k) ?_
  refine Go.st (f' := (mkF m 1 #[rv a1, rv a1] [(.ref a1)])) (fun _ k => XS.aloadN X0.here hx rfl (hb hby d12_0) rfl rfl k) ?_
  refine Go.st (f' := (mkF m 14 #[rv a1, rv a1] [])) (fun _ k => XS.ifnonnullYes X0.here hx rfl (pc0 := 1) (pc' := 14) rfl (hb hby d12_1) rfl (by decide) (by decide) k) ?_
  refine Go.st (f' := (mkF m 15 #[rv a1, rv a1] [(.ref a1)])) (fun _ k => XS.aloadN X0.here hx rfl (hb hby d12_14) rfl rfl k) ?_
  refine Go.st (f' := (mkF m 16 #[rv a1, rv a1] [(.ref a1), (.ref a1)])) (fun _ k => XS.aloadN X0.here hx rfl (hb hby d12_15) rfl rfl k) ?_
  obtain ⟨cq1, kq1, q1a, q1b, q1c⟩ := isOf hZ e0 E_a1
  obtain ⟨_, _, ⟨T1, L1, kk1, nn1⟩, -, X1, ⟨Lc1, hQ1, lq1, yq1, zz1⟩, st1⟩ := X0.virtualBack hx (y := (⟨"java/lang/String", "equals", "(Ljava/lang/Object;)Z"⟩ : MethodName)) (z := (⟨"java/lang/String", "equals", "(Ljava/lang/Object;)Z"⟩ : MethodName)) hown (mvT hZ (hw _ (List.mem_of_getElem? (i := 68) rfl))) (mvT hZ (hw _ (List.mem_of_getElem? (i := 69) rfl))) (notFace_of_selects (args := #[]) (mvT hZ (hw _ (List.mem_of_getElem? (i := 71) rfl)))) (mvT hZ (hw _ (List.mem_of_getElem? (i := 71) rfl))) (mvT hZ (hw _ (List.mem_of_getElem? (i := 70) rfl))) (by decide) (own_back (W := 0) (st_eqs l Z a0 hw [] a1 h0 n0 O0) hZ (hw _ (List.mem_of_getElem? (i := 72) rfl)) (hw _ (List.mem_of_getElem? (i := 6) rfl)) (by decide) (by decide)) q1a q1c (g := (mkF m 16 #[rv a1, rv a1] [(.ref a1), (.ref a1)])) rfl (by rw [hml]; rfl) (Steps.refl _) (argsL := [(.ref a1)]) (rest := []) (lenOf pd__Ljava_lang_Object__Z rfl) rfl (by show 2 * 0 + _ ≤ _; exact Nat.le_of_eq rfl) (hb hby d12_16) (fun _ _ => ⟨rfl, e0, (by decide : 0 + 0 ≤ _), (by decide : 0 + 0 ≤ _)⟩)
  dsimp only [Pt.U, Pt.locs, Pt.cells, Pt.slots] at X1 lq1 yq1 zz1 st1 hQ1
  subst lq1 yq1 zz1
  obtain ⟨rfl, Nq1, kq1⟩ := hQ1
  have N1 := Fr.app N0 Nq1
  refine Go.tr (f' := (mkF m 19 #[rv a1, rv a1] [(.int 1)])) st1 ?_
  refine Go.retB X1 hlk hx (t := .boolean) hret (by simp) (hb hby d12_19) kq1 ?_ (by decide) (by decide)
  exact ⟨rfl, N1, rfl⟩
theorem pd__ICC_Ljava_lang_String_ : parseMethodDescriptor "(ICC)Ljava/lang/String;" = some ⟨[.int, .char, .char], some (.object "java/lang/String")⟩ := by decide +kernel
theorem pd__Ljava_lang_String_Ljava_lang_String__Lcom_example_lapwing_lapwing_profile_RuleViolation_ : parseMethodDescriptor "(Ljava/lang/String;Ljava/lang/String;)Lcom/example/lapwing/lapwing/profile/RuleViolation;" = some ⟨[(.object "java/lang/String"), (.object "java/lang/String")], some (.object "com/example/lapwing/lapwing/profile/RuleViolation")⟩ := by decide +kernel
theorem pd___Lcom_example_lapwing_lapwing_profile_RuleViolation_Severity_ : parseMethodDescriptor "()Lcom/example/lapwing/lapwing/profile/RuleViolation$Severity;" = some ⟨[], some (.object "com/example/lapwing/lapwing/profile/RuleViolation$Severity")⟩ := by decide +kernel
theorem pd___Ljava_lang_String_ : parseMethodDescriptor "()Ljava/lang/String;" = some ⟨[], some (.object "java/lang/String")⟩ := by decide +kernel
theorem pd__Ljava_lang_String_Ljava_lang_String__Z : parseMethodDescriptor "(Ljava/lang/String;Ljava/lang/String;)Z" = some ⟨[(.object "java/lang/String"), (.object "java/lang/String")], some .boolean⟩ := by decide +kernel
set_option maxRecDepth 65536 in
set_option maxHeartbeats 40000000 in
theorem rm0 (l : Launch) (Z : State) (a0 : Array Value) (hw : ∀ d ∈ tables_1, d.before a0 Z = true) (ws : List Jvm.Cond) (p1 : Int32) (p2 : Int32) (p3 : Int32) (w_ERROR : Addr) (i_COMPACT_STRINGS : Int32) (v_SIOOBE_FORMATTER : Value) (h0 : Heap) (n0 : Nat) (O0 : Old Z n0 h0) (WW : World1 Z w_ERROR i_COMPACT_STRINGS v_SIOOBE_FORMATTER) :
    ConW l Z EL x code maxLocals ret ws room_1 #[(.int p1), (.int p2), (.int p3)] h0 (fun v h L => v = some (.int 1) ∧ Fr n0 L) := by
  refine own_bodyW (plainFor_of_name pn_com_example_lapwing_lapwing_profile_RuleViolationErrorPinLaw) ?_
  intro p e s m below meth c s₁ hx hby hml hZ hown hnm hlk hret X0 e0 hh hS CR0
  have hEL := own_EL hw
  have wS := own_wS hw
  have N0 := Fr.nil n0
  refine Go.st (T' := s₁) (f' := (mkF m 0 #[iv p1, iv p2, iv p3, .unset, .unset, .unset, .unset, .unset, .unset, .unset] [])) (fun _ k => castTop (by first | (simp [entryFrame, mkF, argsToLocals, Value.category, maxLocals]; done) | rfl) k) ?_
  have ⟨S_i_COMPACT_STRINGS, nz_i_COMPACT_STRINGS, S_v_SIOOBE_FORMATTER, r_v_SIOOBE_FORMATTER, S_w_ERROR, E_w_ERROR⟩ := WW
  have lt_w_ERROR := E_w_ERROR.lt
  refine Go.st (f' := (mkF m 1 #[iv p1, iv p2, iv p3, .unset, .unset, .unset, .unset, .unset, .unset, .unset] [(.int p1)])) (fun _ k => XS.iloadN X0.here hx rfl (hb hby at_0) rfl k) ?_
  refine Go.st (f' := (mkF m 4 #[iv p1, iv p2, iv p3, .unset, .unset, .unset, .unset, .unset, .unset, .unset] [(.int 255), (.int p1)])) (fun _ k => XS.sipush X0.here hx rfl (hb hby at_1) k) ?_
  refine Go.st (f' := (mkF m 5 #[iv p1, iv p2, iv p3, .unset, .unset, .unset, .unset, .unset, .unset, .unset] [(.int (p1 &&& (255 : Int32)))])) (fun _ k => XS.iand X0.here hx rfl (hb hby at_4) rfl k) ?_
  refine Go.st (f' := (mkF m 6 #[iv p1, iv p2, iv p3, .unset, .unset, .unset, .unset, .unset, .unset, .unset] [(.int ((p1 &&& (255 : Int32)).toUInt32.toUInt16.toUInt32.toInt32))])) (fun _ k => XS.i2c X0.here hx rfl (hb hby at_5) rfl k) ?_
  obtain ⟨yy1, hyy1⟩ : ∃ z, z = ((p1 &&& (255 : Int32)).toUInt32.toUInt16.toUInt32.toInt32) := ⟨_, rfl⟩
  rw [← hyy1]
  refine Go.st (f' := (mkF m 7 #[iv p1, iv p2, iv p3, iv yy1, .unset, .unset, .unset, .unset, .unset, .unset] [])) (fun _ k => XS.istoreN X0.here hx rfl (hb hby at_6) rfl (l' := #[iv p1, iv p2, iv p3, iv yy1, .unset, .unset, .unset, .unset, .unset, .unset]) rfl k) ?_
  refine Go.st (f' := (mkF m 8 #[iv p1, iv p2, iv p3, iv yy1, .unset, .unset, .unset, .unset, .unset, .unset] [(.int p1)])) (fun _ k => XS.iloadN X0.here hx rfl (hb hby at_7) rfl k) ?_
  refine Go.st (f' := (mkF m 10 #[iv p1, iv p2, iv p3, iv yy1, .unset, .unset, .unset, .unset, .unset, .unset] [(.int 8), (.int p1)])) (fun _ k => XS.bipush X0.here hx rfl (hb hby at_8) k) ?_
  refine Go.st (f' := (mkF m 11 #[iv p1, iv p2, iv p3, iv yy1, .unset, .unset, .unset, .unset, .unset, .unset] [(.int ((p1.toUInt32 >>> ((8 : Int32) &&& 31).toUInt32).toInt32))])) (fun _ k => XS.iushr X0.here hx rfl (hb hby at_10) rfl k) ?_
  refine Go.st (f' := (mkF m 14 #[iv p1, iv p2, iv p3, iv yy1, .unset, .unset, .unset, .unset, .unset, .unset] [(.int 255), (.int ((p1.toUInt32 >>> ((8 : Int32) &&& 31).toUInt32).toInt32))])) (fun _ k => XS.sipush X0.here hx rfl (hb hby at_11) k) ?_
  refine Go.st (f' := (mkF m 15 #[iv p1, iv p2, iv p3, iv yy1, .unset, .unset, .unset, .unset, .unset, .unset] [(.int (((p1.toUInt32 >>> ((8 : Int32) &&& 31).toUInt32).toInt32) &&& (255 : Int32)))])) (fun _ k => XS.iand X0.here hx rfl (hb hby at_14) rfl k) ?_
  refine Go.st (f' := (mkF m 16 #[iv p1, iv p2, iv p3, iv yy1, .unset, .unset, .unset, .unset, .unset, .unset] [(.int ((((p1.toUInt32 >>> ((8 : Int32) &&& 31).toUInt32).toInt32) &&& (255 : Int32)).toUInt32.toUInt16.toUInt32.toInt32))])) (fun _ k => XS.i2c X0.here hx rfl (hb hby at_15) rfl k) ?_
  obtain ⟨yy2, hyy2⟩ : ∃ z, z = ((((p1.toUInt32 >>> ((8 : Int32) &&& 31).toUInt32).toInt32) &&& (255 : Int32)).toUInt32.toUInt16.toUInt32.toInt32) := ⟨_, rfl⟩
  rw [← hyy2]
  refine Go.st (f' := (mkF m 18 #[iv p1, iv p2, iv p3, iv yy1, iv yy2, .unset, .unset, .unset, .unset, .unset] [])) (fun _ k => XS.istore X0.here hx rfl (hb hby at_16) rfl (l' := #[iv p1, iv p2, iv p3, iv yy1, iv yy2, .unset, .unset, .unset, .unset, .unset]) rfl k) ?_
  refine Go.st (f' := (mkF m 19 #[iv p1, iv p2, iv p3, iv yy1, iv yy2, .unset, .unset, .unset, .unset, .unset] [(.int p2)])) (fun _ k => XS.iloadN X0.here hx rfl (hb hby at_18) rfl k) ?_
  refine Go.st (f' := (mkF m 22 #[iv p1, iv p2, iv p3, iv yy1, iv yy2, .unset, .unset, .unset, .unset, .unset] [(.int 255), (.int p2)])) (fun _ k => XS.sipush X0.here hx rfl (hb hby at_19) k) ?_
  refine Go.st (f' := (mkF m 23 #[iv p1, iv p2, iv p3, iv yy1, iv yy2, .unset, .unset, .unset, .unset, .unset] [(.int (p2 &&& (255 : Int32)))])) (fun _ k => XS.iand X0.here hx rfl (hb hby at_22) rfl k) ?_
  refine Go.st (f' := (mkF m 24 #[iv p1, iv p2, iv p3, iv yy1, iv yy2, .unset, .unset, .unset, .unset, .unset] [(.int ((p2 &&& (255 : Int32)).toUInt32.toUInt16.toUInt32.toInt32))])) (fun _ k => XS.i2c X0.here hx rfl (hb hby at_23) rfl k) ?_
  obtain ⟨yy3, hyy3⟩ : ∃ z, z = ((p2 &&& (255 : Int32)).toUInt32.toUInt16.toUInt32.toInt32) := ⟨_, rfl⟩
  rw [← hyy3]
  refine Go.st (f' := (mkF m 26 #[iv p1, iv p2, iv p3, iv yy1, iv yy2, iv yy3, .unset, .unset, .unset, .unset] [])) (fun _ k => XS.istore X0.here hx rfl (hb hby at_24) rfl (l' := #[iv p1, iv p2, iv p3, iv yy1, iv yy2, iv yy3, .unset, .unset, .unset, .unset]) rfl k) ?_
  refine Go.st (f' := (mkF m 27 #[iv p1, iv p2, iv p3, iv yy1, iv yy2, iv yy3, .unset, .unset, .unset, .unset] [(.int p2)])) (fun _ k => XS.iloadN X0.here hx rfl (hb hby at_26) rfl k) ?_
  refine Go.st (f' := (mkF m 29 #[iv p1, iv p2, iv p3, iv yy1, iv yy2, iv yy3, .unset, .unset, .unset, .unset] [(.int 8), (.int p2)])) (fun _ k => XS.bipush X0.here hx rfl (hb hby at_27) k) ?_
  refine Go.st (f' := (mkF m 30 #[iv p1, iv p2, iv p3, iv yy1, iv yy2, iv yy3, .unset, .unset, .unset, .unset] [(.int ((p2.toUInt32 >>> ((8 : Int32) &&& 31).toUInt32).toInt32))])) (fun _ k => XS.iushr X0.here hx rfl (hb hby at_29) rfl k) ?_
  refine Go.st (f' := (mkF m 33 #[iv p1, iv p2, iv p3, iv yy1, iv yy2, iv yy3, .unset, .unset, .unset, .unset] [(.int 255), (.int ((p2.toUInt32 >>> ((8 : Int32) &&& 31).toUInt32).toInt32))])) (fun _ k => XS.sipush X0.here hx rfl (hb hby at_30) k) ?_
  refine Go.st (f' := (mkF m 34 #[iv p1, iv p2, iv p3, iv yy1, iv yy2, iv yy3, .unset, .unset, .unset, .unset] [(.int (((p2.toUInt32 >>> ((8 : Int32) &&& 31).toUInt32).toInt32) &&& (255 : Int32)))])) (fun _ k => XS.iand X0.here hx rfl (hb hby at_33) rfl k) ?_
  refine Go.st (f' := (mkF m 35 #[iv p1, iv p2, iv p3, iv yy1, iv yy2, iv yy3, .unset, .unset, .unset, .unset] [(.int ((((p2.toUInt32 >>> ((8 : Int32) &&& 31).toUInt32).toInt32) &&& (255 : Int32)).toUInt32.toUInt16.toUInt32.toInt32))])) (fun _ k => XS.i2c X0.here hx rfl (hb hby at_34) rfl k) ?_
  obtain ⟨yy4, hyy4⟩ : ∃ z, z = ((((p2.toUInt32 >>> ((8 : Int32) &&& 31).toUInt32).toInt32) &&& (255 : Int32)).toUInt32.toUInt16.toUInt32.toInt32) := ⟨_, rfl⟩
  rw [← hyy4]
  refine Go.st (f' := (mkF m 37 #[iv p1, iv p2, iv p3, iv yy1, iv yy2, iv yy3, iv yy4, .unset, .unset, .unset] [])) (fun _ k => XS.istore X0.here hx rfl (hb hby at_35) rfl (l' := #[iv p1, iv p2, iv p3, iv yy1, iv yy2, iv yy3, iv yy4, .unset, .unset, .unset]) rfl k) ?_
  refine Go.st (f' := (mkF m 38 #[iv p1, iv p2, iv p3, iv yy1, iv yy2, iv yy3, iv yy4, .unset, .unset, .unset] [(.int p3)])) (fun _ k => XS.iloadN X0.here hx rfl (hb hby at_37) rfl k) ?_
  refine Go.st (f' := (mkF m 39 #[iv p1, iv p2, iv p3, iv yy1, iv yy2, iv yy3, iv yy4, .unset, .unset, .unset] [(.int yy1), (.int p3)])) (fun _ k => XS.iloadN X0.here hx rfl (hb hby at_38) rfl k) ?_
  refine Go.st (f' := (mkF m 41 #[iv p1, iv p2, iv p3, iv yy1, iv yy2, iv yy3, iv yy4, .unset, .unset, .unset] [(.int yy2), (.int yy1), (.int p3)])) (fun _ k => XS.iload X0.here hx rfl (hb hby at_39) rfl k) ?_
  obtain ⟨_, _, ⟨T5, L5, kk5, nn5⟩, -, Xw5, hSw5, hgw5, ⟨Lc5, hQ5, lq5, yq5, zz5, crw5⟩, st5⟩ := callSS X0 hx (y := (⟨"com/example/lapwing/lapwing/profile/RuleViolationErrorPinLaw", "pick", "(ICC)Ljava/lang/String;"⟩ : MethodName)) hown (mvT hZ (hw _ (List.mem_of_getElem? (i := 0) rfl))) (mvT hZ (hw _ (List.mem_of_getElem? (i := 1) rfl))) (mvT hZ (hw _ (List.mem_of_getElem? (i := 2) rfl))) (mvT hZ (hw _ (List.mem_of_getElem? (i := 3) rfl))) (by decide) (own_backW (W := 0) (rmP l Z a0 hw [] p3 yy1 yy2 w_ERROR i_COMPACT_STRINGS v_SIOOBE_FORMATTER h0 n0 O0 (hyy1 ▸ own_b _).1 (hyy2 ▸ own_b _).1 (hyy1 ▸ own_b _).2 (hyy2 ▸ own_b _).2 WW) hZ (hw _ (List.mem_of_getElem? (i := 3) rfl)) (hw _ (List.mem_of_getElem? (i := 2) rfl)) (by decide) (by decide) hEL CR0.1) (g := (mkF m 41 #[iv p1, iv p2, iv p3, iv yy1, iv yy2, iv yy3, iv yy4, .unset, .unset, .unset] [(.int yy2), (.int yy1), (.int p3)])) rfl (by rw [hml]; rfl) (argsL := [(.int p3), (.int yy1), (.int yy2)]) (rest := []) (lenOf pd__ICC_Ljava_lang_String_ rfl) rfl (by show 2 * 0 + _ ≤ _; exact Nat.le_of_eq rfl) (hb hby at_41) (fun _ _ => ⟨rfl, e0, (by decide : 0 + 6 ≤ _), (by decide : 0 + 12 ≤ _)⟩)
  dsimp only [Pt.U, Pt.locs, Pt.cells, Pt.slots] at Xw5 lq5 yq5 zz5 st5 hQ5 hSw5 hgw5 crw5
  subst lq5 yq5 zz5
  obtain ⟨X5, hS5, hZ5, hown5⟩ := rebS hS (by rw [e0]; exact (Nat.zero_le _)) Xw5 hSw5 hgw5 hZ hown
  obtain ⟨val5, rfl, Nq5, kq5, dq5⟩ := hQ5
  have N5 := Fr.app N0 Nq5
  have O5 : Old Z n0 T5.heap := O0.keep kq5 all0
  have hk5 : T5.heap.size ≤ T5.heap.size := Nat.le_refl _
  have CR5 := CR0.trans crw5
  rcases dq5 with rfl | ⟨b5, rfl, zq5, eq5⟩
  · skip
    refine Go.tr (f' := (mkF m 44 #[iv p1, iv p2, iv p3, iv yy1, iv yy2, iv yy3, iv yy4, .unset, .unset, .unset] [.null])) st5 ?_
    refine Go.st (f' := (mkF m 46 #[iv p1, iv p2, iv p3, iv yy1, iv yy2, iv yy3, iv yy4, .val .null, .unset, .unset] [])) (fun _ k => XS.astore X5.here hx rfl (hb hby at_44) rfl rfl (l' := #[iv p1, iv p2, iv p3, iv yy1, iv yy2, iv yy3, iv yy4, .val .null, .unset, .unset]) rfl k) ?_
    refine Go.st (f' := (mkF m 47 #[iv p1, iv p2, iv p3, iv yy1, iv yy2, iv yy3, iv yy4, .val .null, .unset, .unset] [(.int p3)])) (fun _ k => XS.iloadN X5.here hx rfl (hb hby at_46) rfl k) ?_
    refine Go.st (f' := (mkF m 48 #[iv p1, iv p2, iv p3, iv yy1, iv yy2, iv yy3, iv yy4, .val .null, .unset, .unset] [(.int 3), (.int p3)])) (fun _ k => XS.iconst X5.here hx rfl (hb hby at_47) k) ?_
    refine Go.st (f' := (mkF m 49 #[iv p1, iv p2, iv p3, iv yy1, iv yy2, iv yy3, iv yy4, .val .null, .unset, .unset] [(.int ((p3.toUInt32 >>> ((3 : Int32) &&& 31).toUInt32).toInt32))])) (fun _ k => XS.iushr X5.here hx rfl (hb hby at_48) rfl k) ?_
    refine Go.st (f' := (mkF m 51 #[iv p1, iv p2, iv p3, iv yy1, iv yy2, iv yy3, iv yy4, .val .null, .unset, .unset] [(.int yy3), (.int ((p3.toUInt32 >>> ((3 : Int32) &&& 31).toUInt32).toInt32))])) (fun _ k => XS.iload X5.here hx rfl (hb hby at_49) rfl k) ?_
    refine Go.st (f' := (mkF m 53 #[iv p1, iv p2, iv p3, iv yy1, iv yy2, iv yy3, iv yy4, .val .null, .unset, .unset] [(.int yy4), (.int yy3), (.int ((p3.toUInt32 >>> ((3 : Int32) &&& 31).toUInt32).toInt32))])) (fun _ k => XS.iload X5.here hx rfl (hb hby at_51) rfl k) ?_
    obtain ⟨_, _, ⟨T6, L6, kk6, nn6⟩, -, Xw6, hSw6, hgw6, ⟨Lc6, hQ6, lq6, yq6, zz6, crw6⟩, st6⟩ := callSS X5 hx (y := (⟨"com/example/lapwing/lapwing/profile/RuleViolationErrorPinLaw", "pick", "(ICC)Ljava/lang/String;"⟩ : MethodName)) hown5 (mvT hZ5 (hw _ (List.mem_of_getElem? (i := 0) rfl))) (mvT hZ5 (hw _ (List.mem_of_getElem? (i := 1) rfl))) (mvT hZ5 (hw _ (List.mem_of_getElem? (i := 2) rfl))) (mvT hZ5 (hw _ (List.mem_of_getElem? (i := 3) rfl))) (by decide) (own_backW (W := 0) (rmP l Z a0 hw [] ((p3.toUInt32 >>> ((3 : Int32) &&& 31).toUInt32).toInt32) yy3 yy4 w_ERROR i_COMPACT_STRINGS v_SIOOBE_FORMATTER T5.heap n0 O5 (hyy3 ▸ own_b _).1 (hyy4 ▸ own_b _).1 (hyy3 ▸ own_b _).2 (hyy4 ▸ own_b _).2 WW) hZ5 (hw _ (List.mem_of_getElem? (i := 3) rfl)) (hw _ (List.mem_of_getElem? (i := 2) rfl)) (by decide) (by decide) hEL CR5.1) (g := (mkF m 53 #[iv p1, iv p2, iv p3, iv yy1, iv yy2, iv yy3, iv yy4, .val .null, .unset, .unset] [(.int yy4), (.int yy3), (.int ((p3.toUInt32 >>> ((3 : Int32) &&& 31).toUInt32).toInt32))])) rfl (by rw [hml]; rfl) (argsL := [(.int ((p3.toUInt32 >>> ((3 : Int32) &&& 31).toUInt32).toInt32)), (.int yy3), (.int yy4)]) (rest := []) (lenOf pd__ICC_Ljava_lang_String_ rfl) rfl (by show 2 * 0 + _ ≤ _; exact Nat.le_of_eq rfl) (hb hby at_53) (fun _ _ => ⟨rfl, rfl, (by decide : 6 + 6 ≤ _), (by decide : 12 + 12 ≤ _)⟩)
    dsimp only [Pt.U, Pt.locs, Pt.cells, Pt.slots] at Xw6 lq6 yq6 zz6 st6 hQ6 hSw6 hgw6 crw6
    subst lq6 yq6 zz6
    obtain ⟨X6, hS6, hZ6, hown6⟩ := rebS hS5 hk5 Xw6 hSw6 hgw6 hZ5 hown5
    obtain ⟨val6, rfl, Nq6, kq6, dq6⟩ := hQ6
    have N6 := Fr.app N5 Nq6
    have O6 : Old Z n0 T6.heap := O5.keep kq6 all0
    have hk6 : T6.heap.size ≤ T6.heap.size := Nat.le_refl _
    have CR6 := CR5.trans crw6
    rcases dq6 with rfl | ⟨b6, rfl, zq6, eq6⟩
    · skip
      refine Go.tr (f' := (mkF m 56 #[iv p1, iv p2, iv p3, iv yy1, iv yy2, iv yy3, iv yy4, .val .null, .unset, .unset] [.null])) st6 ?_
      refine Go.st (f' := (mkF m 58 #[iv p1, iv p2, iv p3, iv yy1, iv yy2, iv yy3, iv yy4, .val .null, .val .null, .unset] [])) (fun _ k => XS.astore X6.here hx rfl (hb hby at_56) rfl rfl (l' := #[iv p1, iv p2, iv p3, iv yy1, iv yy2, iv yy3, iv yy4, .val .null, .val .null, .unset]) rfl k) ?_
      refine Go.st (f' := (mkF m 60 #[iv p1, iv p2, iv p3, iv yy1, iv yy2, iv yy3, iv yy4, .val .null, .val .null, .unset] [.null])) (fun _ k => XS.aload X6.here hx rfl (hb hby at_58) rfl rfl k) ?_
      refine Go.st (f' := (mkF m 62 #[iv p1, iv p2, iv p3, iv yy1, iv yy2, iv yy3, iv yy4, .val .null, .val .null, .unset] [.null, .null])) (fun _ k => XS.aload X6.here hx rfl (hb hby at_60) rfl rfl k) ?_
      obtain ⟨_, _, ⟨T7, L7, kk7, nn7⟩, -, X7, ⟨Lc7, hQ7, lq7, yq7, zz7⟩, st7⟩ := Jvm.LawKit.callS X6 hx (y := (⟨"com/example/lapwing/lapwing/profile/RuleViolation", "error", "(Ljava/lang/String;Ljava/lang/String;)Lcom/example/lapwing/lapwing/profile/RuleViolation;"⟩ : MethodName)) hown6 (mvT hZ6 (hw _ (List.mem_of_getElem? (i := 30) rfl))) (mvT hZ6 (hw _ (List.mem_of_getElem? (i := 31) rfl))) (mvT hZ6 (hw _ (List.mem_of_getElem? (i := 32) rfl))) (mvT hZ6 (hw _ (List.mem_of_getElem? (i := 33) rfl))) (by decide) (own_back (W := 0) (rmW11 l Z a0 hw []  w_ERROR i_COMPACT_STRINGS v_SIOOBE_FORMATTER T6.heap n0 O6 WW) hZ6 (hw _ (List.mem_of_getElem? (i := 33) rfl)) (hw _ (List.mem_of_getElem? (i := 32) rfl)) (by decide) (by decide)) (g := (mkF m 62 #[iv p1, iv p2, iv p3, iv yy1, iv yy2, iv yy3, iv yy4, .val .null, .val .null, .unset] [.null, .null])) rfl (by rw [hml]; rfl) (argsL := [.null, .null]) (rest := []) (lenOf pd__Ljava_lang_String_Ljava_lang_String__Lcom_example_lapwing_lapwing_profile_RuleViolation_ rfl) rfl (by show 2 * 0 + _ ≤ _; exact Nat.le_of_eq rfl) (hb hby at_62) (fun _ _ => ⟨rfl, rfl, (by decide : 12 + 1 ≤ _), (by decide : 24 + 3 ≤ _)⟩)
      dsimp only [Pt.U, Pt.locs, Pt.cells, Pt.slots] at X7 lq7 yq7 zz7 st7 hQ7
      subst lq7 yq7 zz7
      obtain ⟨b7, rfl, Nq7, zq7, kq7, eq7, fq7_0, fq7_1, fq7_2⟩ := hQ7
      have N7 := Fr.app N6 Nq7
      have ne_w_ERROR_b7 : w_ERROR ≠ b7 := Nat.ne_of_lt (Nat.lt_of_lt_of_le lt_w_ERROR (Nat.le_trans O6.2.1 zq7))
      have g_b7 : n0 ≤ b7 := Nat.le_trans (O6.1 ▸ O6.2.1) zq7
      have sn_b7 : Safe Z EL T6.vm T6.heap b7 := Safe.new zq7
      have O7 : Old Z n0 T7.heap := O6.keep kq7 all0
      have CR7 : CHr Z EL s.vm h0 T6.vm T7.heap := CR6.trans (CHr.keep kq7 sf0 CR6.1)
      have lt_b7 := eq7.lt
      refine Go.st (f' := (mkF m 65 #[iv p1, iv p2, iv p3, iv yy1, iv yy2, iv yy3, iv yy4, .val .null, .val .null, .unset] [(.ref b7)])) (fun _ k => st7 _ k) ?_
      refine Go.st (f' := (mkF m 67 #[iv p1, iv p2, iv p3, iv yy1, iv yy2, iv yy3, iv yy4, .val .null, .val .null, rv b7] [])) (fun _ k => XS.astore X7.here hx rfl (hb hby at_65) rfl rfl (l' := #[iv p1, iv p2, iv p3, iv yy1, iv yy2, iv yy3, iv yy4, .val .null, .val .null, rv b7]) rfl k) ?_
      refine Go.st (f' := (mkF m 69 #[iv p1, iv p2, iv p3, iv yy1, iv yy2, iv yy3, iv yy4, .val .null, .val .null, rv b7] [(.ref b7)])) (fun _ k => XS.aload X7.here hx rfl (hb hby at_67) rfl rfl k) ?_
      obtain ⟨cq8, kq8, q8a, q8b, q8c⟩ := isOf hZ6 rfl eq7
      obtain ⟨_, _, ⟨T8, L8, kk8, nn8⟩, -, X8, ⟨Lc8, hQ8, lq8, yq8, zz8⟩, st8⟩ := X7.virtualBack hx (y := (⟨"com/example/lapwing/lapwing/profile/RuleViolation", "severity", "()Lcom/example/lapwing/lapwing/profile/RuleViolation$Severity;"⟩ : MethodName)) (z := (⟨"com/example/lapwing/lapwing/profile/RuleViolation", "severity", "()Lcom/example/lapwing/lapwing/profile/RuleViolation$Severity;"⟩ : MethodName)) hown6 (mvT hZ6 (hw _ (List.mem_of_getElem? (i := 54) rfl))) (mvT hZ6 (hw _ (List.mem_of_getElem? (i := 55) rfl))) (notFace_of_selects (args := #[]) (mvT hZ6 (hw _ (List.mem_of_getElem? (i := 57) rfl)))) (mvT hZ6 (hw _ (List.mem_of_getElem? (i := 57) rfl))) (mvT hZ6 (hw _ (List.mem_of_getElem? (i := 56) rfl))) (by decide) (own_back (W := 0) (rmG_severity l Z a0 hw [] b7 (.ref w_ERROR) T7.heap n0 O7 rfl eq7 fq7_0) hZ6 (hw _ (List.mem_of_getElem? (i := 58) rfl)) (hw _ (List.mem_of_getElem? (i := 32) rfl)) (by decide) (by decide)) q8a q8c (g := (mkF m 69 #[iv p1, iv p2, iv p3, iv yy1, iv yy2, iv yy3, iv yy4, .val .null, .val .null, rv b7] [(.ref b7)])) rfl (by rw [hml]; rfl) (Steps.refl _) (argsL := []) (rest := []) (lenOf pd___Lcom_example_lapwing_lapwing_profile_RuleViolation_Severity_ rfl) rfl (by show 2 * 0 + _ ≤ _; exact Nat.le_of_eq rfl) (hb hby at_69) (fun _ _ => ⟨rfl, rfl, (by decide : 13 + 0 ≤ _), (by decide : 27 + 0 ≤ _)⟩)
      dsimp only [Pt.U, Pt.locs, Pt.cells, Pt.slots] at X8 lq8 yq8 zz8 st8 hQ8
      subst lq8 yq8 zz8
      obtain ⟨rfl, Nq8, kq8⟩ := hQ8
      have N8 := Fr.app N7 Nq8
      refine Go.tr (f' := (mkF m 72 #[iv p1, iv p2, iv p3, iv yy1, iv yy2, iv yy3, iv yy4, .val .null, .val .null, rv b7] [(.ref w_ERROR)])) st8 ?_
      obtain ⟨T9, X9, e9, st9⟩ := getS2 X8 hx hZ6 hown6 (host := "") (Or.inl (hw _ (List.mem_of_getElem? (i := 59) rfl))) Via.refl kq8 (S_w_ERROR.ext O7.2) (g := (mkF m 72 #[iv p1, iv p2, iv p3, iv yy1, iv yy2, iv yy3, iv yy4, .val .null, .val .null, rv b7] [(.ref w_ERROR)])) rfl (hb hby at_72)
      refine Go.st (f' := (mkF m 75 #[iv p1, iv p2, iv p3, iv yy1, iv yy2, iv yy3, iv yy4, .val .null, .val .null, rv b7] [(.ref w_ERROR), (.ref w_ERROR)])) (fun _ k => st9 _ k) ?_
      refine Go.st (f' := (mkF m 78 #[iv p1, iv p2, iv p3, iv yy1, iv yy2, iv yy3, iv yy4, .val .null, .val .null, rv b7] [])) (fun _ k => Jvm.RoadKit.acmp (g := (mkF m 75 #[iv p1, iv p2, iv p3, iv yy1, iv yy2, iv yy3, iv yy4, .val .null, .val .null, rv b7] [(.ref w_ERROR), (.ref w_ERROR)])) X9 hx rfl rfl rfl (pc0 := 75) (pc' := 78) (same := true) rfl (hb hby at_75) rfl (decide_eq_true rfl) (by decide) (by decide) k) ?_
      refine Go.st (f' := (mkF m 80 #[iv p1, iv p2, iv p3, iv yy1, iv yy2, iv yy3, iv yy4, .val .null, .val .null, rv b7] [(.ref b7)])) (fun _ k => XS.aload X9.here hx rfl (hb hby at_78) rfl rfl k) ?_
      obtain ⟨cq10, kq10, q10a, q10b, q10c⟩ := isOf hZ6 e9 eq7
      obtain ⟨_, _, ⟨T10, L10, kk10, nn10⟩, -, X10, ⟨Lc10, hQ10, lq10, yq10, zz10⟩, st10⟩ := X9.virtualBack hx (y := (⟨"com/example/lapwing/lapwing/profile/RuleViolation", "path", "()Ljava/lang/String;"⟩ : MethodName)) (z := (⟨"com/example/lapwing/lapwing/profile/RuleViolation", "path", "()Ljava/lang/String;"⟩ : MethodName)) hown6 (mvT hZ6 (hw _ (List.mem_of_getElem? (i := 60) rfl))) (mvT hZ6 (hw _ (List.mem_of_getElem? (i := 61) rfl))) (notFace_of_selects (args := #[]) (mvT hZ6 (hw _ (List.mem_of_getElem? (i := 63) rfl)))) (mvT hZ6 (hw _ (List.mem_of_getElem? (i := 63) rfl))) (mvT hZ6 (hw _ (List.mem_of_getElem? (i := 62) rfl))) (by decide) (own_back (W := 0) (rmG_path l Z a0 hw [] b7 .null T7.heap n0 O7 rfl eq7 fq7_1) hZ6 (hw _ (List.mem_of_getElem? (i := 64) rfl)) (hw _ (List.mem_of_getElem? (i := 32) rfl)) (by decide) (by decide)) q10a q10c (g := (mkF m 80 #[iv p1, iv p2, iv p3, iv yy1, iv yy2, iv yy3, iv yy4, .val .null, .val .null, rv b7] [(.ref b7)])) rfl (by rw [hml]; rfl) (Steps.refl _) (argsL := []) (rest := []) (lenOf pd___Ljava_lang_String_ rfl) rfl (by show 2 * 0 + _ ≤ _; exact Nat.le_of_eq rfl) (hb hby at_80) (fun _ _ => ⟨rfl, e9, (by decide : 13 + 0 ≤ _), (by decide : 27 + 0 ≤ _)⟩)
      dsimp only [Pt.U, Pt.locs, Pt.cells, Pt.slots] at X10 lq10 yq10 zz10 st10 hQ10
      subst lq10 yq10 zz10
      obtain ⟨rfl, Nq10, kq10⟩ := hQ10
      have N10 := Fr.app N8 Nq10
      refine Go.tr (f' := (mkF m 83 #[iv p1, iv p2, iv p3, iv yy1, iv yy2, iv yy3, iv yy4, .val .null, .val .null, rv b7] [.null])) st10 ?_
      refine Go.st (f' := (mkF m 85 #[iv p1, iv p2, iv p3, iv yy1, iv yy2, iv yy3, iv yy4, .val .null, .val .null, rv b7] [.null, .null])) (fun _ k => XS.aload X10.here hx rfl (hb hby at_83) rfl rfl k) ?_
      obtain ⟨_, _, ⟨T11, L11, kk11, nn11⟩, -, X11, ⟨Lc11, hQ11, lq11, yq11, zz11⟩, st11⟩ := Jvm.LawKit.callS X10 hx (y := (⟨"com/example/lapwing/lapwing/profile/RuleViolationErrorPinLaw", "same", "(Ljava/lang/String;Ljava/lang/String;)Z"⟩ : MethodName)) hown6 (mvT hZ6 (hw _ (List.mem_of_getElem? (i := 65) rfl))) (mvT hZ6 (hw _ (List.mem_of_getElem? (i := 66) rfl))) (mvT hZ6 (hw _ (List.mem_of_getElem? (i := 2) rfl))) (mvT hZ6 (hw _ (List.mem_of_getElem? (i := 67) rfl))) (by decide) (own_back (W := 0) (rmS1 l Z a0 hw []  T7.heap n0 O7 ) hZ6 (hw _ (List.mem_of_getElem? (i := 67) rfl)) (hw _ (List.mem_of_getElem? (i := 2) rfl)) (by decide) (by decide)) (g := (mkF m 85 #[iv p1, iv p2, iv p3, iv yy1, iv yy2, iv yy3, iv yy4, .val .null, .val .null, rv b7] [.null, .null])) rfl (by rw [hml]; rfl) (argsL := [.null, .null]) (rest := []) (lenOf pd__Ljava_lang_String_Ljava_lang_String__Z rfl) rfl (by show 2 * 0 + _ ≤ _; exact Nat.le_of_eq rfl) (hb hby at_85) (fun _ _ => ⟨rfl, kq10, (by decide : 13 + 0 ≤ _), (by decide : 27 + 0 ≤ _)⟩)
      dsimp only [Pt.U, Pt.locs, Pt.cells, Pt.slots] at X11 lq11 yq11 zz11 st11 hQ11
      subst lq11 yq11 zz11
      obtain ⟨rfl, Nq11, kq11⟩ := hQ11
      have N11 := Fr.app N10 Nq11
      refine Go.st (f' := (mkF m 88 #[iv p1, iv p2, iv p3, iv yy1, iv yy2, iv yy3, iv yy4, .val .null, .val .null, rv b7] [(.int 1)])) (fun _ k => st11 _ k) ?_
      refine Go.st (f' := (mkF m 91 #[iv p1, iv p2, iv p3, iv yy1, iv yy2, iv yy3, iv yy4, .val .null, .val .null, rv b7] [])) (fun _ k => XS.ifNo X11.here hx rfl (hb hby at_88) rfl (by decide) k) ?_
      refine Go.st (f' := (mkF m 93 #[iv p1, iv p2, iv p3, iv yy1, iv yy2, iv yy3, iv yy4, .val .null, .val .null, rv b7] [(.ref b7)])) (fun _ k => XS.aload X11.here hx rfl (hb hby at_91) rfl rfl k) ?_
      obtain ⟨cq12, kq12, q12a, q12b, q12c⟩ := isOf hZ6 kq11 eq7
      obtain ⟨_, _, ⟨T12, L12, kk12, nn12⟩, -, X12, ⟨Lc12, hQ12, lq12, yq12, zz12⟩, st12⟩ := X11.virtualBack hx (y := (⟨"com/example/lapwing/lapwing/profile/RuleViolation", "message", "()Ljava/lang/String;"⟩ : MethodName)) (z := (⟨"com/example/lapwing/lapwing/profile/RuleViolation", "message", "()Ljava/lang/String;"⟩ : MethodName)) hown6 (mvT hZ6 (hw _ (List.mem_of_getElem? (i := 73) rfl))) (mvT hZ6 (hw _ (List.mem_of_getElem? (i := 74) rfl))) (notFace_of_selects (args := #[]) (mvT hZ6 (hw _ (List.mem_of_getElem? (i := 76) rfl)))) (mvT hZ6 (hw _ (List.mem_of_getElem? (i := 76) rfl))) (mvT hZ6 (hw _ (List.mem_of_getElem? (i := 75) rfl))) (by decide) (own_back (W := 0) (rmG_message l Z a0 hw [] b7 .null T7.heap n0 O7 rfl eq7 fq7_2) hZ6 (hw _ (List.mem_of_getElem? (i := 77) rfl)) (hw _ (List.mem_of_getElem? (i := 32) rfl)) (by decide) (by decide)) q12a q12c (g := (mkF m 93 #[iv p1, iv p2, iv p3, iv yy1, iv yy2, iv yy3, iv yy4, .val .null, .val .null, rv b7] [(.ref b7)])) rfl (by rw [hml]; rfl) (Steps.refl _) (argsL := []) (rest := []) (lenOf pd___Ljava_lang_String_ rfl) rfl (by show 2 * 0 + _ ≤ _; exact Nat.le_of_eq rfl) (hb hby at_93) (fun _ _ => ⟨rfl, kq11, (by decide : 13 + 0 ≤ _), (by decide : 27 + 0 ≤ _)⟩)
      dsimp only [Pt.U, Pt.locs, Pt.cells, Pt.slots] at X12 lq12 yq12 zz12 st12 hQ12
      subst lq12 yq12 zz12
      obtain ⟨rfl, Nq12, kq12⟩ := hQ12
      have N12 := Fr.app N11 Nq12
      refine Go.tr (f' := (mkF m 96 #[iv p1, iv p2, iv p3, iv yy1, iv yy2, iv yy3, iv yy4, .val .null, .val .null, rv b7] [.null])) st12 ?_
      refine Go.st (f' := (mkF m 98 #[iv p1, iv p2, iv p3, iv yy1, iv yy2, iv yy3, iv yy4, .val .null, .val .null, rv b7] [.null, .null])) (fun _ k => XS.aload X12.here hx rfl (hb hby at_96) rfl rfl k) ?_
      obtain ⟨_, _, ⟨T13, L13, kk13, nn13⟩, -, X13, ⟨Lc13, hQ13, lq13, yq13, zz13⟩, st13⟩ := Jvm.LawKit.callS X12 hx (y := (⟨"com/example/lapwing/lapwing/profile/RuleViolationErrorPinLaw", "same", "(Ljava/lang/String;Ljava/lang/String;)Z"⟩ : MethodName)) hown6 (mvT hZ6 (hw _ (List.mem_of_getElem? (i := 65) rfl))) (mvT hZ6 (hw _ (List.mem_of_getElem? (i := 66) rfl))) (mvT hZ6 (hw _ (List.mem_of_getElem? (i := 2) rfl))) (mvT hZ6 (hw _ (List.mem_of_getElem? (i := 67) rfl))) (by decide) (own_back (W := 0) (rmS1 l Z a0 hw []  T7.heap n0 O7 ) hZ6 (hw _ (List.mem_of_getElem? (i := 67) rfl)) (hw _ (List.mem_of_getElem? (i := 2) rfl)) (by decide) (by decide)) (g := (mkF m 98 #[iv p1, iv p2, iv p3, iv yy1, iv yy2, iv yy3, iv yy4, .val .null, .val .null, rv b7] [.null, .null])) rfl (by rw [hml]; rfl) (argsL := [.null, .null]) (rest := []) (lenOf pd__Ljava_lang_String_Ljava_lang_String__Z rfl) rfl (by show 2 * 0 + _ ≤ _; exact Nat.le_of_eq rfl) (hb hby at_98) (fun _ _ => ⟨rfl, kq12, (by decide : 13 + 0 ≤ _), (by decide : 27 + 0 ≤ _)⟩)
      dsimp only [Pt.U, Pt.locs, Pt.cells, Pt.slots] at X13 lq13 yq13 zz13 st13 hQ13
      subst lq13 yq13 zz13
      obtain ⟨rfl, Nq13, kq13⟩ := hQ13
      have N13 := Fr.app N12 Nq13
      refine Go.st (f' := (mkF m 101 #[iv p1, iv p2, iv p3, iv yy1, iv yy2, iv yy3, iv yy4, .val .null, .val .null, rv b7] [(.int 1)])) (fun _ k => st13 _ k) ?_
      refine Go.st (f' := (mkF m 104 #[iv p1, iv p2, iv p3, iv yy1, iv yy2, iv yy3, iv yy4, .val .null, .val .null, rv b7] [])) (fun _ k => XS.ifNo X13.here hx rfl (hb hby at_101) rfl (by decide) k) ?_
      refine Go.st (f' := (mkF m 105 #[iv p1, iv p2, iv p3, iv yy1, iv yy2, iv yy3, iv yy4, .val .null, .val .null, rv b7] [(.int 1)])) (fun _ k => XS.iconst X13.here hx rfl (hb hby at_104) k) ?_
      refine Go.st (f' := (mkF m 109 #[iv p1, iv p2, iv p3, iv yy1, iv yy2, iv yy3, iv yy4, .val .null, .val .null, rv b7] [(.int 1)])) (fun _ k => XS.goto X13.here hx rfl (pc0 := 105) (pc' := 109) rfl (hb hby at_105) (by decide) (by decide) k) ?_
      have ft14 := (Nat.le_trans hk6 kq7.1)
      refine GoW.retB X13 hlk hx (t := .boolean) hret (by simp) (hb hby at_109) kq13 hS6 ft14 hZ6 hEL CR7 hh ?_ (by decide) (by decide)
      exact ⟨rfl, N13⟩
    · have lt_b6 := eq6.lt
      refine Go.tr (f' := (mkF m 56 #[iv p1, iv p2, iv p3, iv yy1, iv yy2, iv yy3, iv yy4, .val .null, .unset, .unset] [(.ref b6)])) st6 ?_
      refine Go.st (f' := (mkF m 58 #[iv p1, iv p2, iv p3, iv yy1, iv yy2, iv yy3, iv yy4, .val .null, rv b6, .unset] [])) (fun _ k => XS.astore X6.here hx rfl (hb hby at_56) rfl rfl (l' := #[iv p1, iv p2, iv p3, iv yy1, iv yy2, iv yy3, iv yy4, .val .null, rv b6, .unset]) rfl k) ?_
      refine Go.st (f' := (mkF m 60 #[iv p1, iv p2, iv p3, iv yy1, iv yy2, iv yy3, iv yy4, .val .null, rv b6, .unset] [.null])) (fun _ k => XS.aload X6.here hx rfl (hb hby at_58) rfl rfl k) ?_
      refine Go.st (f' := (mkF m 62 #[iv p1, iv p2, iv p3, iv yy1, iv yy2, iv yy3, iv yy4, .val .null, rv b6, .unset] [(.ref b6), .null])) (fun _ k => XS.aload X6.here hx rfl (hb hby at_60) rfl rfl k) ?_
      obtain ⟨_, _, ⟨T15, L15, kk15, nn15⟩, -, X15, ⟨Lc15, hQ15, lq15, yq15, zz15⟩, st15⟩ := Jvm.LawKit.callS X6 hx (y := (⟨"com/example/lapwing/lapwing/profile/RuleViolation", "error", "(Ljava/lang/String;Ljava/lang/String;)Lcom/example/lapwing/lapwing/profile/RuleViolation;"⟩ : MethodName)) hown6 (mvT hZ6 (hw _ (List.mem_of_getElem? (i := 30) rfl))) (mvT hZ6 (hw _ (List.mem_of_getElem? (i := 31) rfl))) (mvT hZ6 (hw _ (List.mem_of_getElem? (i := 32) rfl))) (mvT hZ6 (hw _ (List.mem_of_getElem? (i := 33) rfl))) (by decide) (own_back (W := 0) (rmW10 l Z a0 hw [] b6 w_ERROR i_COMPACT_STRINGS v_SIOOBE_FORMATTER T6.heap n0 O6 WW) hZ6 (hw _ (List.mem_of_getElem? (i := 33) rfl)) (hw _ (List.mem_of_getElem? (i := 32) rfl)) (by decide) (by decide)) (g := (mkF m 62 #[iv p1, iv p2, iv p3, iv yy1, iv yy2, iv yy3, iv yy4, .val .null, rv b6, .unset] [(.ref b6), .null])) rfl (by rw [hml]; rfl) (argsL := [.null, (.ref b6)]) (rest := []) (lenOf pd__Ljava_lang_String_Ljava_lang_String__Lcom_example_lapwing_lapwing_profile_RuleViolation_ rfl) rfl (by show 2 * 0 + _ ≤ _; exact Nat.le_of_eq rfl) (hb hby at_62) (fun _ _ => ⟨rfl, rfl, (by decide : 12 + 1 ≤ _), (by decide : 24 + 3 ≤ _)⟩)
      dsimp only [Pt.U, Pt.locs, Pt.cells, Pt.slots] at X15 lq15 yq15 zz15 st15 hQ15
      subst lq15 yq15 zz15
      obtain ⟨b15, rfl, Nq15, zq15, kq15, eq15, fq15_0, fq15_1, fq15_2⟩ := hQ15
      have N15 := Fr.app N6 Nq15
      have ne_b6_b15 : b6 ≠ b15 := Nat.ne_of_lt (Nat.lt_of_lt_of_le lt_b6 zq15)
      have ne_w_ERROR_b15 : w_ERROR ≠ b15 := Nat.ne_of_lt (Nat.lt_of_lt_of_le lt_w_ERROR (Nat.le_trans O6.2.1 zq15))
      have g_b15 : n0 ≤ b15 := Nat.le_trans (O6.1 ▸ O6.2.1) zq15
      have sn_b15 : Safe Z EL T6.vm T6.heap b15 := Safe.new zq15
      have O15 : Old Z n0 T15.heap := O6.keep kq15 all0
      have CR15 : CHr Z EL s.vm h0 T6.vm T15.heap := CR6.trans (CHr.keep kq15 sf0 CR6.1)
      have lt_b15 := eq15.lt
      refine Go.st (f' := (mkF m 65 #[iv p1, iv p2, iv p3, iv yy1, iv yy2, iv yy3, iv yy4, .val .null, rv b6, .unset] [(.ref b15)])) (fun _ k => st15 _ k) ?_
      refine Go.st (f' := (mkF m 67 #[iv p1, iv p2, iv p3, iv yy1, iv yy2, iv yy3, iv yy4, .val .null, rv b6, rv b15] [])) (fun _ k => XS.astore X15.here hx rfl (hb hby at_65) rfl rfl (l' := #[iv p1, iv p2, iv p3, iv yy1, iv yy2, iv yy3, iv yy4, .val .null, rv b6, rv b15]) rfl k) ?_
      refine Go.st (f' := (mkF m 69 #[iv p1, iv p2, iv p3, iv yy1, iv yy2, iv yy3, iv yy4, .val .null, rv b6, rv b15] [(.ref b15)])) (fun _ k => XS.aload X15.here hx rfl (hb hby at_67) rfl rfl k) ?_
      obtain ⟨cq16, kq16, q16a, q16b, q16c⟩ := isOf hZ6 rfl eq15
      obtain ⟨_, _, ⟨T16, L16, kk16, nn16⟩, -, X16, ⟨Lc16, hQ16, lq16, yq16, zz16⟩, st16⟩ := X15.virtualBack hx (y := (⟨"com/example/lapwing/lapwing/profile/RuleViolation", "severity", "()Lcom/example/lapwing/lapwing/profile/RuleViolation$Severity;"⟩ : MethodName)) (z := (⟨"com/example/lapwing/lapwing/profile/RuleViolation", "severity", "()Lcom/example/lapwing/lapwing/profile/RuleViolation$Severity;"⟩ : MethodName)) hown6 (mvT hZ6 (hw _ (List.mem_of_getElem? (i := 54) rfl))) (mvT hZ6 (hw _ (List.mem_of_getElem? (i := 55) rfl))) (notFace_of_selects (args := #[]) (mvT hZ6 (hw _ (List.mem_of_getElem? (i := 57) rfl)))) (mvT hZ6 (hw _ (List.mem_of_getElem? (i := 57) rfl))) (mvT hZ6 (hw _ (List.mem_of_getElem? (i := 56) rfl))) (by decide) (own_back (W := 0) (rmG_severity l Z a0 hw [] b15 (.ref w_ERROR) T15.heap n0 O15 rfl eq15 fq15_0) hZ6 (hw _ (List.mem_of_getElem? (i := 58) rfl)) (hw _ (List.mem_of_getElem? (i := 32) rfl)) (by decide) (by decide)) q16a q16c (g := (mkF m 69 #[iv p1, iv p2, iv p3, iv yy1, iv yy2, iv yy3, iv yy4, .val .null, rv b6, rv b15] [(.ref b15)])) rfl (by rw [hml]; rfl) (Steps.refl _) (argsL := []) (rest := []) (lenOf pd___Lcom_example_lapwing_lapwing_profile_RuleViolation_Severity_ rfl) rfl (by show 2 * 0 + _ ≤ _; exact Nat.le_of_eq rfl) (hb hby at_69) (fun _ _ => ⟨rfl, rfl, (by decide : 13 + 0 ≤ _), (by decide : 27 + 0 ≤ _)⟩)
      dsimp only [Pt.U, Pt.locs, Pt.cells, Pt.slots] at X16 lq16 yq16 zz16 st16 hQ16
      subst lq16 yq16 zz16
      obtain ⟨rfl, Nq16, kq16⟩ := hQ16
      have N16 := Fr.app N15 Nq16
      refine Go.tr (f' := (mkF m 72 #[iv p1, iv p2, iv p3, iv yy1, iv yy2, iv yy3, iv yy4, .val .null, rv b6, rv b15] [(.ref w_ERROR)])) st16 ?_
      obtain ⟨T17, X17, e17, st17⟩ := getS2 X16 hx hZ6 hown6 (host := "") (Or.inl (hw _ (List.mem_of_getElem? (i := 59) rfl))) Via.refl kq16 (S_w_ERROR.ext O15.2) (g := (mkF m 72 #[iv p1, iv p2, iv p3, iv yy1, iv yy2, iv yy3, iv yy4, .val .null, rv b6, rv b15] [(.ref w_ERROR)])) rfl (hb hby at_72)
      refine Go.st (f' := (mkF m 75 #[iv p1, iv p2, iv p3, iv yy1, iv yy2, iv yy3, iv yy4, .val .null, rv b6, rv b15] [(.ref w_ERROR), (.ref w_ERROR)])) (fun _ k => st17 _ k) ?_
      refine Go.st (f' := (mkF m 78 #[iv p1, iv p2, iv p3, iv yy1, iv yy2, iv yy3, iv yy4, .val .null, rv b6, rv b15] [])) (fun _ k => Jvm.RoadKit.acmp (g := (mkF m 75 #[iv p1, iv p2, iv p3, iv yy1, iv yy2, iv yy3, iv yy4, .val .null, rv b6, rv b15] [(.ref w_ERROR), (.ref w_ERROR)])) X17 hx rfl rfl rfl (pc0 := 75) (pc' := 78) (same := true) rfl (hb hby at_75) rfl (decide_eq_true rfl) (by decide) (by decide) k) ?_
      refine Go.st (f' := (mkF m 80 #[iv p1, iv p2, iv p3, iv yy1, iv yy2, iv yy3, iv yy4, .val .null, rv b6, rv b15] [(.ref b15)])) (fun _ k => XS.aload X17.here hx rfl (hb hby at_78) rfl rfl k) ?_
      obtain ⟨cq18, kq18, q18a, q18b, q18c⟩ := isOf hZ6 e17 eq15
      obtain ⟨_, _, ⟨T18, L18, kk18, nn18⟩, -, X18, ⟨Lc18, hQ18, lq18, yq18, zz18⟩, st18⟩ := X17.virtualBack hx (y := (⟨"com/example/lapwing/lapwing/profile/RuleViolation", "path", "()Ljava/lang/String;"⟩ : MethodName)) (z := (⟨"com/example/lapwing/lapwing/profile/RuleViolation", "path", "()Ljava/lang/String;"⟩ : MethodName)) hown6 (mvT hZ6 (hw _ (List.mem_of_getElem? (i := 60) rfl))) (mvT hZ6 (hw _ (List.mem_of_getElem? (i := 61) rfl))) (notFace_of_selects (args := #[]) (mvT hZ6 (hw _ (List.mem_of_getElem? (i := 63) rfl)))) (mvT hZ6 (hw _ (List.mem_of_getElem? (i := 63) rfl))) (mvT hZ6 (hw _ (List.mem_of_getElem? (i := 62) rfl))) (by decide) (own_back (W := 0) (rmG_path l Z a0 hw [] b15 .null T15.heap n0 O15 rfl eq15 fq15_1) hZ6 (hw _ (List.mem_of_getElem? (i := 64) rfl)) (hw _ (List.mem_of_getElem? (i := 32) rfl)) (by decide) (by decide)) q18a q18c (g := (mkF m 80 #[iv p1, iv p2, iv p3, iv yy1, iv yy2, iv yy3, iv yy4, .val .null, rv b6, rv b15] [(.ref b15)])) rfl (by rw [hml]; rfl) (Steps.refl _) (argsL := []) (rest := []) (lenOf pd___Ljava_lang_String_ rfl) rfl (by show 2 * 0 + _ ≤ _; exact Nat.le_of_eq rfl) (hb hby at_80) (fun _ _ => ⟨rfl, e17, (by decide : 13 + 0 ≤ _), (by decide : 27 + 0 ≤ _)⟩)
      dsimp only [Pt.U, Pt.locs, Pt.cells, Pt.slots] at X18 lq18 yq18 zz18 st18 hQ18
      subst lq18 yq18 zz18
      obtain ⟨rfl, Nq18, kq18⟩ := hQ18
      have N18 := Fr.app N16 Nq18
      refine Go.tr (f' := (mkF m 83 #[iv p1, iv p2, iv p3, iv yy1, iv yy2, iv yy3, iv yy4, .val .null, rv b6, rv b15] [.null])) st18 ?_
      refine Go.st (f' := (mkF m 85 #[iv p1, iv p2, iv p3, iv yy1, iv yy2, iv yy3, iv yy4, .val .null, rv b6, rv b15] [.null, .null])) (fun _ k => XS.aload X18.here hx rfl (hb hby at_83) rfl rfl k) ?_
      obtain ⟨_, _, ⟨T19, L19, kk19, nn19⟩, -, X19, ⟨Lc19, hQ19, lq19, yq19, zz19⟩, st19⟩ := Jvm.LawKit.callS X18 hx (y := (⟨"com/example/lapwing/lapwing/profile/RuleViolationErrorPinLaw", "same", "(Ljava/lang/String;Ljava/lang/String;)Z"⟩ : MethodName)) hown6 (mvT hZ6 (hw _ (List.mem_of_getElem? (i := 65) rfl))) (mvT hZ6 (hw _ (List.mem_of_getElem? (i := 66) rfl))) (mvT hZ6 (hw _ (List.mem_of_getElem? (i := 2) rfl))) (mvT hZ6 (hw _ (List.mem_of_getElem? (i := 67) rfl))) (by decide) (own_back (W := 0) (rmS1 l Z a0 hw []  T15.heap n0 O15 ) hZ6 (hw _ (List.mem_of_getElem? (i := 67) rfl)) (hw _ (List.mem_of_getElem? (i := 2) rfl)) (by decide) (by decide)) (g := (mkF m 85 #[iv p1, iv p2, iv p3, iv yy1, iv yy2, iv yy3, iv yy4, .val .null, rv b6, rv b15] [.null, .null])) rfl (by rw [hml]; rfl) (argsL := [.null, .null]) (rest := []) (lenOf pd__Ljava_lang_String_Ljava_lang_String__Z rfl) rfl (by show 2 * 0 + _ ≤ _; exact Nat.le_of_eq rfl) (hb hby at_85) (fun _ _ => ⟨rfl, kq18, (by decide : 13 + 0 ≤ _), (by decide : 27 + 0 ≤ _)⟩)
      dsimp only [Pt.U, Pt.locs, Pt.cells, Pt.slots] at X19 lq19 yq19 zz19 st19 hQ19
      subst lq19 yq19 zz19
      obtain ⟨rfl, Nq19, kq19⟩ := hQ19
      have N19 := Fr.app N18 Nq19
      refine Go.st (f' := (mkF m 88 #[iv p1, iv p2, iv p3, iv yy1, iv yy2, iv yy3, iv yy4, .val .null, rv b6, rv b15] [(.int 1)])) (fun _ k => st19 _ k) ?_
      refine Go.st (f' := (mkF m 91 #[iv p1, iv p2, iv p3, iv yy1, iv yy2, iv yy3, iv yy4, .val .null, rv b6, rv b15] [])) (fun _ k => XS.ifNo X19.here hx rfl (hb hby at_88) rfl (by decide) k) ?_
      refine Go.st (f' := (mkF m 93 #[iv p1, iv p2, iv p3, iv yy1, iv yy2, iv yy3, iv yy4, .val .null, rv b6, rv b15] [(.ref b15)])) (fun _ k => XS.aload X19.here hx rfl (hb hby at_91) rfl rfl k) ?_
      obtain ⟨cq20, kq20, q20a, q20b, q20c⟩ := isOf hZ6 kq19 eq15
      obtain ⟨_, _, ⟨T20, L20, kk20, nn20⟩, -, X20, ⟨Lc20, hQ20, lq20, yq20, zz20⟩, st20⟩ := X19.virtualBack hx (y := (⟨"com/example/lapwing/lapwing/profile/RuleViolation", "message", "()Ljava/lang/String;"⟩ : MethodName)) (z := (⟨"com/example/lapwing/lapwing/profile/RuleViolation", "message", "()Ljava/lang/String;"⟩ : MethodName)) hown6 (mvT hZ6 (hw _ (List.mem_of_getElem? (i := 73) rfl))) (mvT hZ6 (hw _ (List.mem_of_getElem? (i := 74) rfl))) (notFace_of_selects (args := #[]) (mvT hZ6 (hw _ (List.mem_of_getElem? (i := 76) rfl)))) (mvT hZ6 (hw _ (List.mem_of_getElem? (i := 76) rfl))) (mvT hZ6 (hw _ (List.mem_of_getElem? (i := 75) rfl))) (by decide) (own_back (W := 0) (rmG_message l Z a0 hw [] b15 (.ref b6) T15.heap n0 O15 rfl eq15 fq15_2) hZ6 (hw _ (List.mem_of_getElem? (i := 77) rfl)) (hw _ (List.mem_of_getElem? (i := 32) rfl)) (by decide) (by decide)) q20a q20c (g := (mkF m 93 #[iv p1, iv p2, iv p3, iv yy1, iv yy2, iv yy3, iv yy4, .val .null, rv b6, rv b15] [(.ref b15)])) rfl (by rw [hml]; rfl) (Steps.refl _) (argsL := []) (rest := []) (lenOf pd___Ljava_lang_String_ rfl) rfl (by show 2 * 0 + _ ≤ _; exact Nat.le_of_eq rfl) (hb hby at_93) (fun _ _ => ⟨rfl, kq19, (by decide : 13 + 0 ≤ _), (by decide : 27 + 0 ≤ _)⟩)
      dsimp only [Pt.U, Pt.locs, Pt.cells, Pt.slots] at X20 lq20 yq20 zz20 st20 hQ20
      subst lq20 yq20 zz20
      obtain ⟨rfl, Nq20, kq20⟩ := hQ20
      have N20 := Fr.app N19 Nq20
      refine Go.tr (f' := (mkF m 96 #[iv p1, iv p2, iv p3, iv yy1, iv yy2, iv yy3, iv yy4, .val .null, rv b6, rv b15] [(.ref b6)])) st20 ?_
      refine Go.st (f' := (mkF m 98 #[iv p1, iv p2, iv p3, iv yy1, iv yy2, iv yy3, iv yy4, .val .null, rv b6, rv b15] [(.ref b6), (.ref b6)])) (fun _ k => XS.aload X20.here hx rfl (hb hby at_96) rfl rfl k) ?_
      have ft22 := (eq6.keep kq15)
      obtain ⟨_, _, ⟨T21, L21, kk21, nn21⟩, -, X21, ⟨Lc21, hQ21, lq21, yq21, zz21⟩, st21⟩ := Jvm.LawKit.callS X20 hx (y := (⟨"com/example/lapwing/lapwing/profile/RuleViolationErrorPinLaw", "same", "(Ljava/lang/String;Ljava/lang/String;)Z"⟩ : MethodName)) hown6 (mvT hZ6 (hw _ (List.mem_of_getElem? (i := 65) rfl))) (mvT hZ6 (hw _ (List.mem_of_getElem? (i := 66) rfl))) (mvT hZ6 (hw _ (List.mem_of_getElem? (i := 2) rfl))) (mvT hZ6 (hw _ (List.mem_of_getElem? (i := 67) rfl))) (by decide) (own_back (W := 0) (rmS0 l Z a0 hw [] b6 T15.heap n0 O15 ft22) hZ6 (hw _ (List.mem_of_getElem? (i := 67) rfl)) (hw _ (List.mem_of_getElem? (i := 2) rfl)) (by decide) (by decide)) (g := (mkF m 98 #[iv p1, iv p2, iv p3, iv yy1, iv yy2, iv yy3, iv yy4, .val .null, rv b6, rv b15] [(.ref b6), (.ref b6)])) rfl (by rw [hml]; rfl) (argsL := [(.ref b6), (.ref b6)]) (rest := []) (lenOf pd__Ljava_lang_String_Ljava_lang_String__Z rfl) rfl (by show 2 * 0 + _ ≤ _; exact Nat.le_of_eq rfl) (hb hby at_98) (fun _ _ => ⟨rfl, kq20, (by decide : 13 + 0 ≤ _), (by decide : 27 + 0 ≤ _)⟩)
      dsimp only [Pt.U, Pt.locs, Pt.cells, Pt.slots] at X21 lq21 yq21 zz21 st21 hQ21
      subst lq21 yq21 zz21
      obtain ⟨rfl, Nq21, kq21⟩ := hQ21
      have N21 := Fr.app N20 Nq21
      refine Go.st (f' := (mkF m 101 #[iv p1, iv p2, iv p3, iv yy1, iv yy2, iv yy3, iv yy4, .val .null, rv b6, rv b15] [(.int 1)])) (fun _ k => st21 _ k) ?_
      refine Go.st (f' := (mkF m 104 #[iv p1, iv p2, iv p3, iv yy1, iv yy2, iv yy3, iv yy4, .val .null, rv b6, rv b15] [])) (fun _ k => XS.ifNo X21.here hx rfl (hb hby at_101) rfl (by decide) k) ?_
      refine Go.st (f' := (mkF m 105 #[iv p1, iv p2, iv p3, iv yy1, iv yy2, iv yy3, iv yy4, .val .null, rv b6, rv b15] [(.int 1)])) (fun _ k => XS.iconst X21.here hx rfl (hb hby at_104) k) ?_
      refine Go.st (f' := (mkF m 109 #[iv p1, iv p2, iv p3, iv yy1, iv yy2, iv yy3, iv yy4, .val .null, rv b6, rv b15] [(.int 1)])) (fun _ k => XS.goto X21.here hx rfl (pc0 := 105) (pc' := 109) rfl (hb hby at_105) (by decide) (by decide) k) ?_
      have ft23 := (Nat.le_trans hk6 kq15.1)
      refine GoW.retB X21 hlk hx (t := .boolean) hret (by simp) (hb hby at_109) kq21 hS6 ft23 hZ6 hEL CR15 hh ?_ (by decide) (by decide)
      exact ⟨rfl, N21⟩
  · have lt_b5 := eq5.lt
    refine Go.tr (f' := (mkF m 44 #[iv p1, iv p2, iv p3, iv yy1, iv yy2, iv yy3, iv yy4, .unset, .unset, .unset] [(.ref b5)])) st5 ?_
    refine Go.st (f' := (mkF m 46 #[iv p1, iv p2, iv p3, iv yy1, iv yy2, iv yy3, iv yy4, rv b5, .unset, .unset] [])) (fun _ k => XS.astore X5.here hx rfl (hb hby at_44) rfl rfl (l' := #[iv p1, iv p2, iv p3, iv yy1, iv yy2, iv yy3, iv yy4, rv b5, .unset, .unset]) rfl k) ?_
    refine Go.st (f' := (mkF m 47 #[iv p1, iv p2, iv p3, iv yy1, iv yy2, iv yy3, iv yy4, rv b5, .unset, .unset] [(.int p3)])) (fun _ k => XS.iloadN X5.here hx rfl (hb hby at_46) rfl k) ?_
    refine Go.st (f' := (mkF m 48 #[iv p1, iv p2, iv p3, iv yy1, iv yy2, iv yy3, iv yy4, rv b5, .unset, .unset] [(.int 3), (.int p3)])) (fun _ k => XS.iconst X5.here hx rfl (hb hby at_47) k) ?_
    refine Go.st (f' := (mkF m 49 #[iv p1, iv p2, iv p3, iv yy1, iv yy2, iv yy3, iv yy4, rv b5, .unset, .unset] [(.int ((p3.toUInt32 >>> ((3 : Int32) &&& 31).toUInt32).toInt32))])) (fun _ k => XS.iushr X5.here hx rfl (hb hby at_48) rfl k) ?_
    refine Go.st (f' := (mkF m 51 #[iv p1, iv p2, iv p3, iv yy1, iv yy2, iv yy3, iv yy4, rv b5, .unset, .unset] [(.int yy3), (.int ((p3.toUInt32 >>> ((3 : Int32) &&& 31).toUInt32).toInt32))])) (fun _ k => XS.iload X5.here hx rfl (hb hby at_49) rfl k) ?_
    refine Go.st (f' := (mkF m 53 #[iv p1, iv p2, iv p3, iv yy1, iv yy2, iv yy3, iv yy4, rv b5, .unset, .unset] [(.int yy4), (.int yy3), (.int ((p3.toUInt32 >>> ((3 : Int32) &&& 31).toUInt32).toInt32))])) (fun _ k => XS.iload X5.here hx rfl (hb hby at_51) rfl k) ?_
    obtain ⟨_, _, ⟨T24, L24, kk24, nn24⟩, -, Xw24, hSw24, hgw24, ⟨Lc24, hQ24, lq24, yq24, zz24, crw24⟩, st24⟩ := callSS X5 hx (y := (⟨"com/example/lapwing/lapwing/profile/RuleViolationErrorPinLaw", "pick", "(ICC)Ljava/lang/String;"⟩ : MethodName)) hown5 (mvT hZ5 (hw _ (List.mem_of_getElem? (i := 0) rfl))) (mvT hZ5 (hw _ (List.mem_of_getElem? (i := 1) rfl))) (mvT hZ5 (hw _ (List.mem_of_getElem? (i := 2) rfl))) (mvT hZ5 (hw _ (List.mem_of_getElem? (i := 3) rfl))) (by decide) (own_backW (W := 0) (rmP l Z a0 hw [] ((p3.toUInt32 >>> ((3 : Int32) &&& 31).toUInt32).toInt32) yy3 yy4 w_ERROR i_COMPACT_STRINGS v_SIOOBE_FORMATTER T5.heap n0 O5 (hyy3 ▸ own_b _).1 (hyy4 ▸ own_b _).1 (hyy3 ▸ own_b _).2 (hyy4 ▸ own_b _).2 WW) hZ5 (hw _ (List.mem_of_getElem? (i := 3) rfl)) (hw _ (List.mem_of_getElem? (i := 2) rfl)) (by decide) (by decide) hEL CR5.1) (g := (mkF m 53 #[iv p1, iv p2, iv p3, iv yy1, iv yy2, iv yy3, iv yy4, rv b5, .unset, .unset] [(.int yy4), (.int yy3), (.int ((p3.toUInt32 >>> ((3 : Int32) &&& 31).toUInt32).toInt32))])) rfl (by rw [hml]; rfl) (argsL := [(.int ((p3.toUInt32 >>> ((3 : Int32) &&& 31).toUInt32).toInt32)), (.int yy3), (.int yy4)]) (rest := []) (lenOf pd__ICC_Ljava_lang_String_ rfl) rfl (by show 2 * 0 + _ ≤ _; exact Nat.le_of_eq rfl) (hb hby at_53) (fun _ _ => ⟨rfl, rfl, (by decide : 6 + 6 ≤ _), (by decide : 12 + 12 ≤ _)⟩)
    dsimp only [Pt.U, Pt.locs, Pt.cells, Pt.slots] at Xw24 lq24 yq24 zz24 st24 hQ24 hSw24 hgw24 crw24
    subst lq24 yq24 zz24
    obtain ⟨X24, hS24, hZ24, hown24⟩ := rebS hS5 hk5 Xw24 hSw24 hgw24 hZ5 hown5
    obtain ⟨val24, rfl, Nq24, kq24, dq24⟩ := hQ24
    have N24 := Fr.app N5 Nq24
    have O24 : Old Z n0 T24.heap := O5.keep kq24 all0
    have hk24 : T24.heap.size ≤ T24.heap.size := Nat.le_refl _
    have CR24 := CR5.trans crw24
    rcases dq24 with rfl | ⟨b24, rfl, zq24, eq24⟩
    · skip
      refine Go.tr (f' := (mkF m 56 #[iv p1, iv p2, iv p3, iv yy1, iv yy2, iv yy3, iv yy4, rv b5, .unset, .unset] [.null])) st24 ?_
      refine Go.st (f' := (mkF m 58 #[iv p1, iv p2, iv p3, iv yy1, iv yy2, iv yy3, iv yy4, rv b5, .val .null, .unset] [])) (fun _ k => XS.astore X24.here hx rfl (hb hby at_56) rfl rfl (l' := #[iv p1, iv p2, iv p3, iv yy1, iv yy2, iv yy3, iv yy4, rv b5, .val .null, .unset]) rfl k) ?_
      refine Go.st (f' := (mkF m 60 #[iv p1, iv p2, iv p3, iv yy1, iv yy2, iv yy3, iv yy4, rv b5, .val .null, .unset] [(.ref b5)])) (fun _ k => XS.aload X24.here hx rfl (hb hby at_58) rfl rfl k) ?_
      refine Go.st (f' := (mkF m 62 #[iv p1, iv p2, iv p3, iv yy1, iv yy2, iv yy3, iv yy4, rv b5, .val .null, .unset] [.null, (.ref b5)])) (fun _ k => XS.aload X24.here hx rfl (hb hby at_60) rfl rfl k) ?_
      obtain ⟨_, _, ⟨T25, L25, kk25, nn25⟩, -, X25, ⟨Lc25, hQ25, lq25, yq25, zz25⟩, st25⟩ := Jvm.LawKit.callS X24 hx (y := (⟨"com/example/lapwing/lapwing/profile/RuleViolation", "error", "(Ljava/lang/String;Ljava/lang/String;)Lcom/example/lapwing/lapwing/profile/RuleViolation;"⟩ : MethodName)) hown24 (mvT hZ24 (hw _ (List.mem_of_getElem? (i := 30) rfl))) (mvT hZ24 (hw _ (List.mem_of_getElem? (i := 31) rfl))) (mvT hZ24 (hw _ (List.mem_of_getElem? (i := 32) rfl))) (mvT hZ24 (hw _ (List.mem_of_getElem? (i := 33) rfl))) (by decide) (own_back (W := 0) (rmW01 l Z a0 hw [] b5 w_ERROR i_COMPACT_STRINGS v_SIOOBE_FORMATTER T24.heap n0 O24 WW) hZ24 (hw _ (List.mem_of_getElem? (i := 33) rfl)) (hw _ (List.mem_of_getElem? (i := 32) rfl)) (by decide) (by decide)) (g := (mkF m 62 #[iv p1, iv p2, iv p3, iv yy1, iv yy2, iv yy3, iv yy4, rv b5, .val .null, .unset] [.null, (.ref b5)])) rfl (by rw [hml]; rfl) (argsL := [(.ref b5), .null]) (rest := []) (lenOf pd__Ljava_lang_String_Ljava_lang_String__Lcom_example_lapwing_lapwing_profile_RuleViolation_ rfl) rfl (by show 2 * 0 + _ ≤ _; exact Nat.le_of_eq rfl) (hb hby at_62) (fun _ _ => ⟨rfl, rfl, (by decide : 12 + 1 ≤ _), (by decide : 24 + 3 ≤ _)⟩)
      dsimp only [Pt.U, Pt.locs, Pt.cells, Pt.slots] at X25 lq25 yq25 zz25 st25 hQ25
      subst lq25 yq25 zz25
      obtain ⟨b25, rfl, Nq25, zq25, kq25, eq25, fq25_0, fq25_1, fq25_2⟩ := hQ25
      have N25 := Fr.app N24 Nq25
      have ft26 := (Nat.lt_of_lt_of_le lt_b5 kq24.1)
      have ne_b5_b25 : b5 ≠ b25 := Nat.ne_of_lt (Nat.lt_of_lt_of_le ft26 zq25)
      have ne_w_ERROR_b25 : w_ERROR ≠ b25 := Nat.ne_of_lt (Nat.lt_of_lt_of_le lt_w_ERROR (Nat.le_trans O24.2.1 zq25))
      have g_b25 : n0 ≤ b25 := Nat.le_trans (O24.1 ▸ O24.2.1) zq25
      have sn_b25 : Safe Z EL T24.vm T24.heap b25 := Safe.new zq25
      have O25 : Old Z n0 T25.heap := O24.keep kq25 all0
      have CR25 : CHr Z EL s.vm h0 T24.vm T25.heap := CR24.trans (CHr.keep kq25 sf0 CR24.1)
      have lt_b25 := eq25.lt
      refine Go.st (f' := (mkF m 65 #[iv p1, iv p2, iv p3, iv yy1, iv yy2, iv yy3, iv yy4, rv b5, .val .null, .unset] [(.ref b25)])) (fun _ k => st25 _ k) ?_
      refine Go.st (f' := (mkF m 67 #[iv p1, iv p2, iv p3, iv yy1, iv yy2, iv yy3, iv yy4, rv b5, .val .null, rv b25] [])) (fun _ k => XS.astore X25.here hx rfl (hb hby at_65) rfl rfl (l' := #[iv p1, iv p2, iv p3, iv yy1, iv yy2, iv yy3, iv yy4, rv b5, .val .null, rv b25]) rfl k) ?_
      refine Go.st (f' := (mkF m 69 #[iv p1, iv p2, iv p3, iv yy1, iv yy2, iv yy3, iv yy4, rv b5, .val .null, rv b25] [(.ref b25)])) (fun _ k => XS.aload X25.here hx rfl (hb hby at_67) rfl rfl k) ?_
      obtain ⟨cq27, kq27, q27a, q27b, q27c⟩ := isOf hZ24 rfl eq25
      obtain ⟨_, _, ⟨T27, L27, kk27, nn27⟩, -, X27, ⟨Lc27, hQ27, lq27, yq27, zz27⟩, st27⟩ := X25.virtualBack hx (y := (⟨"com/example/lapwing/lapwing/profile/RuleViolation", "severity", "()Lcom/example/lapwing/lapwing/profile/RuleViolation$Severity;"⟩ : MethodName)) (z := (⟨"com/example/lapwing/lapwing/profile/RuleViolation", "severity", "()Lcom/example/lapwing/lapwing/profile/RuleViolation$Severity;"⟩ : MethodName)) hown24 (mvT hZ24 (hw _ (List.mem_of_getElem? (i := 54) rfl))) (mvT hZ24 (hw _ (List.mem_of_getElem? (i := 55) rfl))) (notFace_of_selects (args := #[]) (mvT hZ24 (hw _ (List.mem_of_getElem? (i := 57) rfl)))) (mvT hZ24 (hw _ (List.mem_of_getElem? (i := 57) rfl))) (mvT hZ24 (hw _ (List.mem_of_getElem? (i := 56) rfl))) (by decide) (own_back (W := 0) (rmG_severity l Z a0 hw [] b25 (.ref w_ERROR) T25.heap n0 O25 rfl eq25 fq25_0) hZ24 (hw _ (List.mem_of_getElem? (i := 58) rfl)) (hw _ (List.mem_of_getElem? (i := 32) rfl)) (by decide) (by decide)) q27a q27c (g := (mkF m 69 #[iv p1, iv p2, iv p3, iv yy1, iv yy2, iv yy3, iv yy4, rv b5, .val .null, rv b25] [(.ref b25)])) rfl (by rw [hml]; rfl) (Steps.refl _) (argsL := []) (rest := []) (lenOf pd___Lcom_example_lapwing_lapwing_profile_RuleViolation_Severity_ rfl) rfl (by show 2 * 0 + _ ≤ _; exact Nat.le_of_eq rfl) (hb hby at_69) (fun _ _ => ⟨rfl, rfl, (by decide : 13 + 0 ≤ _), (by decide : 27 + 0 ≤ _)⟩)
      dsimp only [Pt.U, Pt.locs, Pt.cells, Pt.slots] at X27 lq27 yq27 zz27 st27 hQ27
      subst lq27 yq27 zz27
      obtain ⟨rfl, Nq27, kq27⟩ := hQ27
      have N27 := Fr.app N25 Nq27
      refine Go.tr (f' := (mkF m 72 #[iv p1, iv p2, iv p3, iv yy1, iv yy2, iv yy3, iv yy4, rv b5, .val .null, rv b25] [(.ref w_ERROR)])) st27 ?_
      obtain ⟨T28, X28, e28, st28⟩ := getS2 X27 hx hZ24 hown24 (host := "") (Or.inl (hw _ (List.mem_of_getElem? (i := 59) rfl))) Via.refl kq27 (S_w_ERROR.ext O25.2) (g := (mkF m 72 #[iv p1, iv p2, iv p3, iv yy1, iv yy2, iv yy3, iv yy4, rv b5, .val .null, rv b25] [(.ref w_ERROR)])) rfl (hb hby at_72)
      refine Go.st (f' := (mkF m 75 #[iv p1, iv p2, iv p3, iv yy1, iv yy2, iv yy3, iv yy4, rv b5, .val .null, rv b25] [(.ref w_ERROR), (.ref w_ERROR)])) (fun _ k => st28 _ k) ?_
      refine Go.st (f' := (mkF m 78 #[iv p1, iv p2, iv p3, iv yy1, iv yy2, iv yy3, iv yy4, rv b5, .val .null, rv b25] [])) (fun _ k => Jvm.RoadKit.acmp (g := (mkF m 75 #[iv p1, iv p2, iv p3, iv yy1, iv yy2, iv yy3, iv yy4, rv b5, .val .null, rv b25] [(.ref w_ERROR), (.ref w_ERROR)])) X28 hx rfl rfl rfl (pc0 := 75) (pc' := 78) (same := true) rfl (hb hby at_75) rfl (decide_eq_true rfl) (by decide) (by decide) k) ?_
      refine Go.st (f' := (mkF m 80 #[iv p1, iv p2, iv p3, iv yy1, iv yy2, iv yy3, iv yy4, rv b5, .val .null, rv b25] [(.ref b25)])) (fun _ k => XS.aload X28.here hx rfl (hb hby at_78) rfl rfl k) ?_
      obtain ⟨cq29, kq29, q29a, q29b, q29c⟩ := isOf hZ24 e28 eq25
      obtain ⟨_, _, ⟨T29, L29, kk29, nn29⟩, -, X29, ⟨Lc29, hQ29, lq29, yq29, zz29⟩, st29⟩ := X28.virtualBack hx (y := (⟨"com/example/lapwing/lapwing/profile/RuleViolation", "path", "()Ljava/lang/String;"⟩ : MethodName)) (z := (⟨"com/example/lapwing/lapwing/profile/RuleViolation", "path", "()Ljava/lang/String;"⟩ : MethodName)) hown24 (mvT hZ24 (hw _ (List.mem_of_getElem? (i := 60) rfl))) (mvT hZ24 (hw _ (List.mem_of_getElem? (i := 61) rfl))) (notFace_of_selects (args := #[]) (mvT hZ24 (hw _ (List.mem_of_getElem? (i := 63) rfl)))) (mvT hZ24 (hw _ (List.mem_of_getElem? (i := 63) rfl))) (mvT hZ24 (hw _ (List.mem_of_getElem? (i := 62) rfl))) (by decide) (own_back (W := 0) (rmG_path l Z a0 hw [] b25 (.ref b5) T25.heap n0 O25 rfl eq25 fq25_1) hZ24 (hw _ (List.mem_of_getElem? (i := 64) rfl)) (hw _ (List.mem_of_getElem? (i := 32) rfl)) (by decide) (by decide)) q29a q29c (g := (mkF m 80 #[iv p1, iv p2, iv p3, iv yy1, iv yy2, iv yy3, iv yy4, rv b5, .val .null, rv b25] [(.ref b25)])) rfl (by rw [hml]; rfl) (Steps.refl _) (argsL := []) (rest := []) (lenOf pd___Ljava_lang_String_ rfl) rfl (by show 2 * 0 + _ ≤ _; exact Nat.le_of_eq rfl) (hb hby at_80) (fun _ _ => ⟨rfl, e28, (by decide : 13 + 0 ≤ _), (by decide : 27 + 0 ≤ _)⟩)
      dsimp only [Pt.U, Pt.locs, Pt.cells, Pt.slots] at X29 lq29 yq29 zz29 st29 hQ29
      subst lq29 yq29 zz29
      obtain ⟨rfl, Nq29, kq29⟩ := hQ29
      have N29 := Fr.app N27 Nq29
      refine Go.tr (f' := (mkF m 83 #[iv p1, iv p2, iv p3, iv yy1, iv yy2, iv yy3, iv yy4, rv b5, .val .null, rv b25] [(.ref b5)])) st29 ?_
      refine Go.st (f' := (mkF m 85 #[iv p1, iv p2, iv p3, iv yy1, iv yy2, iv yy3, iv yy4, rv b5, .val .null, rv b25] [(.ref b5), (.ref b5)])) (fun _ k => XS.aload X29.here hx rfl (hb hby at_83) rfl rfl k) ?_
      have ft31 := ((eq5.keep kq24).keep kq25)
      obtain ⟨_, _, ⟨T30, L30, kk30, nn30⟩, -, X30, ⟨Lc30, hQ30, lq30, yq30, zz30⟩, st30⟩ := Jvm.LawKit.callS X29 hx (y := (⟨"com/example/lapwing/lapwing/profile/RuleViolationErrorPinLaw", "same", "(Ljava/lang/String;Ljava/lang/String;)Z"⟩ : MethodName)) hown24 (mvT hZ24 (hw _ (List.mem_of_getElem? (i := 65) rfl))) (mvT hZ24 (hw _ (List.mem_of_getElem? (i := 66) rfl))) (mvT hZ24 (hw _ (List.mem_of_getElem? (i := 2) rfl))) (mvT hZ24 (hw _ (List.mem_of_getElem? (i := 67) rfl))) (by decide) (own_back (W := 0) (rmS0 l Z a0 hw [] b5 T25.heap n0 O25 ft31) hZ24 (hw _ (List.mem_of_getElem? (i := 67) rfl)) (hw _ (List.mem_of_getElem? (i := 2) rfl)) (by decide) (by decide)) (g := (mkF m 85 #[iv p1, iv p2, iv p3, iv yy1, iv yy2, iv yy3, iv yy4, rv b5, .val .null, rv b25] [(.ref b5), (.ref b5)])) rfl (by rw [hml]; rfl) (argsL := [(.ref b5), (.ref b5)]) (rest := []) (lenOf pd__Ljava_lang_String_Ljava_lang_String__Z rfl) rfl (by show 2 * 0 + _ ≤ _; exact Nat.le_of_eq rfl) (hb hby at_85) (fun _ _ => ⟨rfl, kq29, (by decide : 13 + 0 ≤ _), (by decide : 27 + 0 ≤ _)⟩)
      dsimp only [Pt.U, Pt.locs, Pt.cells, Pt.slots] at X30 lq30 yq30 zz30 st30 hQ30
      subst lq30 yq30 zz30
      obtain ⟨rfl, Nq30, kq30⟩ := hQ30
      have N30 := Fr.app N29 Nq30
      refine Go.st (f' := (mkF m 88 #[iv p1, iv p2, iv p3, iv yy1, iv yy2, iv yy3, iv yy4, rv b5, .val .null, rv b25] [(.int 1)])) (fun _ k => st30 _ k) ?_
      refine Go.st (f' := (mkF m 91 #[iv p1, iv p2, iv p3, iv yy1, iv yy2, iv yy3, iv yy4, rv b5, .val .null, rv b25] [])) (fun _ k => XS.ifNo X30.here hx rfl (hb hby at_88) rfl (by decide) k) ?_
      refine Go.st (f' := (mkF m 93 #[iv p1, iv p2, iv p3, iv yy1, iv yy2, iv yy3, iv yy4, rv b5, .val .null, rv b25] [(.ref b25)])) (fun _ k => XS.aload X30.here hx rfl (hb hby at_91) rfl rfl k) ?_
      obtain ⟨cq32, kq32, q32a, q32b, q32c⟩ := isOf hZ24 kq30 eq25
      obtain ⟨_, _, ⟨T32, L32, kk32, nn32⟩, -, X32, ⟨Lc32, hQ32, lq32, yq32, zz32⟩, st32⟩ := X30.virtualBack hx (y := (⟨"com/example/lapwing/lapwing/profile/RuleViolation", "message", "()Ljava/lang/String;"⟩ : MethodName)) (z := (⟨"com/example/lapwing/lapwing/profile/RuleViolation", "message", "()Ljava/lang/String;"⟩ : MethodName)) hown24 (mvT hZ24 (hw _ (List.mem_of_getElem? (i := 73) rfl))) (mvT hZ24 (hw _ (List.mem_of_getElem? (i := 74) rfl))) (notFace_of_selects (args := #[]) (mvT hZ24 (hw _ (List.mem_of_getElem? (i := 76) rfl)))) (mvT hZ24 (hw _ (List.mem_of_getElem? (i := 76) rfl))) (mvT hZ24 (hw _ (List.mem_of_getElem? (i := 75) rfl))) (by decide) (own_back (W := 0) (rmG_message l Z a0 hw [] b25 .null T25.heap n0 O25 rfl eq25 fq25_2) hZ24 (hw _ (List.mem_of_getElem? (i := 77) rfl)) (hw _ (List.mem_of_getElem? (i := 32) rfl)) (by decide) (by decide)) q32a q32c (g := (mkF m 93 #[iv p1, iv p2, iv p3, iv yy1, iv yy2, iv yy3, iv yy4, rv b5, .val .null, rv b25] [(.ref b25)])) rfl (by rw [hml]; rfl) (Steps.refl _) (argsL := []) (rest := []) (lenOf pd___Ljava_lang_String_ rfl) rfl (by show 2 * 0 + _ ≤ _; exact Nat.le_of_eq rfl) (hb hby at_93) (fun _ _ => ⟨rfl, kq30, (by decide : 13 + 0 ≤ _), (by decide : 27 + 0 ≤ _)⟩)
      dsimp only [Pt.U, Pt.locs, Pt.cells, Pt.slots] at X32 lq32 yq32 zz32 st32 hQ32
      subst lq32 yq32 zz32
      obtain ⟨rfl, Nq32, kq32⟩ := hQ32
      have N32 := Fr.app N30 Nq32
      refine Go.tr (f' := (mkF m 96 #[iv p1, iv p2, iv p3, iv yy1, iv yy2, iv yy3, iv yy4, rv b5, .val .null, rv b25] [.null])) st32 ?_
      refine Go.st (f' := (mkF m 98 #[iv p1, iv p2, iv p3, iv yy1, iv yy2, iv yy3, iv yy4, rv b5, .val .null, rv b25] [.null, .null])) (fun _ k => XS.aload X32.here hx rfl (hb hby at_96) rfl rfl k) ?_
      obtain ⟨_, _, ⟨T33, L33, kk33, nn33⟩, -, X33, ⟨Lc33, hQ33, lq33, yq33, zz33⟩, st33⟩ := Jvm.LawKit.callS X32 hx (y := (⟨"com/example/lapwing/lapwing/profile/RuleViolationErrorPinLaw", "same", "(Ljava/lang/String;Ljava/lang/String;)Z"⟩ : MethodName)) hown24 (mvT hZ24 (hw _ (List.mem_of_getElem? (i := 65) rfl))) (mvT hZ24 (hw _ (List.mem_of_getElem? (i := 66) rfl))) (mvT hZ24 (hw _ (List.mem_of_getElem? (i := 2) rfl))) (mvT hZ24 (hw _ (List.mem_of_getElem? (i := 67) rfl))) (by decide) (own_back (W := 0) (rmS1 l Z a0 hw []  T25.heap n0 O25 ) hZ24 (hw _ (List.mem_of_getElem? (i := 67) rfl)) (hw _ (List.mem_of_getElem? (i := 2) rfl)) (by decide) (by decide)) (g := (mkF m 98 #[iv p1, iv p2, iv p3, iv yy1, iv yy2, iv yy3, iv yy4, rv b5, .val .null, rv b25] [.null, .null])) rfl (by rw [hml]; rfl) (argsL := [.null, .null]) (rest := []) (lenOf pd__Ljava_lang_String_Ljava_lang_String__Z rfl) rfl (by show 2 * 0 + _ ≤ _; exact Nat.le_of_eq rfl) (hb hby at_98) (fun _ _ => ⟨rfl, kq32, (by decide : 13 + 0 ≤ _), (by decide : 27 + 0 ≤ _)⟩)
      dsimp only [Pt.U, Pt.locs, Pt.cells, Pt.slots] at X33 lq33 yq33 zz33 st33 hQ33
      subst lq33 yq33 zz33
      obtain ⟨rfl, Nq33, kq33⟩ := hQ33
      have N33 := Fr.app N32 Nq33
      refine Go.st (f' := (mkF m 101 #[iv p1, iv p2, iv p3, iv yy1, iv yy2, iv yy3, iv yy4, rv b5, .val .null, rv b25] [(.int 1)])) (fun _ k => st33 _ k) ?_
      refine Go.st (f' := (mkF m 104 #[iv p1, iv p2, iv p3, iv yy1, iv yy2, iv yy3, iv yy4, rv b5, .val .null, rv b25] [])) (fun _ k => XS.ifNo X33.here hx rfl (hb hby at_101) rfl (by decide) k) ?_
      refine Go.st (f' := (mkF m 105 #[iv p1, iv p2, iv p3, iv yy1, iv yy2, iv yy3, iv yy4, rv b5, .val .null, rv b25] [(.int 1)])) (fun _ k => XS.iconst X33.here hx rfl (hb hby at_104) k) ?_
      refine Go.st (f' := (mkF m 109 #[iv p1, iv p2, iv p3, iv yy1, iv yy2, iv yy3, iv yy4, rv b5, .val .null, rv b25] [(.int 1)])) (fun _ k => XS.goto X33.here hx rfl (pc0 := 105) (pc' := 109) rfl (hb hby at_105) (by decide) (by decide) k) ?_
      have ft34 := (Nat.le_trans hk24 kq25.1)
      refine GoW.retB X33 hlk hx (t := .boolean) hret (by simp) (hb hby at_109) kq33 hS24 ft34 hZ24 hEL CR25 hh ?_ (by decide) (by decide)
      exact ⟨rfl, N33⟩
    · have lt_b24 := eq24.lt
      refine Go.tr (f' := (mkF m 56 #[iv p1, iv p2, iv p3, iv yy1, iv yy2, iv yy3, iv yy4, rv b5, .unset, .unset] [(.ref b24)])) st24 ?_
      refine Go.st (f' := (mkF m 58 #[iv p1, iv p2, iv p3, iv yy1, iv yy2, iv yy3, iv yy4, rv b5, rv b24, .unset] [])) (fun _ k => XS.astore X24.here hx rfl (hb hby at_56) rfl rfl (l' := #[iv p1, iv p2, iv p3, iv yy1, iv yy2, iv yy3, iv yy4, rv b5, rv b24, .unset]) rfl k) ?_
      refine Go.st (f' := (mkF m 60 #[iv p1, iv p2, iv p3, iv yy1, iv yy2, iv yy3, iv yy4, rv b5, rv b24, .unset] [(.ref b5)])) (fun _ k => XS.aload X24.here hx rfl (hb hby at_58) rfl rfl k) ?_
      refine Go.st (f' := (mkF m 62 #[iv p1, iv p2, iv p3, iv yy1, iv yy2, iv yy3, iv yy4, rv b5, rv b24, .unset] [(.ref b24), (.ref b5)])) (fun _ k => XS.aload X24.here hx rfl (hb hby at_60) rfl rfl k) ?_
      obtain ⟨_, _, ⟨T35, L35, kk35, nn35⟩, -, X35, ⟨Lc35, hQ35, lq35, yq35, zz35⟩, st35⟩ := Jvm.LawKit.callS X24 hx (y := (⟨"com/example/lapwing/lapwing/profile/RuleViolation", "error", "(Ljava/lang/String;Ljava/lang/String;)Lcom/example/lapwing/lapwing/profile/RuleViolation;"⟩ : MethodName)) hown24 (mvT hZ24 (hw _ (List.mem_of_getElem? (i := 30) rfl))) (mvT hZ24 (hw _ (List.mem_of_getElem? (i := 31) rfl))) (mvT hZ24 (hw _ (List.mem_of_getElem? (i := 32) rfl))) (mvT hZ24 (hw _ (List.mem_of_getElem? (i := 33) rfl))) (by decide) (own_back (W := 0) (rmW00 l Z a0 hw [] b5 b24 w_ERROR i_COMPACT_STRINGS v_SIOOBE_FORMATTER T24.heap n0 O24 WW) hZ24 (hw _ (List.mem_of_getElem? (i := 33) rfl)) (hw _ (List.mem_of_getElem? (i := 32) rfl)) (by decide) (by decide)) (g := (mkF m 62 #[iv p1, iv p2, iv p3, iv yy1, iv yy2, iv yy3, iv yy4, rv b5, rv b24, .unset] [(.ref b24), (.ref b5)])) rfl (by rw [hml]; rfl) (argsL := [(.ref b5), (.ref b24)]) (rest := []) (lenOf pd__Ljava_lang_String_Ljava_lang_String__Lcom_example_lapwing_lapwing_profile_RuleViolation_ rfl) rfl (by show 2 * 0 + _ ≤ _; exact Nat.le_of_eq rfl) (hb hby at_62) (fun _ _ => ⟨rfl, rfl, (by decide : 12 + 1 ≤ _), (by decide : 24 + 3 ≤ _)⟩)
      dsimp only [Pt.U, Pt.locs, Pt.cells, Pt.slots] at X35 lq35 yq35 zz35 st35 hQ35
      subst lq35 yq35 zz35
      obtain ⟨b35, rfl, Nq35, zq35, kq35, eq35, fq35_0, fq35_1, fq35_2⟩ := hQ35
      have N35 := Fr.app N24 Nq35
      have ft36 := (Nat.lt_of_lt_of_le lt_b5 kq24.1)
      have ne_b5_b35 : b5 ≠ b35 := Nat.ne_of_lt (Nat.lt_of_lt_of_le ft36 zq35)
      have ne_b24_b35 : b24 ≠ b35 := Nat.ne_of_lt (Nat.lt_of_lt_of_le lt_b24 zq35)
      have ne_w_ERROR_b35 : w_ERROR ≠ b35 := Nat.ne_of_lt (Nat.lt_of_lt_of_le lt_w_ERROR (Nat.le_trans O24.2.1 zq35))
      have g_b35 : n0 ≤ b35 := Nat.le_trans (O24.1 ▸ O24.2.1) zq35
      have sn_b35 : Safe Z EL T24.vm T24.heap b35 := Safe.new zq35
      have O35 : Old Z n0 T35.heap := O24.keep kq35 all0
      have CR35 : CHr Z EL s.vm h0 T24.vm T35.heap := CR24.trans (CHr.keep kq35 sf0 CR24.1)
      have lt_b35 := eq35.lt
      refine Go.st (f' := (mkF m 65 #[iv p1, iv p2, iv p3, iv yy1, iv yy2, iv yy3, iv yy4, rv b5, rv b24, .unset] [(.ref b35)])) (fun _ k => st35 _ k) ?_
      refine Go.st (f' := (mkF m 67 #[iv p1, iv p2, iv p3, iv yy1, iv yy2, iv yy3, iv yy4, rv b5, rv b24, rv b35] [])) (fun _ k => XS.astore X35.here hx rfl (hb hby at_65) rfl rfl (l' := #[iv p1, iv p2, iv p3, iv yy1, iv yy2, iv yy3, iv yy4, rv b5, rv b24, rv b35]) rfl k) ?_
      refine Go.st (f' := (mkF m 69 #[iv p1, iv p2, iv p3, iv yy1, iv yy2, iv yy3, iv yy4, rv b5, rv b24, rv b35] [(.ref b35)])) (fun _ k => XS.aload X35.here hx rfl (hb hby at_67) rfl rfl k) ?_
      obtain ⟨cq37, kq37, q37a, q37b, q37c⟩ := isOf hZ24 rfl eq35
      obtain ⟨_, _, ⟨T37, L37, kk37, nn37⟩, -, X37, ⟨Lc37, hQ37, lq37, yq37, zz37⟩, st37⟩ := X35.virtualBack hx (y := (⟨"com/example/lapwing/lapwing/profile/RuleViolation", "severity", "()Lcom/example/lapwing/lapwing/profile/RuleViolation$Severity;"⟩ : MethodName)) (z := (⟨"com/example/lapwing/lapwing/profile/RuleViolation", "severity", "()Lcom/example/lapwing/lapwing/profile/RuleViolation$Severity;"⟩ : MethodName)) hown24 (mvT hZ24 (hw _ (List.mem_of_getElem? (i := 54) rfl))) (mvT hZ24 (hw _ (List.mem_of_getElem? (i := 55) rfl))) (notFace_of_selects (args := #[]) (mvT hZ24 (hw _ (List.mem_of_getElem? (i := 57) rfl)))) (mvT hZ24 (hw _ (List.mem_of_getElem? (i := 57) rfl))) (mvT hZ24 (hw _ (List.mem_of_getElem? (i := 56) rfl))) (by decide) (own_back (W := 0) (rmG_severity l Z a0 hw [] b35 (.ref w_ERROR) T35.heap n0 O35 rfl eq35 fq35_0) hZ24 (hw _ (List.mem_of_getElem? (i := 58) rfl)) (hw _ (List.mem_of_getElem? (i := 32) rfl)) (by decide) (by decide)) q37a q37c (g := (mkF m 69 #[iv p1, iv p2, iv p3, iv yy1, iv yy2, iv yy3, iv yy4, rv b5, rv b24, rv b35] [(.ref b35)])) rfl (by rw [hml]; rfl) (Steps.refl _) (argsL := []) (rest := []) (lenOf pd___Lcom_example_lapwing_lapwing_profile_RuleViolation_Severity_ rfl) rfl (by show 2 * 0 + _ ≤ _; exact Nat.le_of_eq rfl) (hb hby at_69) (fun _ _ => ⟨rfl, rfl, (by decide : 13 + 0 ≤ _), (by decide : 27 + 0 ≤ _)⟩)
      dsimp only [Pt.U, Pt.locs, Pt.cells, Pt.slots] at X37 lq37 yq37 zz37 st37 hQ37
      subst lq37 yq37 zz37
      obtain ⟨rfl, Nq37, kq37⟩ := hQ37
      have N37 := Fr.app N35 Nq37
      refine Go.tr (f' := (mkF m 72 #[iv p1, iv p2, iv p3, iv yy1, iv yy2, iv yy3, iv yy4, rv b5, rv b24, rv b35] [(.ref w_ERROR)])) st37 ?_
      obtain ⟨T38, X38, e38, st38⟩ := getS2 X37 hx hZ24 hown24 (host := "") (Or.inl (hw _ (List.mem_of_getElem? (i := 59) rfl))) Via.refl kq37 (S_w_ERROR.ext O35.2) (g := (mkF m 72 #[iv p1, iv p2, iv p3, iv yy1, iv yy2, iv yy3, iv yy4, rv b5, rv b24, rv b35] [(.ref w_ERROR)])) rfl (hb hby at_72)
      refine Go.st (f' := (mkF m 75 #[iv p1, iv p2, iv p3, iv yy1, iv yy2, iv yy3, iv yy4, rv b5, rv b24, rv b35] [(.ref w_ERROR), (.ref w_ERROR)])) (fun _ k => st38 _ k) ?_
      refine Go.st (f' := (mkF m 78 #[iv p1, iv p2, iv p3, iv yy1, iv yy2, iv yy3, iv yy4, rv b5, rv b24, rv b35] [])) (fun _ k => Jvm.RoadKit.acmp (g := (mkF m 75 #[iv p1, iv p2, iv p3, iv yy1, iv yy2, iv yy3, iv yy4, rv b5, rv b24, rv b35] [(.ref w_ERROR), (.ref w_ERROR)])) X38 hx rfl rfl rfl (pc0 := 75) (pc' := 78) (same := true) rfl (hb hby at_75) rfl (decide_eq_true rfl) (by decide) (by decide) k) ?_
      refine Go.st (f' := (mkF m 80 #[iv p1, iv p2, iv p3, iv yy1, iv yy2, iv yy3, iv yy4, rv b5, rv b24, rv b35] [(.ref b35)])) (fun _ k => XS.aload X38.here hx rfl (hb hby at_78) rfl rfl k) ?_
      obtain ⟨cq39, kq39, q39a, q39b, q39c⟩ := isOf hZ24 e38 eq35
      obtain ⟨_, _, ⟨T39, L39, kk39, nn39⟩, -, X39, ⟨Lc39, hQ39, lq39, yq39, zz39⟩, st39⟩ := X38.virtualBack hx (y := (⟨"com/example/lapwing/lapwing/profile/RuleViolation", "path", "()Ljava/lang/String;"⟩ : MethodName)) (z := (⟨"com/example/lapwing/lapwing/profile/RuleViolation", "path", "()Ljava/lang/String;"⟩ : MethodName)) hown24 (mvT hZ24 (hw _ (List.mem_of_getElem? (i := 60) rfl))) (mvT hZ24 (hw _ (List.mem_of_getElem? (i := 61) rfl))) (notFace_of_selects (args := #[]) (mvT hZ24 (hw _ (List.mem_of_getElem? (i := 63) rfl)))) (mvT hZ24 (hw _ (List.mem_of_getElem? (i := 63) rfl))) (mvT hZ24 (hw _ (List.mem_of_getElem? (i := 62) rfl))) (by decide) (own_back (W := 0) (rmG_path l Z a0 hw [] b35 (.ref b5) T35.heap n0 O35 rfl eq35 fq35_1) hZ24 (hw _ (List.mem_of_getElem? (i := 64) rfl)) (hw _ (List.mem_of_getElem? (i := 32) rfl)) (by decide) (by decide)) q39a q39c (g := (mkF m 80 #[iv p1, iv p2, iv p3, iv yy1, iv yy2, iv yy3, iv yy4, rv b5, rv b24, rv b35] [(.ref b35)])) rfl (by rw [hml]; rfl) (Steps.refl _) (argsL := []) (rest := []) (lenOf pd___Ljava_lang_String_ rfl) rfl (by show 2 * 0 + _ ≤ _; exact Nat.le_of_eq rfl) (hb hby at_80) (fun _ _ => ⟨rfl, e38, (by decide : 13 + 0 ≤ _), (by decide : 27 + 0 ≤ _)⟩)
      dsimp only [Pt.U, Pt.locs, Pt.cells, Pt.slots] at X39 lq39 yq39 zz39 st39 hQ39
      subst lq39 yq39 zz39
      obtain ⟨rfl, Nq39, kq39⟩ := hQ39
      have N39 := Fr.app N37 Nq39
      refine Go.tr (f' := (mkF m 83 #[iv p1, iv p2, iv p3, iv yy1, iv yy2, iv yy3, iv yy4, rv b5, rv b24, rv b35] [(.ref b5)])) st39 ?_
      refine Go.st (f' := (mkF m 85 #[iv p1, iv p2, iv p3, iv yy1, iv yy2, iv yy3, iv yy4, rv b5, rv b24, rv b35] [(.ref b5), (.ref b5)])) (fun _ k => XS.aload X39.here hx rfl (hb hby at_83) rfl rfl k) ?_
      have ft41 := ((eq5.keep kq24).keep kq35)
      obtain ⟨_, _, ⟨T40, L40, kk40, nn40⟩, -, X40, ⟨Lc40, hQ40, lq40, yq40, zz40⟩, st40⟩ := Jvm.LawKit.callS X39 hx (y := (⟨"com/example/lapwing/lapwing/profile/RuleViolationErrorPinLaw", "same", "(Ljava/lang/String;Ljava/lang/String;)Z"⟩ : MethodName)) hown24 (mvT hZ24 (hw _ (List.mem_of_getElem? (i := 65) rfl))) (mvT hZ24 (hw _ (List.mem_of_getElem? (i := 66) rfl))) (mvT hZ24 (hw _ (List.mem_of_getElem? (i := 2) rfl))) (mvT hZ24 (hw _ (List.mem_of_getElem? (i := 67) rfl))) (by decide) (own_back (W := 0) (rmS0 l Z a0 hw [] b5 T35.heap n0 O35 ft41) hZ24 (hw _ (List.mem_of_getElem? (i := 67) rfl)) (hw _ (List.mem_of_getElem? (i := 2) rfl)) (by decide) (by decide)) (g := (mkF m 85 #[iv p1, iv p2, iv p3, iv yy1, iv yy2, iv yy3, iv yy4, rv b5, rv b24, rv b35] [(.ref b5), (.ref b5)])) rfl (by rw [hml]; rfl) (argsL := [(.ref b5), (.ref b5)]) (rest := []) (lenOf pd__Ljava_lang_String_Ljava_lang_String__Z rfl) rfl (by show 2 * 0 + _ ≤ _; exact Nat.le_of_eq rfl) (hb hby at_85) (fun _ _ => ⟨rfl, kq39, (by decide : 13 + 0 ≤ _), (by decide : 27 + 0 ≤ _)⟩)
      dsimp only [Pt.U, Pt.locs, Pt.cells, Pt.slots] at X40 lq40 yq40 zz40 st40 hQ40
      subst lq40 yq40 zz40
      obtain ⟨rfl, Nq40, kq40⟩ := hQ40
      have N40 := Fr.app N39 Nq40
      refine Go.st (f' := (mkF m 88 #[iv p1, iv p2, iv p3, iv yy1, iv yy2, iv yy3, iv yy4, rv b5, rv b24, rv b35] [(.int 1)])) (fun _ k => st40 _ k) ?_
      refine Go.st (f' := (mkF m 91 #[iv p1, iv p2, iv p3, iv yy1, iv yy2, iv yy3, iv yy4, rv b5, rv b24, rv b35] [])) (fun _ k => XS.ifNo X40.here hx rfl (hb hby at_88) rfl (by decide) k) ?_
      refine Go.st (f' := (mkF m 93 #[iv p1, iv p2, iv p3, iv yy1, iv yy2, iv yy3, iv yy4, rv b5, rv b24, rv b35] [(.ref b35)])) (fun _ k => XS.aload X40.here hx rfl (hb hby at_91) rfl rfl k) ?_
      obtain ⟨cq42, kq42, q42a, q42b, q42c⟩ := isOf hZ24 kq40 eq35
      obtain ⟨_, _, ⟨T42, L42, kk42, nn42⟩, -, X42, ⟨Lc42, hQ42, lq42, yq42, zz42⟩, st42⟩ := X40.virtualBack hx (y := (⟨"com/example/lapwing/lapwing/profile/RuleViolation", "message", "()Ljava/lang/String;"⟩ : MethodName)) (z := (⟨"com/example/lapwing/lapwing/profile/RuleViolation", "message", "()Ljava/lang/String;"⟩ : MethodName)) hown24 (mvT hZ24 (hw _ (List.mem_of_getElem? (i := 73) rfl))) (mvT hZ24 (hw _ (List.mem_of_getElem? (i := 74) rfl))) (notFace_of_selects (args := #[]) (mvT hZ24 (hw _ (List.mem_of_getElem? (i := 76) rfl)))) (mvT hZ24 (hw _ (List.mem_of_getElem? (i := 76) rfl))) (mvT hZ24 (hw _ (List.mem_of_getElem? (i := 75) rfl))) (by decide) (own_back (W := 0) (rmG_message l Z a0 hw [] b35 (.ref b24) T35.heap n0 O35 rfl eq35 fq35_2) hZ24 (hw _ (List.mem_of_getElem? (i := 77) rfl)) (hw _ (List.mem_of_getElem? (i := 32) rfl)) (by decide) (by decide)) q42a q42c (g := (mkF m 93 #[iv p1, iv p2, iv p3, iv yy1, iv yy2, iv yy3, iv yy4, rv b5, rv b24, rv b35] [(.ref b35)])) rfl (by rw [hml]; rfl) (Steps.refl _) (argsL := []) (rest := []) (lenOf pd___Ljava_lang_String_ rfl) rfl (by show 2 * 0 + _ ≤ _; exact Nat.le_of_eq rfl) (hb hby at_93) (fun _ _ => ⟨rfl, kq40, (by decide : 13 + 0 ≤ _), (by decide : 27 + 0 ≤ _)⟩)
      dsimp only [Pt.U, Pt.locs, Pt.cells, Pt.slots] at X42 lq42 yq42 zz42 st42 hQ42
      subst lq42 yq42 zz42
      obtain ⟨rfl, Nq42, kq42⟩ := hQ42
      have N42 := Fr.app N40 Nq42
      refine Go.tr (f' := (mkF m 96 #[iv p1, iv p2, iv p3, iv yy1, iv yy2, iv yy3, iv yy4, rv b5, rv b24, rv b35] [(.ref b24)])) st42 ?_
      refine Go.st (f' := (mkF m 98 #[iv p1, iv p2, iv p3, iv yy1, iv yy2, iv yy3, iv yy4, rv b5, rv b24, rv b35] [(.ref b24), (.ref b24)])) (fun _ k => XS.aload X42.here hx rfl (hb hby at_96) rfl rfl k) ?_
      have ft44 := (eq24.keep kq35)
      obtain ⟨_, _, ⟨T43, L43, kk43, nn43⟩, -, X43, ⟨Lc43, hQ43, lq43, yq43, zz43⟩, st43⟩ := Jvm.LawKit.callS X42 hx (y := (⟨"com/example/lapwing/lapwing/profile/RuleViolationErrorPinLaw", "same", "(Ljava/lang/String;Ljava/lang/String;)Z"⟩ : MethodName)) hown24 (mvT hZ24 (hw _ (List.mem_of_getElem? (i := 65) rfl))) (mvT hZ24 (hw _ (List.mem_of_getElem? (i := 66) rfl))) (mvT hZ24 (hw _ (List.mem_of_getElem? (i := 2) rfl))) (mvT hZ24 (hw _ (List.mem_of_getElem? (i := 67) rfl))) (by decide) (own_back (W := 0) (rmS0 l Z a0 hw [] b24 T35.heap n0 O35 ft44) hZ24 (hw _ (List.mem_of_getElem? (i := 67) rfl)) (hw _ (List.mem_of_getElem? (i := 2) rfl)) (by decide) (by decide)) (g := (mkF m 98 #[iv p1, iv p2, iv p3, iv yy1, iv yy2, iv yy3, iv yy4, rv b5, rv b24, rv b35] [(.ref b24), (.ref b24)])) rfl (by rw [hml]; rfl) (argsL := [(.ref b24), (.ref b24)]) (rest := []) (lenOf pd__Ljava_lang_String_Ljava_lang_String__Z rfl) rfl (by show 2 * 0 + _ ≤ _; exact Nat.le_of_eq rfl) (hb hby at_98) (fun _ _ => ⟨rfl, kq42, (by decide : 13 + 0 ≤ _), (by decide : 27 + 0 ≤ _)⟩)
      dsimp only [Pt.U, Pt.locs, Pt.cells, Pt.slots] at X43 lq43 yq43 zz43 st43 hQ43
      subst lq43 yq43 zz43
      obtain ⟨rfl, Nq43, kq43⟩ := hQ43
      have N43 := Fr.app N42 Nq43
      refine Go.st (f' := (mkF m 101 #[iv p1, iv p2, iv p3, iv yy1, iv yy2, iv yy3, iv yy4, rv b5, rv b24, rv b35] [(.int 1)])) (fun _ k => st43 _ k) ?_
      refine Go.st (f' := (mkF m 104 #[iv p1, iv p2, iv p3, iv yy1, iv yy2, iv yy3, iv yy4, rv b5, rv b24, rv b35] [])) (fun _ k => XS.ifNo X43.here hx rfl (hb hby at_101) rfl (by decide) k) ?_
      refine Go.st (f' := (mkF m 105 #[iv p1, iv p2, iv p3, iv yy1, iv yy2, iv yy3, iv yy4, rv b5, rv b24, rv b35] [(.int 1)])) (fun _ k => XS.iconst X43.here hx rfl (hb hby at_104) k) ?_
      refine Go.st (f' := (mkF m 109 #[iv p1, iv p2, iv p3, iv yy1, iv yy2, iv yy3, iv yy4, rv b5, rv b24, rv b35] [(.int 1)])) (fun _ k => XS.goto X43.here hx rfl (pc0 := 105) (pc' := 109) rfl (hb hby at_105) (by decide) (by decide) k) ?_
      have ft45 := (Nat.le_trans hk24 kq35.1)
      refine GoW.retB X43 hlk hx (t := .boolean) hret (by simp) (hb hby at_109) kq43 hS24 ft45 hZ24 hEL CR35 hh ?_ (by decide) (by decide)
      exact ⟨rfl, N43⟩
set_option maxRecDepth 65536 in
set_option maxHeartbeats 40000000 in
theorem comes_1 {Post : Tables → Env → Array Value → State → Outcome → State → Prop} (hpost : ∀ tb e args s v u, (limb_1_1.after args s (.returned v) u = true ∧ limb_1_2.after args s (.returned v) u = true ∧ True) → ReturnedEndW s (.returned v) u (Jvm.fieldLocs frame_1_writes args s ++ Jvm.arrayLocs frame_1_arrays args s ++ Jvm.staticLocs frame_1_statics s) 24 1152 → Post tb e args s (.returned v) u) :
    ArmFor flags0 classFile x code maxLocals ret World_1 tables_1 room_1 Calls_1 rest_1 Pre_1 Post := by
  intro l hfl _ _ p e ha hc hk s m args below hf hA hF happ hP
  obtain ⟨hcalls, hrest, hpre⟩ := hP
  obtain ⟨-, -, -, hnamed, -, -, -, hat⟩ := (Spec.applies_iff hf).mp happ
  obtain ⟨hg, hn⟩ := and_e (Cond.before_iff.mp (show (Jvm.Cond.and given_1 narrow_1).before args s = true from hpre))
  obtain ⟨g1, g2⟩ := and_e hg
  obtain ⟨g3, g4⟩ := and_e g2
  obtain ⟨g5, g6⟩ := and_e g4
  obtain ⟨v0, v1, v2, rfl⟩ : ∃ v0 v1 v2 : Value, args = #[v0, v1, v2] := by
    have hs : args.size = 3 := by simpa [Cond.value, given_1] using g1
    obtain ⟨L⟩ := args
    match L, hs with
    | [v0, v1, v2], _ => exact ⟨v0, v1, v2, rfl⟩
  have hw := fun d (hd : d ∈ tables_1) => atoms_spec (ws := Jvm.Cond.code x code maxLocals ret :: tables_1) hat d (List.mem_cons_of_mem _ hd)
  have hfit : Fit s := fun {y c} hc i hi => by
    obtain ⟨ha, rfl⟩ := Array.getElem?_eq_some_iff.mp hc
    have q := List.all_eq_true.mp ((Array.all_eq_true_iff_forall_mem.mp hF) _ (Array.getElem_mem ha)) i (List.mem_range.mpr hi)
    simpa [Array.getElem?_eq_getElem hi] using q
  obtain ⟨hsets, hown0⟩ := atoms_of _ (rest_1_c_eq ▸ (show rest_1_c.before _ s = true from hrest))
  have hr0 := Cond.before_iff.mp hown0
  obtain ⟨i0, ei0⟩ := is_v g3
  obtain rfl : v0 = (.int i0) := Option.some.inj ei0
  obtain ⟨i1, ei1⟩ := is_v g5
  obtain rfl : v1 = (.int i1) := Option.some.inj ei1
  obtain ⟨i2, ei2⟩ := is_v g6
  obtain rfl : v2 = (.int i2) := Option.some.inj ei2
  obtain ⟨w_ERROR, ev_w_ERROR⟩ := exa_v hn
  have S_w_ERROR := Sta.start ev_w_ERROR (Or.inr ⟨hw _ (List.mem_of_getElem? (i := 37) rfl), hw _ (List.mem_of_getElem? (i := 38) rfl)⟩)
  have E_w_ERROR := Exa.start ev_w_ERROR hn
  obtain ⟨i_COMPACT_STRINGS, ev_i_COMPACT_STRINGS⟩ := is_v (Cond.before_iff.mp (hsets _ (List.mem_of_getElem? (i := 1) rfl)))
  have S_i_COMPACT_STRINGS := Sta.start ev_i_COMPACT_STRINGS (Or.inl (hsets _ (List.mem_of_getElem? (i := 0) rfl)))
  have nz_i_COMPACT_STRINGS : ¬ i_COMPACT_STRINGS = (0 : Int32) := own_ne_int (Cond.before_iff.mp (hsets _ (List.mem_of_getElem? (i := 2) rfl))) ev_i_COMPACT_STRINGS
  obtain ⟨v_SIOOBE_FORMATTER, ev_v_SIOOBE_FORMATTER, r_v_SIOOBE_FORMATTER⟩ := isR_v (Cond.before_iff.mp (hsets _ (List.mem_of_getElem? (i := 8) rfl)))
  have S_v_SIOOBE_FORMATTER := Sta.start ev_v_SIOOBE_FORMATTER (Or.inl (hsets _ (List.mem_of_getElem? (i := 7) rfl)))
  have WW : World1 s w_ERROR  i_COMPACT_STRINGS v_SIOOBE_FORMATTER := ⟨S_i_COMPACT_STRINGS, nz_i_COMPACT_STRINGS, S_v_SIOOBE_FORMATTER, r_v_SIOOBE_FORMATTER, S_w_ERROR, E_w_ERROR⟩
  have hCH : CHv s EL s.vm s.heap := CHv.start (own_EL hw) (fun p hp => hcalls.1 p hp) (hsets _ (List.mem_of_getElem? (i := 2) rfl)) (own_wS hw _ (by simp [Bundle.stringAtoms])) (own_wS hw _ (by simp [Bundle.stringAtoms, Bundle.sN]))
  obtain ⟨n, o, h1, h2, h3, _, L, rfl, ⟨rfl, N⟩, -, hq⟩ := rm0 l s _ hw tables_1 i0 i1 i2 w_ERROR  i_COMPACT_STRINGS v_SIOOBE_FORMATTER s.heap s.heap.size (Old.start s) WW  p e ha hc hk s m _ below hf ((Spec.applies_iff_loose hf).mp happ).1 ⟨rfl, State.Warmed39.refl s, rfl, hCH⟩ trivial
  refine ⟨n, _, h1, h2, h3, hpost _ _ _ _ _ _ ⟨Cond.after_iff.mpr rfl, Cond.after_iff.mpr (eq_i res_at (Term.int_eval (1)) rfl), trivial⟩ ⟨hq.1, hq.2.1, hq.2.2.1, (hq.2.2.2.sift fun y hy => Or.inr (N y hy)).mono (by decide) (by decide)⟩⟩
theorem main_1_1 : Claimed_1_1 := comes_1 fun _ _ _ _ _ _ h hF => ⟨h.1, hF⟩
theorem main_1_2 : Claimed_1_2 := comes_1 fun _ _ _ _ _ _ h hF => ⟨h.2.1, hF⟩
end Jvm.Pilot.@@N@@
namespace Jvm.Pilot.@@N@@
open Jvm Jvm.ClassFile Sem Op Lib Jvm.Free Jvm.Stand Jvm.Pilot.@@N@@.Jvm.D
/-! MADE BY PROGRAM (witnessworld.py) out of the Statement's table words and the real class files: 23 classes; the members and pool entries that the words name. The judged class is class 1, her method 1. -/
namespace start1
open Jvm.ClassFile
def u (s : String) : CpInfo := .utf8 (stringToUtf16 s)
/-- a pool by its gaps: so many unusable entries, then the entry; so many at the end -/
def gap : Nat → List CpInfo → List CpInfo
  | 0, r => r
  | n + 1, r => .unusable :: gap n r
def poolList (es : List (Nat × CpInfo)) (last : Nat) : List CpInfo := es.foldr (fun e r => gap e.1 (e.2 :: r)) (gap last [])
def pool (es : List (Nat × CpInfo)) (last : Nat) : Array CpInfo := ⟨poolList es last⟩
def fileOf (pool : Array CpInfo) (this : Nat) (attrs : Array Attribute := #[]) (ms : Array MethodInfo := #[]) (fl : Nat := 33) (sup : Nat := 0) (ifs : Array Nat := #[]) (fds : Array FieldInfo := #[]) : ClassFile where
  minorVersion := 0
  majorVersion := 65
  constantPool := pool
  accessFlags := fl
  thisClass := this
  superClass := sup
  interfaces := ifs
  fields := fds
  methods := ms
  attributes := attrs
def plain (name : String) (sup : Option ClassId) : Class where
  name := name
  kind := .ordinary
  loader := none
  accessFlags := 33
  super := sup
  interfaces := #[]
  cf := none
  fields := #[]
  methods := #[]
  instanceTypes := #[]
  staticTypes := #[]
  resolved := #[]
  callSites := []
  init := .initialized
  statics := none
  mirror := none

def pool0 : Array CpInfo := pool [(5, u "<init>"), (0, u "()V"), (1, .class_ 10), (1, u "java/lang/Object")] 113

def k0c0 : Code := { maxStack := 0, maxLocals := 1, code := object_method_1_code, exceptionTable := #[], attributes := #[] }
def k0m0 : Method := { name := "<init>", desc := "()V", sig := { parameters := [], returnType := none }, accessFlags := 1, code := some k0c0 }
/-- java/lang/Object -/
def k0 : Class := { plain "java/lang/Object" none with
  accessFlags := 33
  interfaces := #[]
  cf := some (fileOf pool0 8 #[] #[{ accessFlags := 1, nameIndex := 5, descriptorIndex := 6, attributes := #[] }] 33 0 #[] #[])
  fields := #[]
  methods := #[k0m0]
  instanceTypes := #[]
  staticTypes := #[]
  resolved := Array.replicate 124 none
  statics := none }

def pool1 : Array CpInfo := pool [(2, .class_ 4), (1, u "java/lang/Object"), (0, u "<init>"), (0, u "()V"), (0, .methodref 8 9), (0, .class_ 10), (0, .nameAndType 11 12), (0, u "com/example/lapwing/lapwing/profile/RuleViolationErrorPinLaw"), (0, u "pick"), (0, u "(ICC)Ljava/lang/String;"), (0, .methodref 14 15), (0, .class_ 16), (0, .nameAndType 17 18), (0, u "com/example/lapwing/lapwing/profile/RuleViolation"), (0, u "error"), (0, u "(Ljava/lang/String;Ljava/lang/String;)Lcom/example/lapwing/lapwing/profile/RuleViolation;"), (0, .methodref 14 20), (0, .nameAndType 21 22), (0, u "severity"), (0, u "()Lcom/example/lapwing/lapwing/profile/RuleViolation$Severity;"), (0, .fieldref 24 25), (0, .class_ 26), (0, .nameAndType 27 28), (0, u "com/example/lapwing/lapwing/profile/RuleViolation$Severity"), (0, u "ERROR"), (0, u "Lcom/example/lapwing/lapwing/profile/RuleViolation$Severity;"), (0, .methodref 14 30), (0, .nameAndType 31 32), (0, u "path"), (0, u "()Ljava/lang/String;"), (0, .methodref 8 34), (0, .nameAndType 35 36), (0, u "same"), (0, u "(Ljava/lang/String;Ljava/lang/String;)Z"), (0, .methodref 14 38), (0, .nameAndType 39 32), (0, u "message"), (0, .class_ 41), (0, u "java/lang/String"), (0, .methodref 40 43), (0, .nameAndType 5 44), (0, u "([C)V"), (0, .methodref 40 46), (0, .nameAndType 47 48), (0, u "valueOf"), (0, u "(C)Ljava/lang/String;"), (0, .methodref 40 50), (0, .nameAndType 51 52), (0, u "equals"), (0, u "(Ljava/lang/Object;)Z"), (2, u "law"), (0, u "(III)Z")] 5

def k1m0 : Method := { name := "<init>", desc := "()V", sig := { parameters := [], returnType := none }, accessFlags := 1, code := none }
def k1c1 : Code := { maxStack := 3, maxLocals := 10, code := code, exceptionTable := #[], attributes := #[] }
def k1m1 : Method := { name := "law", desc := "(III)Z", sig := { parameters := [.int, .int, .int], returnType := some .boolean }, accessFlags := 9, code := some k1c1 }
def k1c2 : Code := { maxStack := 6, maxLocals := 4, code := method_3_code, exceptionTable := #[], attributes := #[] }
def k1m2 : Method := { name := "pick", desc := "(ICC)Ljava/lang/String;", sig := { parameters := [.int, .char, .char], returnType := some (.object "java/lang/String") }, accessFlags := 10, code := some k1c2 }
def k1c3 : Code := { maxStack := 2, maxLocals := 2, code := method_4_code, exceptionTable := #[], attributes := #[] }
def k1m3 : Method := { name := "same", desc := "(Ljava/lang/String;Ljava/lang/String;)Z", sig := { parameters := [(.object "java/lang/String"), (.object "java/lang/String")], returnType := some .boolean }, accessFlags := 10, code := some k1c3 }
/-- com/example/lapwing/lapwing/profile/RuleViolationErrorPinLaw -/
def k1 : Class := { plain "com/example/lapwing/lapwing/profile/RuleViolationErrorPinLaw" (some 0) with
  accessFlags := 49
  interfaces := #[]
  cf := some (fileOf pool1 8 #[] #[{ accessFlags := 1, nameIndex := 5, descriptorIndex := 6, attributes := #[] }, { accessFlags := 9, nameIndex := 55, descriptorIndex := 56, attributes := #[] }, { accessFlags := 10, nameIndex := 11, descriptorIndex := 12, attributes := #[] }, { accessFlags := 10, nameIndex := 35, descriptorIndex := 36, attributes := #[] }] 49 2 #[] #[])
  fields := #[]
  methods := #[k1m0, k1m1, k1m2, k1m3]
  instanceTypes := #[]
  staticTypes := #[]
  resolved := Array.replicate 62 none
  statics := none }

def pool2 : Array CpInfo := pool [(1, .class_ 2), (0, u "java/io/Serializable"), (0, .class_ 4), (0, u "java/lang/Object")] 2

/-- java/io/Serializable -/
def k2 : Class := { plain "java/io/Serializable" (some 0) with
  accessFlags := 1537
  interfaces := #[]
  cf := some (fileOf pool2 1 #[] #[] 1537 3 #[] #[])
  fields := #[]
  methods := #[]
  instanceTypes := #[]
  staticTypes := #[]
  resolved := Array.replicate 7 none
  statics := none }

def pool3 : Array CpInfo := pool [(1, .class_ 2), (0, u "java/lang/Comparable"), (0, .class_ 4), (0, u "java/lang/Object")] 7

/-- java/lang/Comparable -/
def k3 : Class := { plain "java/lang/Comparable" (some 0) with
  accessFlags := 1537
  interfaces := #[]
  cf := some (fileOf pool3 1 #[] #[] 1537 3 #[] #[])
  fields := #[]
  methods := #[]
  instanceTypes := #[]
  staticTypes := #[]
  resolved := Array.replicate 12 none
  statics := none }

def pool4 : Array CpInfo := pool [(2, .class_ 4), (1, u "java/lang/CharSequence"), (42, .class_ 48), (0, u "java/lang/CharSequence$1CodePointIterator"), (10, .class_ 60), (0, u "java/lang/CharSequence$1CharIterator"), (5, .class_ 67), (0, u "java/lang/Object")] 63

/-- java/lang/CharSequence -/
def k4 : Class := { plain "java/lang/CharSequence" (some 0) with
  accessFlags := 1537
  interfaces := #[]
  cf := some (fileOf pool4 2 #[.nestMembers #[47, 59]] #[] 1537 66 #[] #[])
  fields := #[]
  methods := #[]
  instanceTypes := #[]
  staticTypes := #[]
  resolved := Array.replicate 131 none
  statics := none }

def pool5 : Array CpInfo := pool [(1, .class_ 2), (0, u "java/lang/constant/Constable"), (0, .class_ 4), (0, u "java/lang/Object")] 6

/-- java/lang/constant/Constable -/
def k5 : Class := { plain "java/lang/constant/Constable" (some 0) with
  accessFlags := 1537
  interfaces := #[]
  cf := some (fileOf pool5 1 #[] #[] 1537 3 #[] #[])
  fields := #[]
  methods := #[]
  instanceTypes := #[]
  staticTypes := #[]
  resolved := Array.replicate 11 none
  statics := none }

def pool6 : Array CpInfo := pool [(1, .class_ 2), (0, u "java/lang/constant/ConstantDesc"), (0, .class_ 4), (0, u "java/lang/Object")] 32

/-- java/lang/constant/ConstantDesc -/
def k6 : Class := { plain "java/lang/constant/ConstantDesc" (some 0) with
  accessFlags := 1537
  interfaces := #[]
  cf := some (fileOf pool6 1 #[] #[] 1537 3 #[] #[])
  fields := #[]
  methods := #[]
  instanceTypes := #[]
  staticTypes := #[]
  resolved := Array.replicate 37 none
  statics := none }

def pool7 : Array CpInfo := pool [(1, .methodref 2 3), (0, .class_ 4), (0, .nameAndType 5 6), (0, u "java/lang/Object"), (0, u "<init>"), (0, u "()V"), (0, .string 8), (0, u ""), (0, .fieldref 10 11), (0, .class_ 12), (0, .nameAndType 13 14), (0, u "java/lang/String"), (0, u "value"), (0, u "[B"), (0, .fieldref 10 16), (0, .nameAndType 17 18), (0, u "coder"), (0, u "B"), (2, u "hash"), (0, u "I"), (2, u "hashIsZero"), (0, u "Z"), (0, .methodref 10 28), (0, .nameAndType 5 29), (0, u "([CIILjava/lang/Void;)V"), (8, .fieldref 10 39), (0, .nameAndType 40 26), (0, u "COMPACT_STRINGS"), (1, .class_ 44), (1, u "java/lang/StringUTF16"), (0, u "compress"), (1, .methodref 42 48), (0, .nameAndType 49 50), (0, u "coderFromArrayLen"), (0, u "([BI)B"), (2, u "toBytes"), (53, .class_ 109), (1, u "java/lang/StringLatin1"), (67, .methodref 42 178), (0, .nameAndType 45 179), (0, u "([CII)[B"), (29, .methodref 10 210), (0, .nameAndType 5 211), (0, u "([BB)V"), (157, u "(C)Z"), (173, u "equals"), (29, u "(Ljava/lang/Object;)Z"), (1, .class_ 576), (0, u "java/lang/CharSequence"), (22, u "CASE_INSENSITIVE_ORDER"), (0, u "Ljava/util/Comparator;"), (181, u "valueOf"), (0, u "(C)Ljava/lang/String;"), (226, u "([C)V"), (4, .methodref 107 1016), (0, .nameAndType 1017 369), (0, u "canEncode"), (0, .methodref 107 1019), (0, .nameAndType 53 1020), (0, u "(C)[B"), (80, u "serialPersistentFields"), (0, u "[Ljava/io/ObjectStreamField;"), (0, .class_ 1104), (0, u "java/lang/String$CaseInsensitiveComparator"), (1, .class_ 1107), (0, u "java/io/Serializable"), (0, .class_ 1109), (0, u "java/lang/Comparable"), (0, .class_ 1111), (0, u "java/lang/constant/Constable"), (0, .class_ 1113), (0, u "java/lang/constant/ConstantDesc"), (2, u "serialVersionUID"), (0, u "J"), (3, u "REPL"), (0, u "C"), (2, u "LATIN1"), (1, u "UTF16")] 323

def k7m0 : Method := { name := "<init>", desc := "()V", sig := { parameters := [], returnType := none }, accessFlags := 1, code := none }
def k7c1 : Code := { maxStack := 5, maxLocals := 2, code := jdk_42_method_3_code, exceptionTable := #[], attributes := #[] }
def k7m1 : Method := { name := "<init>", desc := "([C)V", sig := { parameters := [(.array .char)], returnType := none }, accessFlags := 1, code := some k7c1 }
def k7c2 : Code := { maxStack := 2, maxLocals := 3, code := jdk_42_method_66_code, exceptionTable := #[], attributes := #[] }
def k7m2 : Method := { name := "equals", desc := "(Ljava/lang/Object;)Z", sig := { parameters := [(.object "java/lang/Object")], returnType := some .boolean }, accessFlags := 1, code := some k7c2 }
def k7c3 : Code := { maxStack := 4, maxLocals := 1, code := jdk_42_method_139_code, exceptionTable := #[], attributes := #[] }
def k7m3 : Method := { name := "valueOf", desc := "(C)Ljava/lang/String;", sig := { parameters := [.char], returnType := some (.object "java/lang/String") }, accessFlags := 9, code := some k7c3 }
def k7c4 : Code := { maxStack := 4, maxLocals := 6, code := jdk_42_method_149_code, exceptionTable := #[], attributes := #[] }
def k7m4 : Method := { name := "<init>", desc := "([CIILjava/lang/Void;)V", sig := { parameters := [(.array .char), .int, .int, (.object "java/lang/Void")], returnType := none }, accessFlags := 2, code := some k7c4 }
def k7c5 : Code := { maxStack := 2, maxLocals := 3, code := jdk_42_method_151_code, exceptionTable := #[], attributes := #[] }
def k7m5 : Method := { name := "<init>", desc := "([BB)V", sig := { parameters := [(.array .byte), .byte], returnType := none }, accessFlags := 0, code := some k7c5 }
/-- java/lang/String -/
def k7 : Class := { plain "java/lang/String" (some 0) with
  accessFlags := 49
  interfaces := #[2, 3, 4, 5, 6]
  cf := some (fileOf pool7 10 #[.nestMembers #[1103]] #[{ accessFlags := 1, nameIndex := 5, descriptorIndex := 6, attributes := #[] }, { accessFlags := 1, nameIndex := 5, descriptorIndex := 1010, attributes := #[] }, { accessFlags := 1, nameIndex := 543, descriptorIndex := 573, attributes := #[] }, { accessFlags := 9, nameIndex := 782, descriptorIndex := 783, attributes := #[] }, { accessFlags := 2, nameIndex := 5, descriptorIndex := 29, attributes := #[] }, { accessFlags := 0, nameIndex := 5, descriptorIndex := 211, attributes := #[] }] 49 2 #[1106, 1108, 575, 1110, 1112] #[{ accessFlags := 18, nameIndex := 13, descriptorIndex := 14, attributes := #[] }, { accessFlags := 18, nameIndex := 17, descriptorIndex := 18, attributes := #[] }, { accessFlags := 2, nameIndex := 21, descriptorIndex := 22, attributes := #[] }, { accessFlags := 2, nameIndex := 25, descriptorIndex := 26, attributes := #[] }, { accessFlags := 26, nameIndex := 1116, descriptorIndex := 1117, attributes := #[] }, { accessFlags := 24, nameIndex := 40, descriptorIndex := 26, attributes := #[] }, { accessFlags := 26, nameIndex := 1101, descriptorIndex := 1102, attributes := #[] }, { accessFlags := 26, nameIndex := 1121, descriptorIndex := 1122, attributes := #[] }, { accessFlags := 25, nameIndex := 599, descriptorIndex := 600, attributes := #[] }, { accessFlags := 24, nameIndex := 1125, descriptorIndex := 18, attributes := #[] }, { accessFlags := 24, nameIndex := 1127, descriptorIndex := 18, attributes := #[] }])
  fields := #[{ name := "value", type := (.array .byte), accessFlags := 18, slot := 0, constantValue := 0 }, { name := "coder", type := .byte, accessFlags := 18, slot := 1, constantValue := 0 }, { name := "hash", type := .int, accessFlags := 2, slot := 2, constantValue := 0 }, { name := "hashIsZero", type := .boolean, accessFlags := 2, slot := 3, constantValue := 0 }, { name := "serialVersionUID", type := .long, accessFlags := 26, slot := 0, constantValue := 0 }, { name := "COMPACT_STRINGS", type := .boolean, accessFlags := 24, slot := 1, constantValue := 0 }, { name := "serialPersistentFields", type := (.array (.object "java/io/ObjectStreamField")), accessFlags := 26, slot := 2, constantValue := 0 }, { name := "REPL", type := .char, accessFlags := 26, slot := 3, constantValue := 0 }, { name := "CASE_INSENSITIVE_ORDER", type := (.object "java/util/Comparator"), accessFlags := 25, slot := 4, constantValue := 0 }, { name := "LATIN1", type := .byte, accessFlags := 24, slot := 5, constantValue := 0 }, { name := "UTF16", type := .byte, accessFlags := 24, slot := 6, constantValue := 0 }]
  methods := #[k7m0, k7m1, k7m2, k7m3, k7m4, k7m5]
  instanceTypes := #[(.array .byte), .byte, .int, .boolean]
  staticTypes := #[.long, .boolean, (.array (.object "java/io/ObjectStreamField")), .char, (.object "java/util/Comparator"), .byte, .byte]
  resolved := Array.replicate 1451 none
  statics := some 0 }

def pool8 : Array CpInfo := pool [(4, .class_ 6), (1, u "java/lang/Object"), (0, u "<init>"), (0, u "()V"), (5, .class_ 16), (1, u "java/lang/StringLatin1"), (73, u "canEncode"), (14, u "(C)Z"), (15, u "$assertionsDisabled"), (0, u "Z"), (98, .class_ 223), (1, u "java/lang/StringLatin1$LinesSpliterator"), (156, u "toBytes"), (1, u "(C)[B"), (7, .class_ 391), (0, u "java/lang/StringLatin1$CharsSpliterator")] 3

def k8m0 : Method := { name := "<init>", desc := "()V", sig := { parameters := [], returnType := none }, accessFlags := 0, code := none }
def k8c1 : Code := { maxStack := 2, maxLocals := 1, code := jdk_43_method_3_code, exceptionTable := #[], attributes := #[] }
def k8m1 : Method := { name := "canEncode", desc := "(C)Z", sig := { parameters := [.char], returnType := some .boolean }, accessFlags := 9, code := some k8c1 }
def k8c2 : Code := { maxStack := 4, maxLocals := 1, code := jdk_43_method_46_code, exceptionTable := #[], attributes := #[] }
def k8m2 : Method := { name := "toBytes", desc := "(C)[B", sig := { parameters := [.char], returnType := some (.array .byte) }, accessFlags := 9, code := some k8c2 }
/-- java/lang/StringLatin1 -/
def k8 : Class := { plain "java/lang/StringLatin1" (some 0) with
  accessFlags := 48
  interfaces := #[]
  cf := some (fileOf pool8 14 #[.nestMembers #[390, 221]] #[{ accessFlags := 0, nameIndex := 7, descriptorIndex := 8, attributes := #[] }, { accessFlags := 9, nameIndex := 90, descriptorIndex := 105, attributes := #[] }, { accessFlags := 9, nameIndex := 380, descriptorIndex := 382, attributes := #[] }] 48 4 #[] #[{ accessFlags := 4120, nameIndex := 121, descriptorIndex := 122, attributes := #[] }])
  fields := #[{ name := "$assertionsDisabled", type := .boolean, accessFlags := 4120, slot := 0, constantValue := 0 }]
  methods := #[k8m0, k8m1, k8m2]
  instanceTypes := #[]
  staticTypes := #[.boolean]
  resolved := Array.replicate 395 none
  statics := none }

def pool9 : Array CpInfo := pool [(1, .methodref 2 3), (0, .class_ 4), (0, .nameAndType 5 6), (0, u "java/lang/Object"), (0, u "<init>"), (0, u "()V"), (0, .class_ 8), (0, u "java/lang/Record")] 13

def k9c0 : Code := { maxStack := 1, maxLocals := 1, code := jdk_30_method_1_code, exceptionTable := #[], attributes := #[] }
def k9m0 : Method := { name := "<init>", desc := "()V", sig := { parameters := [], returnType := none }, accessFlags := 4, code := some k9c0 }
/-- java/lang/Record -/
def k9 : Class := { plain "java/lang/Record" (some 0) with
  accessFlags := 1057
  interfaces := #[]
  cf := some (fileOf pool9 7 #[] #[{ accessFlags := 4, nameIndex := 5, descriptorIndex := 6, attributes := #[] }] 1057 2 #[] #[])
  fields := #[]
  methods := #[k9m0]
  instanceTypes := #[]
  staticTypes := #[]
  resolved := Array.replicate 22 none
  statics := none }

def pool10 : Array CpInfo := pool [(1, .methodref 2 3), (0, .class_ 4), (0, .nameAndType 5 6), (0, u "java/lang/Record"), (0, u "<init>"), (0, u "()V"), (0, .fieldref 8 9), (0, .class_ 10), (0, .nameAndType 11 12), (0, u "com/example/lapwing/lapwing/profile/RuleViolation"), (0, u "severity"), (0, u "Lcom/example/lapwing/lapwing/profile/RuleViolation$Severity;"), (0, .fieldref 8 14), (0, .nameAndType 15 16), (0, u "path"), (0, u "Ljava/lang/String;"), (0, .fieldref 8 18), (0, .nameAndType 19 16), (0, u "message"), (0, .fieldref 21 22), (0, .class_ 23), (0, .nameAndType 24 12), (0, u "com/example/lapwing/lapwing/profile/RuleViolation$Severity"), (0, u "ERROR"), (0, .methodref 8 26), (0, .nameAndType 5 27), (0, u "(Lcom/example/lapwing/lapwing/profile/RuleViolation$Severity;Ljava/lang/String;Ljava/lang/String;)V"), (18, u "error"), (0, u "(Ljava/lang/String;Ljava/lang/String;)Lcom/example/lapwing/lapwing/profile/RuleViolation;"), (1, u "()Ljava/lang/String;"), (2, u "()Lcom/example/lapwing/lapwing/profile/RuleViolation$Severity;")] 24

def k10c0 : Code := { maxStack := 2, maxLocals := 4, code := prog_38_method_1_code, exceptionTable := #[], attributes := #[] }
def k10m0 : Method := { name := "<init>", desc := "(Lcom/example/lapwing/lapwing/profile/RuleViolation$Severity;Ljava/lang/String;Ljava/lang/String;)V", sig := { parameters := [(.object "com/example/lapwing/lapwing/profile/RuleViolation$Severity"), (.object "java/lang/String"), (.object "java/lang/String")], returnType := none }, accessFlags := 1, code := some k10c0 }
def k10c1 : Code := { maxStack := 5, maxLocals := 2, code := prog_38_method_2_code, exceptionTable := #[], attributes := #[] }
def k10m1 : Method := { name := "error", desc := "(Ljava/lang/String;Ljava/lang/String;)Lcom/example/lapwing/lapwing/profile/RuleViolation;", sig := { parameters := [(.object "java/lang/String"), (.object "java/lang/String")], returnType := some (.object "com/example/lapwing/lapwing/profile/RuleViolation") }, accessFlags := 9, code := some k10c1 }
def k10c2 : Code := { maxStack := 1, maxLocals := 1, code := prog_38_method_7_code, exceptionTable := #[], attributes := #[] }
def k10m2 : Method := { name := "severity", desc := "()Lcom/example/lapwing/lapwing/profile/RuleViolation$Severity;", sig := { parameters := [], returnType := some (.object "com/example/lapwing/lapwing/profile/RuleViolation$Severity") }, accessFlags := 1, code := some k10c2 }
def k10c3 : Code := { maxStack := 1, maxLocals := 1, code := prog_38_method_8_code, exceptionTable := #[], attributes := #[] }
def k10m3 : Method := { name := "path", desc := "()Ljava/lang/String;", sig := { parameters := [], returnType := some (.object "java/lang/String") }, accessFlags := 1, code := some k10c3 }
def k10c4 : Code := { maxStack := 1, maxLocals := 1, code := prog_38_method_9_code, exceptionTable := #[], attributes := #[] }
def k10m4 : Method := { name := "message", desc := "()Ljava/lang/String;", sig := { parameters := [], returnType := some (.object "java/lang/String") }, accessFlags := 1, code := some k10c4 }
/-- com/example/lapwing/lapwing/profile/RuleViolation -/
def k10 : Class := { plain "com/example/lapwing/lapwing/profile/RuleViolation" (some 9) with
  accessFlags := 49
  interfaces := #[]
  cf := some (fileOf pool10 8 #[.nestMembers #[21]] #[{ accessFlags := 1, nameIndex := 5, descriptorIndex := 27, attributes := #[] }, { accessFlags := 9, nameIndex := 46, descriptorIndex := 47, attributes := #[] }, { accessFlags := 1, nameIndex := 11, descriptorIndex := 52, attributes := #[] }, { accessFlags := 1, nameIndex := 15, descriptorIndex := 49, attributes := #[] }, { accessFlags := 1, nameIndex := 19, descriptorIndex := 49, attributes := #[] }] 49 2 #[] #[{ accessFlags := 18, nameIndex := 11, descriptorIndex := 12, attributes := #[] }, { accessFlags := 18, nameIndex := 15, descriptorIndex := 16, attributes := #[] }, { accessFlags := 18, nameIndex := 19, descriptorIndex := 16, attributes := #[] }])
  fields := #[{ name := "severity", type := (.object "com/example/lapwing/lapwing/profile/RuleViolation$Severity"), accessFlags := 18, slot := 0, constantValue := 0 }, { name := "path", type := (.object "java/lang/String"), accessFlags := 18, slot := 1, constantValue := 0 }, { name := "message", type := (.object "java/lang/String"), accessFlags := 18, slot := 2, constantValue := 0 }]
  methods := #[k10m0, k10m1, k10m2, k10m3, k10m4]
  instanceTypes := #[(.object "com/example/lapwing/lapwing/profile/RuleViolation$Severity"), (.object "java/lang/String"), (.object "java/lang/String")]
  staticTypes := #[]
  resolved := Array.replicate 77 none
  statics := none }

def pool11 : Array CpInfo := pool [(2, .class_ 4), (1, u "java/lang/Enum"), (0, u "name"), (0, u "Ljava/lang/String;"), (2, u "ordinal"), (0, u "I"), (1, .class_ 14), (1, u "java/lang/Object"), (4, u "hash"), (86, .class_ 108), (1, u "java/lang/Enum$EnumDesc"), (2, .class_ 112), (0, u "java/lang/constant/Constable"), (0, .class_ 114), (0, u "java/lang/Comparable"), (0, .class_ 116), (0, u "java/io/Serializable")] 87

/-- java/lang/Enum -/
def k11 : Class := { plain "java/lang/Enum" (some 0) with
  accessFlags := 1057
  interfaces := #[5, 3, 2]
  cf := some (fileOf pool11 2 #[.nestMembers #[106]] #[] 1057 12 #[111, 113, 115] #[{ accessFlags := 18, nameIndex := 5, descriptorIndex := 6, attributes := #[] }, { accessFlags := 18, nameIndex := 9, descriptorIndex := 10, attributes := #[] }, { accessFlags := 2, nameIndex := 19, descriptorIndex := 10, attributes := #[] }])
  fields := #[{ name := "name", type := (.object "java/lang/String"), accessFlags := 18, slot := 0, constantValue := 0 }, { name := "ordinal", type := .int, accessFlags := 18, slot := 1, constantValue := 0 }, { name := "hash", type := .int, accessFlags := 2, slot := 2, constantValue := 0 }]
  methods := #[]
  instanceTypes := #[(.object "java/lang/String"), .int, .int]
  staticTypes := #[]
  resolved := Array.replicate 204 none
  statics := none }

def pool12 : Array CpInfo := pool [(1, .class_ 2), (0, u "com/example/lapwing/lapwing/profile/RuleViolation$Severity"), (2, u "ERROR"), (0, u "Lcom/example/lapwing/lapwing/profile/RuleViolation$Severity;"), (2, u "WARNING"), (2, u "$VALUES"), (0, u "[Lcom/example/lapwing/lapwing/profile/RuleViolation$Severity;"), (6, .class_ 22), (1, u "java/lang/Enum"), (25, .class_ 49), (0, u "com/example/lapwing/lapwing/profile/RuleViolation")] 2

/-- com/example/lapwing/lapwing/profile/RuleViolation$Severity -/
def k12 : Class := { plain "com/example/lapwing/lapwing/profile/RuleViolation$Severity" (some 11) with
  accessFlags := 16433
  interfaces := #[]
  cf := some (fileOf pool12 1 #[.nestHost 48] #[] 16433 20 #[] #[{ accessFlags := 16409, nameIndex := 5, descriptorIndex := 6, attributes := #[] }, { accessFlags := 16409, nameIndex := 9, descriptorIndex := 6, attributes := #[] }, { accessFlags := 4122, nameIndex := 12, descriptorIndex := 13, attributes := #[] }])
  fields := #[{ name := "ERROR", type := (.object "com/example/lapwing/lapwing/profile/RuleViolation$Severity"), accessFlags := 16409, slot := 0, constantValue := 0 }, { name := "WARNING", type := (.object "com/example/lapwing/lapwing/profile/RuleViolation$Severity"), accessFlags := 16409, slot := 1, constantValue := 0 }, { name := "$VALUES", type := (.array (.object "com/example/lapwing/lapwing/profile/RuleViolation$Severity")), accessFlags := 4122, slot := 2, constantValue := 0 }]
  methods := #[]
  instanceTypes := #[(.object "java/lang/String"), .int, .int]
  staticTypes := #[(.object "com/example/lapwing/lapwing/profile/RuleViolation$Severity"), (.object "com/example/lapwing/lapwing/profile/RuleViolation$Severity"), (.array (.object "com/example/lapwing/lapwing/profile/RuleViolation$Severity"))]
  resolved := Array.replicate 52 none
  statics := some 1 }

def pool13 : Array CpInfo := pool [(6, .class_ 8), (1, u "java/lang/Object"), (0, u "<init>"), (0, u "()V"), (1, .class_ 14), (1, u "java/lang/StringUTF16"), (31, u "$assertionsDisabled"), (0, u "Z"), (13, u "HI_BYTE_SHIFT"), (0, u "I"), (2, u "LO_BYTE_SHIFT"), (49, .methodref 12 116), (0, .nameAndType 117 118), (0, u "compress"), (0, u "([CI[BII)I"), (3, u "([CII)[B"), (138, u "coderFromArrayLen"), (0, u "([BI)B"), (106, .class_ 371), (1, u "java/lang/StringUTF16$LinesSpliterator"), (58, u "MAX_LENGTH"), (196, .class_ 628), (0, u "java/lang/StringUTF16$CodePointsSpliterator"), (0, .class_ 630), (0, u "java/lang/StringUTF16$CharsSpliterator")] 4

def k13m0 : Method := { name := "<init>", desc := "()V", sig := { parameters := [], returnType := none }, accessFlags := 0, code := none }
def k13c1 : Code := { maxStack := 2, maxLocals := 2, code := jdk_52_method_15_code, exceptionTable := #[], attributes := #[] }
def k13m1 : Method := { name := "coderFromArrayLen", desc := "([BI)B", sig := { parameters := [(.array .byte), .int], returnType := some .byte }, accessFlags := 8, code := some k13c1 }
def k13c2 : Code := { maxStack := 5, maxLocals := 6, code := jdk_52_method_16_code, exceptionTable := #[], attributes := #[] }
def k13m2 : Method := { name := "compress", desc := "([CII)[B", sig := { parameters := [(.array .char), .int, .int], returnType := some (.array .byte) }, accessFlags := 9, code := some k13c2 }
def k13c3 : Code := { maxStack := 3, maxLocals := 7, code := jdk_52_method_21_code, exceptionTable := #[], attributes := #[] }
def k13m3 : Method := { name := "compress", desc := "([CI[BII)I", sig := { parameters := [(.array .char), .int, (.array .byte), .int, .int], returnType := some .int }, accessFlags := 9, code := some k13c3 }
/-- java/lang/StringUTF16 -/
def k13 : Class := { plain "java/lang/StringUTF16" (some 0) with
  accessFlags := 48
  interfaces := #[]
  cf := some (fileOf pool13 12 #[.nestMembers #[627, 629, 369]] #[{ accessFlags := 0, nameIndex := 9, descriptorIndex := 10, attributes := #[] }, { accessFlags := 8, nameIndex := 261, descriptorIndex := 262, attributes := #[] }, { accessFlags := 9, nameIndex := 117, descriptorIndex := 122, attributes := #[] }, { accessFlags := 9, nameIndex := 117, descriptorIndex := 118, attributes := #[] }] 48 6 #[] #[{ accessFlags := 26, nameIndex := 61, descriptorIndex := 62, attributes := #[] }, { accessFlags := 26, nameIndex := 65, descriptorIndex := 62, attributes := #[] }, { accessFlags := 24, nameIndex := 430, descriptorIndex := 62, attributes := #[] }, { accessFlags := 4120, nameIndex := 46, descriptorIndex := 47, attributes := #[] }])
  fields := #[{ name := "HI_BYTE_SHIFT", type := .int, accessFlags := 26, slot := 0, constantValue := 0 }, { name := "LO_BYTE_SHIFT", type := .int, accessFlags := 26, slot := 1, constantValue := 0 }, { name := "MAX_LENGTH", type := .int, accessFlags := 24, slot := 2, constantValue := 0 }, { name := "$assertionsDisabled", type := .boolean, accessFlags := 4120, slot := 3, constantValue := 0 }]
  methods := #[k13m0, k13m1, k13m2, k13m3]
  instanceTypes := #[]
  staticTypes := #[.int, .int, .int, .boolean]
  resolved := Array.replicate 635 none
  statics := none }

def pool14 : Array CpInfo := pool [(2, .class_ 4), (1, u "java/lang/Object"), (0, u "<init>"), (0, u "()V"), (17, .class_ 26), (1, u "jdk/internal/util/Preconditions"), (28, .class_ 56), (0, u "jdk/internal/util/Preconditions$4"), (57, .class_ 115), (0, u "jdk/internal/util/Preconditions$1"), (7, u "SIOOBE_FORMATTER"), (0, u "Ljava/util/function/BiFunction;"), (0, .class_ 126), (0, u "jdk/internal/util/Preconditions$2"), (3, u "AIOOBE_FORMATTER"), (0, .class_ 132), (0, u "jdk/internal/util/Preconditions$3"), (3, u "IOOBE_FORMATTER")] 57

def k14m0 : Method := { name := "<init>", desc := "()V", sig := { parameters := [], returnType := none }, accessFlags := 1, code := none }
/-- jdk/internal/util/Preconditions -/
def k14 : Class := { plain "jdk/internal/util/Preconditions" (some 0) with
  accessFlags := 33
  interfaces := #[]
  cf := some (fileOf pool14 24 #[.nestMembers #[55, 131, 125, 114]] #[{ accessFlags := 1, nameIndex := 5, descriptorIndex := 6, attributes := #[] }] 33 2 #[] #[{ accessFlags := 25, nameIndex := 123, descriptorIndex := 124, attributes := #[] }, { accessFlags := 25, nameIndex := 130, descriptorIndex := 124, attributes := #[] }, { accessFlags := 25, nameIndex := 136, descriptorIndex := 124, attributes := #[] }])
  fields := #[{ name := "SIOOBE_FORMATTER", type := (.object "java/util/function/BiFunction"), accessFlags := 25, slot := 0, constantValue := 0 }, { name := "AIOOBE_FORMATTER", type := (.object "java/util/function/BiFunction"), accessFlags := 25, slot := 1, constantValue := 0 }, { name := "IOOBE_FORMATTER", type := (.object "java/util/function/BiFunction"), accessFlags := 25, slot := 2, constantValue := 0 }]
  methods := #[k14m0]
  instanceTypes := #[]
  staticTypes := #[(.object "java/util/function/BiFunction"), (.object "java/util/function/BiFunction"), (.object "java/util/function/BiFunction")]
  resolved := Array.replicate 194 none
  statics := some 2 }

def pool15 : Array CpInfo := pool [(9, u "<init>"), (6, .class_ 18), (1, u "java/lang/Object"), (0, u "()V"), (1, .class_ 23), (1, u "jdk/internal/util/ArraysSupport"), (0, u "LOG2_ARRAY_LONG_INDEX_SCALE"), (0, u "I"), (2, u "U"), (0, u "Ljdk/internal/misc/Unsafe;"), (8, u "BIG_ENDIAN"), (0, u "Z"), (8, u "LOG2_BYTE_BIT_SIZE"), (4, u "LOG2_ARRAY_INT_INDEX_SCALE"), (54, u "JLA"), (0, u "Ljdk/internal/access/JavaLangAccess;"), (11, u "LOG2_ARRAY_BOOLEAN_INDEX_SCALE"), (9, u "LOG2_ARRAY_BYTE_INDEX_SCALE"), (5, u "LOG2_ARRAY_CHAR_INDEX_SCALE"), (5, u "LOG2_ARRAY_SHORT_INDEX_SCALE"), (18, u "LOG2_ARRAY_FLOAT_INDEX_SCALE"), (24, u "LOG2_ARRAY_DOUBLE_INDEX_SCALE"), (89, u "T_BOOLEAN"), (2, u "T_CHAR"), (1, u "T_FLOAT"), (1, u "T_DOUBLE"), (1, u "T_BYTE"), (1, u "T_SHORT"), (1, u "T_INT"), (1, u "T_LONG"), (1, u "SOFT_MAX_ARRAY_LENGTH")] 83

def k15m0 : Method := { name := "<init>", desc := "()V", sig := { parameters := [], returnType := none }, accessFlags := 2, code := none }
/-- jdk/internal/util/ArraysSupport -/
def k15 : Class := { plain "jdk/internal/util/ArraysSupport" (some 0) with
  accessFlags := 33
  interfaces := #[]
  cf := some (fileOf pool15 21 #[] #[{ accessFlags := 2, nameIndex := 9, descriptorIndex := 19, attributes := #[] }] 33 16 #[] #[{ accessFlags := 24, nameIndex := 28, descriptorIndex := 29, attributes := #[] }, { accessFlags := 26, nameIndex := 38, descriptorIndex := 39, attributes := #[] }, { accessFlags := 25, nameIndex := 121, descriptorIndex := 25, attributes := #[] }, { accessFlags := 25, nameIndex := 131, descriptorIndex := 25, attributes := #[] }, { accessFlags := 25, nameIndex := 137, descriptorIndex := 25, attributes := #[] }, { accessFlags := 25, nameIndex := 143, descriptorIndex := 25, attributes := #[] }, { accessFlags := 25, nameIndex := 53, descriptorIndex := 25, attributes := #[] }, { accessFlags := 25, nameIndex := 24, descriptorIndex := 25, attributes := #[] }, { accessFlags := 25, nameIndex := 162, descriptorIndex := 25, attributes := #[] }, { accessFlags := 25, nameIndex := 187, descriptorIndex := 25, attributes := #[] }, { accessFlags := 26, nameIndex := 48, descriptorIndex := 25, attributes := #[] }, { accessFlags := 25, nameIndex := 277, descriptorIndex := 25, attributes := #[] }, { accessFlags := 25, nameIndex := 280, descriptorIndex := 25, attributes := #[] }, { accessFlags := 25, nameIndex := 282, descriptorIndex := 25, attributes := #[] }, { accessFlags := 25, nameIndex := 284, descriptorIndex := 25, attributes := #[] }, { accessFlags := 25, nameIndex := 286, descriptorIndex := 25, attributes := #[] }, { accessFlags := 25, nameIndex := 288, descriptorIndex := 25, attributes := #[] }, { accessFlags := 25, nameIndex := 290, descriptorIndex := 25, attributes := #[] }, { accessFlags := 25, nameIndex := 292, descriptorIndex := 25, attributes := #[] }, { accessFlags := 26, nameIndex := 108, descriptorIndex := 109, attributes := #[] }, { accessFlags := 25, nameIndex := 294, descriptorIndex := 25, attributes := #[] }])
  fields := #[{ name := "U", type := (.object "jdk/internal/misc/Unsafe"), accessFlags := 24, slot := 0, constantValue := 0 }, { name := "BIG_ENDIAN", type := .boolean, accessFlags := 26, slot := 1, constantValue := 0 }, { name := "LOG2_ARRAY_BOOLEAN_INDEX_SCALE", type := .int, accessFlags := 25, slot := 2, constantValue := 0 }, { name := "LOG2_ARRAY_BYTE_INDEX_SCALE", type := .int, accessFlags := 25, slot := 3, constantValue := 0 }, { name := "LOG2_ARRAY_CHAR_INDEX_SCALE", type := .int, accessFlags := 25, slot := 4, constantValue := 0 }, { name := "LOG2_ARRAY_SHORT_INDEX_SCALE", type := .int, accessFlags := 25, slot := 5, constantValue := 0 }, { name := "LOG2_ARRAY_INT_INDEX_SCALE", type := .int, accessFlags := 25, slot := 6, constantValue := 0 }, { name := "LOG2_ARRAY_LONG_INDEX_SCALE", type := .int, accessFlags := 25, slot := 7, constantValue := 0 }, { name := "LOG2_ARRAY_FLOAT_INDEX_SCALE", type := .int, accessFlags := 25, slot := 8, constantValue := 0 }, { name := "LOG2_ARRAY_DOUBLE_INDEX_SCALE", type := .int, accessFlags := 25, slot := 9, constantValue := 0 }, { name := "LOG2_BYTE_BIT_SIZE", type := .int, accessFlags := 26, slot := 10, constantValue := 0 }, { name := "T_BOOLEAN", type := .int, accessFlags := 25, slot := 11, constantValue := 0 }, { name := "T_CHAR", type := .int, accessFlags := 25, slot := 12, constantValue := 0 }, { name := "T_FLOAT", type := .int, accessFlags := 25, slot := 13, constantValue := 0 }, { name := "T_DOUBLE", type := .int, accessFlags := 25, slot := 14, constantValue := 0 }, { name := "T_BYTE", type := .int, accessFlags := 25, slot := 15, constantValue := 0 }, { name := "T_SHORT", type := .int, accessFlags := 25, slot := 16, constantValue := 0 }, { name := "T_INT", type := .int, accessFlags := 25, slot := 17, constantValue := 0 }, { name := "T_LONG", type := .int, accessFlags := 25, slot := 18, constantValue := 0 }, { name := "JLA", type := (.object "jdk/internal/access/JavaLangAccess"), accessFlags := 26, slot := 19, constantValue := 0 }, { name := "SOFT_MAX_ARRAY_LENGTH", type := .int, accessFlags := 25, slot := 20, constantValue := 0 }]
  methods := #[k15m0]
  instanceTypes := #[]
  staticTypes := #[(.object "jdk/internal/misc/Unsafe"), .boolean, .int, .int, .int, .int, .int, .int, .int, .int, .int, .int, .int, .int, .int, .int, .int, .int, .int, (.object "jdk/internal/access/JavaLangAccess"), .int]
  resolved := Array.replicate 378 none
  statics := none }

def pool16 : Array CpInfo := pool [(1, u "java/lang/Cloneable"), (0, .class_ 1), (0, u "java/lang/Object"), (0, .class_ 3)] 3

/-- java/lang/Cloneable -/
def k16 : Class := { plain "java/lang/Cloneable" (some 0) with
  accessFlags := 1537
  interfaces := #[]
  cf := some (fileOf pool16 2 #[] #[] 1537 4 #[] #[])
  fields := #[]
  methods := #[]
  instanceTypes := #[]
  staticTypes := #[]
  resolved := Array.replicate 8 none
  statics := none }

/-- the primitive byte -/
def k17 : Class := { plain "byte" none with kind := .primitive 'B', accessFlags := 0x411 }
/-- [B -/
def k18 : Class := { plain "[B" (some 0) with kind := .array 17 .byte, interfaces := #[16, 2], accessFlags := 1041 }

/-- the primitive char -/
def k19 : Class := { plain "char" none with kind := .primitive 'C', accessFlags := 0x411 }
/-- [C -/
def k20 : Class := { plain "[C" (some 0) with kind := .array 19 .char, interfaces := #[16, 2], accessFlags := 1041 }

/-- the primitive int -/
def k21 : Class := { plain "int" none with kind := .primitive 'I', accessFlags := 0x411 }
/-- [I -/
def k22 : Class := { plain "[I" (some 0) with kind := .array 21 .int, interfaces := #[16, 2], accessFlags := 1041 }

def heap : Heap := #[{ cls := 7, slots := #[.long 0, .int 1, .null, .int 0, .null, .int 0, .int 0], vm := .statics 7 },
  { cls := 12, slots := #[.ref 3, .null, .null], vm := .statics 12 },
  { cls := 14, slots := #[.null, .null, .null], vm := .statics 14 },
  { cls := 12, slots := #[.null, .int 0, .int 0], vm := .none }]
def classes : Array Class := #[k0, k1, k2, k3, k4, k5, k6, k7, k8, k9, k10, k11, k12, k13, k14, k15, k16, k17, k18, k19, k20, k21, k22]
def interned : List (Array UInt16 × Addr) := []
def slotsUsed : Nat := 16
def theMethod : MethodId := ⟨1, 1⟩
def args0 : Array Value := #[.int 1, .int 2, .int 3]
def aboutOver (below : List Frame) : State where
  vm := { classes := classes, interned := interned.toArray }
  heap := heap
  slotsUsed := slotsUsed
  threads := #[{ frames := .invoking theMethod args0 :: below }]
def below0 : List Frame := [.native { method := ⟨0, 0⟩, args := #[] }]
def about1 : State := aboutOver below0
def p0 : Program := .bare "" "" ""
def e0 : Env := launch0.env 0 0 0
theorem w_frames : about1.frames = Frame.invoking theMethod args0 :: below0 := rfl
set_option maxRecDepth 65536 in
theorem w_args : argsFit about1.vm theMethod args0 = true := by decide +kernel
set_option maxRecDepth 65536 in
theorem w_heap : heapFits about1 = true := by decide +kernel
set_option maxRecDepth 65536 in
theorem w_runnable : about1.curStatus? = some .runnable := by decide +kernel
set_option maxRecDepth 65536 in
theorem w_alone : about1.alone = true := by decide +kernel
set_option maxRecDepth 65536 in
theorem w_named : about1.methodNamed? x = some theMethod := by decide +kernel
set_option maxRecDepth 65536 in
theorem w_hears : about1.hears theMethod below0 = true := by decide +kernel
set_option maxRecDepth 65536 in
theorem w_ripe : about1.ripe theMethod args0 below0 = true := by decide +kernel
theorem w_running : about1.status = .running := rfl
set_option maxRecDepth 65536 in
theorem w_room : about1.hasRoom e0.platform room_1 = true :=
  launch0.hasRoom_least _ room_1 (by decide +kernel) (by decide +kernel) (by decide +kernel) (by decide +kernel) (by decide +kernel) (by decide +kernel)
theorem allAtoms_all (ts : List Jvm.Cond) (a : Array Jvm.Value) (st : Jvm.State) : (allAtoms ts).before a st = ts.all (fun c => c.before a st) := by
  induction ts with
  | nil => rfl
  | cons c t ih =>
    show (Jvm.Cond.and c (allAtoms t)).before a st = _
    rw [Jvm.Cond.before_and, ih, List.all_cons]
def words1 : List Jvm.Cond := Jvm.Cond.code x code maxLocals ret :: tables_1
/-- a 'code' word, met by the world's own term for the bytes: nothing is compared byte by byte -/
theorem code_word {y : MethodName} {bytes : ByteArray} {mx : Nat} {rt : Option FieldType} {a : Array Value} {s : State} {m : MethodId} {meth : Method} {c : Code} (h1 : s.methodNamed? y = some m) (h2 : s.vm.method? m = some meth) (h3 : meth.code = some c) (h4 : c.code = bytes)
    (h5 : (c.maxLocals == mx && c.exceptionTable.isEmpty && decide (c.maxStack ≤ mostOperands) && decide (meth.sig.returnType = rt) && !meth.locks && decide (parseMethodDescriptor y.desc = some meth.sig)) = true) : (Jvm.Cond.code y bytes mx rt).before a s = true := by
  simp only [Bool.and_eq_true, beq_iff_eq, Bool.not_eq_true', decide_eq_true_eq] at h5
  obtain ⟨⟨⟨⟨⟨g1, g2⟩, g3⟩, g4⟩, g5⟩, g6⟩ := h5
  simp [Cond.before, Cond.holds, Cond.value, h1, h2, h3, h4, g1, g2, g3, g4, g5, g6]
def isCode : Jvm.Cond → Bool
  | .code _ _ _ _ => true
  | _ => false
theorem all_split {L : List Jvm.Cond} {P : Jvm.Cond → Bool} (h1 : L.all (fun c => isCode c || P c) = true) (h2 : ∀ c ∈ L.filter isCode, P c = true) : L.all P = true := by
  refine List.all_eq_true.mpr fun c hc => ?_
  have h := List.all_eq_true.mp h1 c hc
  rcases Bool.eq_false_or_eq_true (isCode c) with hi | hi
  · exact h2 c (List.mem_filter.mpr ⟨hc, hi⟩)
  · simpa [hi] using h
set_option maxRecDepth 65536 in
theorem w_c0 : (Jvm.Cond.code x code maxLocals ret).before args0 about1 = true := code_word (m := ⟨1, 1⟩) (meth := k1m1) (c := k1c1) (by decide +kernel) rfl rfl rfl (by decide +kernel)
set_option maxRecDepth 65536 in
theorem w_c1 : (Jvm.Cond.code ({ cls := "com/example/lapwing/lapwing/profile/RuleViolationErrorPinLaw", name := "pick", desc := "(ICC)Ljava/lang/String;" } : Jvm.MethodName) method_3_code (4 : Nat) (Option.some (Jvm.ClassFile.FieldType.object "java/lang/String"))).before args0 about1 = true := code_word (m := ⟨1, 2⟩) (meth := k1m2) (c := k1c2) (by decide +kernel) rfl rfl rfl (by decide +kernel)
set_option maxRecDepth 65536 in
theorem w_c2 : (Jvm.Cond.code ({ cls := "java/lang/String", name := "valueOf", desc := "(C)Ljava/lang/String;" } : Jvm.MethodName) jdk_42_method_139_code (1 : Nat) (Option.some (Jvm.ClassFile.FieldType.object "java/lang/String"))).before args0 about1 = true := code_word (m := ⟨7, 3⟩) (meth := k7m3) (c := k7c3) (by decide +kernel) rfl rfl rfl (by decide +kernel)
set_option maxRecDepth 65536 in
theorem w_c3 : (Jvm.Cond.code ({ cls := "java/lang/StringLatin1", name := "canEncode", desc := "(C)Z" } : Jvm.MethodName) jdk_43_method_3_code (1 : Nat) (Option.some Jvm.ClassFile.FieldType.boolean)).before args0 about1 = true := code_word (m := ⟨8, 1⟩) (meth := k8m1) (c := k8c1) (by decide +kernel) rfl rfl rfl (by decide +kernel)
set_option maxRecDepth 65536 in
theorem w_c4 : (Jvm.Cond.code ({ cls := "java/lang/StringLatin1", name := "toBytes", desc := "(C)[B" } : Jvm.MethodName) jdk_43_method_46_code (1 : Nat) (Option.some (Jvm.ClassFile.FieldType.array Jvm.ClassFile.FieldType.byte))).before args0 about1 = true := code_word (m := ⟨8, 2⟩) (meth := k8m2) (c := k8c2) (by decide +kernel) rfl rfl rfl (by decide +kernel)
set_option maxRecDepth 65536 in
theorem w_c5 : (Jvm.Cond.code ({ cls := "java/lang/String", name := "<init>", desc := "([BB)V" } : Jvm.MethodName) jdk_42_method_151_code (3 : Nat) (Option.none : Option Jvm.ClassFile.FieldType)).before args0 about1 = true := code_word (m := ⟨7, 5⟩) (meth := k7m5) (c := k7c5) (by decide +kernel) rfl rfl rfl (by decide +kernel)
set_option maxRecDepth 65536 in
theorem w_c6 : (Jvm.Cond.code ({ cls := "java/lang/Object", name := "<init>", desc := "()V" } : Jvm.MethodName) object_method_1_code (1 : Nat) (Option.none : Option Jvm.ClassFile.FieldType)).before args0 about1 = true := code_word (m := ⟨0, 0⟩) (meth := k0m0) (c := k0c0) (by decide +kernel) rfl rfl rfl (by decide +kernel)
set_option maxRecDepth 65536 in
theorem w_c7 : (Jvm.Cond.code ({ cls := "com/example/lapwing/lapwing/profile/RuleViolation", name := "error", desc := "(Ljava/lang/String;Ljava/lang/String;)Lcom/example/lapwing/lapwing/profile/RuleViolation;" } : Jvm.MethodName) prog_38_method_2_code (2 : Nat) (Option.some (Jvm.ClassFile.FieldType.object "com/example/lapwing/lapwing/profile/RuleViolation"))).before args0 about1 = true := code_word (m := ⟨10, 1⟩) (meth := k10m1) (c := k10c1) (by decide +kernel) rfl rfl rfl (by decide +kernel)
set_option maxRecDepth 65536 in
theorem w_c8 : (Jvm.Cond.code ({ cls := "com/example/lapwing/lapwing/profile/RuleViolation", name := "<init>", desc := "(Lcom/example/lapwing/lapwing/profile/RuleViolation$Severity;Ljava/lang/String;Ljava/lang/String;)V" } : Jvm.MethodName) prog_38_method_1_code (4 : Nat) (Option.none : Option Jvm.ClassFile.FieldType)).before args0 about1 = true := code_word (m := ⟨10, 0⟩) (meth := k10m0) (c := k10c0) (by decide +kernel) rfl rfl rfl (by decide +kernel)
set_option maxRecDepth 65536 in
theorem w_c9 : (Jvm.Cond.code ({ cls := "java/lang/Record", name := "<init>", desc := "()V" } : Jvm.MethodName) jdk_30_method_1_code (1 : Nat) (Option.none : Option Jvm.ClassFile.FieldType)).before args0 about1 = true := code_word (m := ⟨9, 0⟩) (meth := k9m0) (c := k9c0) (by decide +kernel) rfl rfl rfl (by decide +kernel)
set_option maxRecDepth 65536 in
theorem w_c10 : (Jvm.Cond.code ({ cls := "com/example/lapwing/lapwing/profile/RuleViolation", name := "severity", desc := "()Lcom/example/lapwing/lapwing/profile/RuleViolation$Severity;" } : Jvm.MethodName) prog_38_method_7_code (1 : Nat) (Option.some (Jvm.ClassFile.FieldType.object "com/example/lapwing/lapwing/profile/RuleViolation$Severity"))).before args0 about1 = true := code_word (m := ⟨10, 2⟩) (meth := k10m2) (c := k10c2) (by decide +kernel) rfl rfl rfl (by decide +kernel)
set_option maxRecDepth 65536 in
theorem w_c11 : (Jvm.Cond.code ({ cls := "com/example/lapwing/lapwing/profile/RuleViolation", name := "path", desc := "()Ljava/lang/String;" } : Jvm.MethodName) prog_38_method_8_code (1 : Nat) (Option.some (Jvm.ClassFile.FieldType.object "java/lang/String"))).before args0 about1 = true := code_word (m := ⟨10, 3⟩) (meth := k10m3) (c := k10c3) (by decide +kernel) rfl rfl rfl (by decide +kernel)
set_option maxRecDepth 65536 in
theorem w_c12 : (Jvm.Cond.code ({ cls := "com/example/lapwing/lapwing/profile/RuleViolationErrorPinLaw", name := "same", desc := "(Ljava/lang/String;Ljava/lang/String;)Z" } : Jvm.MethodName) method_4_code (2 : Nat) (Option.some Jvm.ClassFile.FieldType.boolean)).before args0 about1 = true := code_word (m := ⟨1, 3⟩) (meth := k1m3) (c := k1c3) (by decide +kernel) rfl rfl rfl (by decide +kernel)
set_option maxRecDepth 65536 in
theorem w_c13 : (Jvm.Cond.code ({ cls := "java/lang/String", name := "equals", desc := "(Ljava/lang/Object;)Z" } : Jvm.MethodName) jdk_42_method_66_code (3 : Nat) (Option.some Jvm.ClassFile.FieldType.boolean)).before args0 about1 = true := code_word (m := ⟨7, 2⟩) (meth := k7m2) (c := k7c2) (by decide +kernel) rfl rfl rfl (by decide +kernel)
set_option maxRecDepth 65536 in
theorem w_c14 : (Jvm.Cond.code ({ cls := "com/example/lapwing/lapwing/profile/RuleViolation", name := "message", desc := "()Ljava/lang/String;" } : Jvm.MethodName) prog_38_method_9_code (1 : Nat) (Option.some (Jvm.ClassFile.FieldType.object "java/lang/String"))).before args0 about1 = true := code_word (m := ⟨10, 4⟩) (meth := k10m4) (c := k10c4) (by decide +kernel) rfl rfl rfl (by decide +kernel)
set_option maxRecDepth 65536 in
theorem w_c15 : (Jvm.Cond.code ({ cls := "java/lang/String", name := "<init>", desc := "([C)V" } : Jvm.MethodName) jdk_42_method_3_code (2 : Nat) (Option.none : Option Jvm.ClassFile.FieldType)).before args0 about1 = true := code_word (m := ⟨7, 1⟩) (meth := k7m1) (c := k7c1) (by decide +kernel) rfl rfl rfl (by decide +kernel)
set_option maxRecDepth 65536 in
theorem w_c16 : (Jvm.Cond.code ({ cls := "java/lang/String", name := "<init>", desc := "([CIILjava/lang/Void;)V" } : Jvm.MethodName) jdk_42_method_149_code (6 : Nat) (Option.none : Option Jvm.ClassFile.FieldType)).before args0 about1 = true := code_word (m := ⟨7, 4⟩) (meth := k7m4) (c := k7c4) (by decide +kernel) rfl rfl rfl (by decide +kernel)
set_option maxRecDepth 65536 in
theorem w_c17 : (Jvm.Cond.code ({ cls := "java/lang/StringUTF16", name := "compress", desc := "([CII)[B" } : Jvm.MethodName) jdk_52_method_16_code (6 : Nat) (Option.some (Jvm.ClassFile.FieldType.array Jvm.ClassFile.FieldType.byte))).before args0 about1 = true := code_word (m := ⟨13, 2⟩) (meth := k13m2) (c := k13c2) (by decide +kernel) rfl rfl rfl (by decide +kernel)
set_option maxRecDepth 65536 in
theorem w_c18 : (Jvm.Cond.code ({ cls := "java/lang/StringUTF16", name := "compress", desc := "([CI[BII)I" } : Jvm.MethodName) jdk_52_method_21_code (7 : Nat) (Option.some Jvm.ClassFile.FieldType.int)).before args0 about1 = true := code_word (m := ⟨13, 3⟩) (meth := k13m3) (c := k13c3) (by decide +kernel) rfl rfl rfl (by decide +kernel)
set_option maxRecDepth 65536 in
theorem w_c19 : (Jvm.Cond.code ({ cls := "java/lang/StringUTF16", name := "coderFromArrayLen", desc := "([BI)B" } : Jvm.MethodName) jdk_52_method_15_code (2 : Nat) (Option.some Jvm.ClassFile.FieldType.byte)).before args0 about1 = true := code_word (m := ⟨13, 1⟩) (meth := k13m1) (c := k13c1) (by decide +kernel) rfl rfl rfl (by decide +kernel)
def codes1 : List Jvm.Cond := [Jvm.Cond.code x code maxLocals ret, Jvm.Cond.code ({ cls := "com/example/lapwing/lapwing/profile/RuleViolationErrorPinLaw", name := "pick", desc := "(ICC)Ljava/lang/String;" } : Jvm.MethodName) method_3_code (4 : Nat) (Option.some (Jvm.ClassFile.FieldType.object "java/lang/String")), Jvm.Cond.code ({ cls := "java/lang/String", name := "valueOf", desc := "(C)Ljava/lang/String;" } : Jvm.MethodName) jdk_42_method_139_code (1 : Nat) (Option.some (Jvm.ClassFile.FieldType.object "java/lang/String")), Jvm.Cond.code ({ cls := "java/lang/StringLatin1", name := "canEncode", desc := "(C)Z" } : Jvm.MethodName) jdk_43_method_3_code (1 : Nat) (Option.some Jvm.ClassFile.FieldType.boolean), Jvm.Cond.code ({ cls := "java/lang/StringLatin1", name := "toBytes", desc := "(C)[B" } : Jvm.MethodName) jdk_43_method_46_code (1 : Nat) (Option.some (Jvm.ClassFile.FieldType.array Jvm.ClassFile.FieldType.byte)), Jvm.Cond.code ({ cls := "java/lang/String", name := "<init>", desc := "([BB)V" } : Jvm.MethodName) jdk_42_method_151_code (3 : Nat) (Option.none : Option Jvm.ClassFile.FieldType), Jvm.Cond.code ({ cls := "java/lang/Object", name := "<init>", desc := "()V" } : Jvm.MethodName) object_method_1_code (1 : Nat) (Option.none : Option Jvm.ClassFile.FieldType), Jvm.Cond.code ({ cls := "com/example/lapwing/lapwing/profile/RuleViolation", name := "error", desc := "(Ljava/lang/String;Ljava/lang/String;)Lcom/example/lapwing/lapwing/profile/RuleViolation;" } : Jvm.MethodName) prog_38_method_2_code (2 : Nat) (Option.some (Jvm.ClassFile.FieldType.object "com/example/lapwing/lapwing/profile/RuleViolation")), Jvm.Cond.code ({ cls := "com/example/lapwing/lapwing/profile/RuleViolation", name := "<init>", desc := "(Lcom/example/lapwing/lapwing/profile/RuleViolation$Severity;Ljava/lang/String;Ljava/lang/String;)V" } : Jvm.MethodName) prog_38_method_1_code (4 : Nat) (Option.none : Option Jvm.ClassFile.FieldType), Jvm.Cond.code ({ cls := "java/lang/Record", name := "<init>", desc := "()V" } : Jvm.MethodName) jdk_30_method_1_code (1 : Nat) (Option.none : Option Jvm.ClassFile.FieldType), Jvm.Cond.code ({ cls := "com/example/lapwing/lapwing/profile/RuleViolation", name := "severity", desc := "()Lcom/example/lapwing/lapwing/profile/RuleViolation$Severity;" } : Jvm.MethodName) prog_38_method_7_code (1 : Nat) (Option.some (Jvm.ClassFile.FieldType.object "com/example/lapwing/lapwing/profile/RuleViolation$Severity")), Jvm.Cond.code ({ cls := "com/example/lapwing/lapwing/profile/RuleViolation", name := "path", desc := "()Ljava/lang/String;" } : Jvm.MethodName) prog_38_method_8_code (1 : Nat) (Option.some (Jvm.ClassFile.FieldType.object "java/lang/String")), Jvm.Cond.code ({ cls := "com/example/lapwing/lapwing/profile/RuleViolationErrorPinLaw", name := "same", desc := "(Ljava/lang/String;Ljava/lang/String;)Z" } : Jvm.MethodName) method_4_code (2 : Nat) (Option.some Jvm.ClassFile.FieldType.boolean), Jvm.Cond.code ({ cls := "java/lang/String", name := "equals", desc := "(Ljava/lang/Object;)Z" } : Jvm.MethodName) jdk_42_method_66_code (3 : Nat) (Option.some Jvm.ClassFile.FieldType.boolean), Jvm.Cond.code ({ cls := "com/example/lapwing/lapwing/profile/RuleViolation", name := "message", desc := "()Ljava/lang/String;" } : Jvm.MethodName) prog_38_method_9_code (1 : Nat) (Option.some (Jvm.ClassFile.FieldType.object "java/lang/String")), Jvm.Cond.code ({ cls := "java/lang/String", name := "<init>", desc := "([C)V" } : Jvm.MethodName) jdk_42_method_3_code (2 : Nat) (Option.none : Option Jvm.ClassFile.FieldType), Jvm.Cond.code ({ cls := "java/lang/String", name := "<init>", desc := "([CIILjava/lang/Void;)V" } : Jvm.MethodName) jdk_42_method_149_code (6 : Nat) (Option.none : Option Jvm.ClassFile.FieldType), Jvm.Cond.code ({ cls := "java/lang/StringUTF16", name := "compress", desc := "([CII)[B" } : Jvm.MethodName) jdk_52_method_16_code (6 : Nat) (Option.some (Jvm.ClassFile.FieldType.array Jvm.ClassFile.FieldType.byte)), Jvm.Cond.code ({ cls := "java/lang/StringUTF16", name := "compress", desc := "([CI[BII)I" } : Jvm.MethodName) jdk_52_method_21_code (7 : Nat) (Option.some Jvm.ClassFile.FieldType.int), Jvm.Cond.code ({ cls := "java/lang/StringUTF16", name := "coderFromArrayLen", desc := "([BI)B" } : Jvm.MethodName) jdk_52_method_15_code (2 : Nat) (Option.some Jvm.ClassFile.FieldType.byte)]
set_option maxRecDepth 65536 in
theorem codes_eq : words1.filter isCode = codes1 := rfl
theorem w_codes : ∀ c ∈ words1.filter isCode, c.before args0 about1 = true := by
  rw [codes_eq]
  intro c hc
  simp only [codes1, List.mem_cons, List.not_mem_nil, or_false] at hc
  rcases hc with rfl | rfl | rfl | rfl | rfl | rfl | rfl | rfl | rfl | rfl | rfl | rfl | rfl | rfl | rfl | rfl | rfl | rfl | rfl | rfl
  · exact w_c0
  · exact w_c1
  · exact w_c2
  · exact w_c3
  · exact w_c4
  · exact w_c5
  · exact w_c6
  · exact w_c7
  · exact w_c8
  · exact w_c9
  · exact w_c10
  · exact w_c11
  · exact w_c12
  · exact w_c13
  · exact w_c14
  · exact w_c15
  · exact w_c16
  · exact w_c17
  · exact w_c18
  · exact w_c19
set_option maxRecDepth 65536 in
theorem w_t1 : (words1.take 24).all (fun c => isCode c || c.before args0 about1) = true := by decide +kernel
set_option maxRecDepth 65536 in
theorem w_t2 : ((words1.drop 24).take 24).all (fun c => isCode c || c.before args0 about1) = true := by decide +kernel
set_option maxRecDepth 65536 in
theorem w_t3 : (((words1.drop 24).drop 24).take 24).all (fun c => isCode c || c.before args0 about1) = true := by decide +kernel
set_option maxRecDepth 65536 in
theorem w_t4 : ((((words1.drop 24).drop 24).drop 24).take 24).all (fun c => isCode c || c.before args0 about1) = true := by decide +kernel
set_option maxRecDepth 65536 in
theorem w_t5 : ((((words1.drop 24).drop 24).drop 24).drop 24).all (fun c => isCode c || c.before args0 about1) = true := by decide +kernel
theorem w_tables : (allAtoms (Jvm.Cond.code x code maxLocals ret :: tables_1)).before args0 about1 = true := by
  rw [allAtoms_all]
  show words1.all (fun c => c.before args0 about1) = true
  refine all_split ?_ w_codes
  rw [← List.take_append_drop 24 words1, List.all_append, w_t1, ← List.take_append_drop 24 (words1.drop 24), List.all_append, w_t2, ← List.take_append_drop 24 ((words1.drop 24).drop 24), List.all_append, w_t3, ← List.take_append_drop 24 (((words1.drop 24).drop 24).drop 24), List.all_append, w_t4, w_t5]
  rfl
set_option maxRecDepth 65536 in
theorem w_rest : rest_1_c.before args0 about1 = true := by decide +kernel
set_option maxRecDepth 65536 in
theorem w_case : (Jvm.Cond.and given_1 narrow_1).before args0 about1 = true := by decide +kernel
set_option maxRecDepth 65536 in
theorem w_consts : constsHeld consts_1 about1 := Jvm.Lit.constsHeldB_iff.mp (by decide +kernel)
theorem w_applies : (headSpec (Jvm.Cond.code x code maxLocals ret :: tables_1) room_1).applies x e0.platform about1 = true :=
  (Spec.applies_iff w_frames).mpr ⟨w_running, w_runnable, w_alone, w_named, w_hears, w_ripe, w_room, w_tables⟩
theorem atStart : AtStart classFile x code maxLocals ret World_1 tables_1 room_1 Calls_1 rest_1 Pre_1 launch0 p0 e0 about1 theMethod args0 below0 :=
  ⟨lists_1, trivial, launch0.admits_env _ _ _, launch0.least_env, fairChoices_fair.cas, fairChoices_fair.clock, w_frames, w_args, w_heap, w_applies, ⟨w_consts, trivial⟩, w_rest, w_case⟩
end start1
theorem witness_1 : WitnessClaimed_1 := ⟨start1.p0, start1.e0, start1.about1, start1.theMethod, start1.args0, start1.below0, start1.atStart⟩
end Jvm.Pilot.@@N@@
