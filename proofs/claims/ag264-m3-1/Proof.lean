import JvmDerived
import JvmDerived.Pilot.@@N@@Statement
import JvmDerived.Pilot.@@N@@Code
set_option linter.unusedVariables false
set_option linter.unusedSimpArgs false
namespace Jvm.Pilot.@@N@@
open Jvm Jvm.ClassFile Sem Op Lib Jvm.Free Jvm.Stand Jvm.LawKit Jvm.RoadKit Bundle Jvm.Pilot.@@N@@.Jvm.D

/-- the run that stands at T with the top frame f ends, and its end is as P says -/
def Go (p : Program) (e : Env) (below : List Frame) (P : Outcome → State → Prop) (T : State) (f : JFrame) : Prop :=
  ∃ s₂ o, Steps p.tables e below (T.setTop f) s₂ ∧ s₂.status = .running ∧ Ended s₂ below o ∧ P o s₂
theorem Go.st {p : Program} {e : Env} {below : List Frame} {P : Outcome → State → Prop} {T T' : State} {f f' : JFrame}
    (h : ∀ t, Steps p.tables e below (T'.setTop f') t → Steps p.tables e below (T.setTop f) t) (k : Go p e below P T' f') : Go p e below P T f := by
  obtain ⟨s₂, o, a, b⟩ := k
  exact ⟨s₂, o, h _ a, b⟩
theorem Go.tr {p : Program} {e : Env} {below : List Frame} {P : Outcome → State → Prop} {T T' : State} {f f' : JFrame}
    (h : Steps p.tables e below (T.setTop f) (T'.setTop f')) (k : Go p e below P T' f') : Go p e below P T f := by
  obtain ⟨s₂, o, a, b⟩ := k
  exact ⟨s₂, o, h.trans a, b⟩
/-- what a contract says of the end -/
abbrev Done (s : State) (Q : Option Value → Heap → List Loc → Prop) (C S : Nat) (o : Outcome) (U' : State) : Prop :=
  ∃ v L, o = .returned v ∧ Q v U'.heap L ∧ FrameEnd s o U' L C S
theorem Go.ret {p : Program} {l : Launch} {e : Env} {R : Room} {s : State} {m : MethodId} {args : Array Value} {below : List Frame} {meth : Method} {c : Code} {T : State} {locs : List Loc} {cells slots : Nat} {h : Heap}
    {Q : Option Value → Heap → List Loc → Prop} {C S : Nat} {v : Option Value} {f : JFrame}
    (X : Stand p l e R s m args below meth c T locs cells slots) (hlk : meth.locks = false) (hv : meth.sig.returnType = none → v = none)
    (hs : ∀ fs, (∀ (f : JFrame) (acts : List Action), f.method = m → f.locked = none → f.entered = [] → (doReturn e (T.setTop f) acts v).1 = T.setFrames fs) → Steps p.tables e below (T.setTop f) (T.setFrames fs))
    (eT : T.heap = h) (hQ : Q v h locs) (hc : cells ≤ C) (hl : slots ≤ S) : Go p e below (Done s Q C S) T f := by
  obtain ⟨fs, hr, hrun, hended, hW, hsame⟩ := X.leave (v := v) hv hlk
  refine ⟨_, _, hs fs hr, hrun, hended, v, locs, rfl, ?_, ⟨_, rfl⟩, hW, hsame.mono hc hl⟩
  show Q v T.heap locs
  rw [eT]; exact hQ
theorem Go.retB {p : Program} {l : Launch} {e : Env} {R : Room} {s : State} {m : MethodId} {args : Array Value} {below : List Frame} {meth : Method} {c : Code} {T : State} {locs : List Loc} {cells slots : Nat} {h : Heap}
    {Q : Option Value → Heap → List Loc → Prop} {C S : Nat} {pc : Nat} {Ls : Array Slot} {z : Int32} {rest : List Value} {t : FieldType}
    (X : Stand p l e R s m args below meth c T locs cells slots) (hlk : meth.locks = false) (hx : p.tables.exec = Jvm.exec) (hret : meth.sig.returnType = some t) (ht : t = .boolean ∨ t = .byte ∨ t = .char ∨ t = .short)
    (hd : decode c.code pc = .ok (.ireturn, 1)) (eT : T.heap = h) (hQ : Q (some (.int (nar t z))) h locs) (hc : cells ≤ C) (hl : slots ≤ S) : Go p e below (Done s Q C S) T (mkF m pc Ls (.int z :: rest)) :=
  Go.ret X hlk (fun h => by rw [hret] at h; cases h) (fun _ hr => retN X hx hret ht hd hr) eT hQ hc hl
theorem Go.retV {p : Program} {l : Launch} {e : Env} {R : Room} {s : State} {m : MethodId} {args : Array Value} {below : List Frame} {meth : Method} {c : Code} {T : State} {locs : List Loc} {cells slots : Nat} {h : Heap}
    {Q : Option Value → Heap → List Loc → Prop} {C S : Nat} {pc : Nat} {Ls : Array Slot} {w : Value} {rest : List Value} {t : FieldType} {i : Instr}
    (X : Stand p l e R s m args below meth c T locs cells slots) (hlk : meth.locks = false) (hx : p.tables.exec = Jvm.exec) (hret : meth.sig.returnType = some t) (hn : narrow t w = w)
    (hi : (i = .ireturn ∧ (t = .int ∨ t = .boolean ∨ t = .byte ∨ t = .char ∨ t = .short) ∧ ∃ z, w = .int z) ∨ (i = .lreturn ∧ t = .long ∧ ∃ z, w = .long z) ∨ (i = .dreturn ∧ t = .double ∧ ∃ z, w = .double z) ∨ (i = .freturn ∧ t = .float ∧ ∃ z, w = .float z) ∨ (i = .areturn ∧ t.isReference = true ∧ w.isRef = true))
    (hd : decode c.code pc = .ok (i, 1)) (eT : T.heap = h) (hQ : Q (some w) h locs) (hc : cells ≤ C) (hl : slots ≤ S) : Go p e below (Done s Q C S) T (mkF m pc Ls (w :: rest)) :=
  Go.ret X hlk (fun h => by rw [hret] at h; cases h) (fun _ hr => retOut X hx hret hn hi hd hr) eT hQ hc hl
theorem Go.ret0 {p : Program} {l : Launch} {e : Env} {R : Room} {s : State} {m : MethodId} {args : Array Value} {below : List Frame} {meth : Method} {c : Code} {T : State} {locs : List Loc} {cells slots : Nat} {h : Heap}
    {Q : Option Value → Heap → List Loc → Prop} {C S : Nat} {pc : Nat} {Ls : Array Slot}
    (X : Stand p l e R s m args below meth c T locs cells slots) (hlk : meth.locks = false) (hx : p.tables.exec = Jvm.exec) (hret : meth.sig.returnType = none)
    (hd : decode c.code pc = .ok (.return_, 1)) (eT : T.heap = h) (hQ : Q none h locs) (hc : cells ≤ C) (hl : slots ≤ S) : Go p e below (Done s Q C S) T (mkF m pc Ls []) :=
  Go.ret X hlk (fun _ => rfl) (fun _ hr => X.returnOut hx hret hd hr) eT hQ hc hl
/-- an entry that stands resolved stays so, also where String constants are loaded -/
theorem own_fieldRef {Z : State} {vm1 : Vm} {a0 : Array Value} {own O n d : String} {index : Nat} (hW : Z.Warmed39 vm1) (w : (Cond.fieldRef own index O n d).before a0 Z = true) : (Cond.fieldRef own index O n d).before a0 (Z.setVm vm1) = true := by
  simp only [Cond.before, Cond.holds, Cond.value, State.vm_setVm, hW.alike.findClass, State.names_setVm hW.alike] at w ⊢
  cases q1 : Z.vm.findClass own with
  | none => rw [q1] at w; simp at w
  | some cO =>
    cases q2 : Z.fieldFound? O n d with
    | none => rw [q1, q2] at w; simp at w
    | some z =>
      obtain ⟨c1, k1, i1, f1⟩ := z
      obtain ⟨k2, q3, -⟩ := State.fieldFound?_setVm hW.alike q2
      rw [q1, q2] at w
      rw [q3]
      cases q4 : Z.resolvedAt? own index with
      | none => rw [q4] at w; simp at w
      | some r => rw [State.resolvedAt?_warmed39 hW q4]; rw [q4] at w; exact w
/-- getfield through an entry that stands resolved at the start (the word fieldRef) -/
theorem own_getR {p : Program} {l : Launch} {e : Env} {R : Room} {s : State} {m : MethodId} {args : Array Value} {below : List Frame} {meth : Method} {c : Code} {T : State} {locs : List Loc} {cells slots : Nat} {Z : State} {a0 : Array Value} {h : Heap}
    (X : Stand p l e R s m args below meth c T locs cells slots) (hx : p.tables.exec = Jvm.exec) (hZ : Z.Warmed39 s.vm) {own O n d : String} {index : Nat} (hown : s.vm.findClass own = some m.cls) (w : (Cond.fieldRef own index O n d).before a0 Z = true)
    (eT : T.heap = h) {a : Addr} {v : Value} (F : Fld Z h a O n d v) {g : JFrame} (hg : g.method = m) {rest : List Value} (hs : g.stack = .ref a :: rest) (hd : decode c.code g.pc = .ok (.getfield index, 3)) :
    ∃ T', Stand p l e R s m args below meth c T' locs cells slots ∧ T'.heap = h ∧ ∀ target, Steps p.tables e below (T'.setTop { g with pc := g.pc + 3, stack := v :: rest }) target → Steps p.tables e below (T.setTop g) target := by
  obtain ⟨cell, cf, k, i, f, h1, h2, h3, h4, -, -, h7⟩ := F
  have w1 : (Cond.fieldRef own index O n d).before args s = true := (own_fieldRef hZ w : (Cond.fieldRef own index O n d).before a0 (Z.setVm s.vm) = true)
  have w2 := Cond.fieldRef_warmed X.warmed w1
  obtain ⟨k1, r1, -⟩ := State.fieldFound?_setVm (s := Z) hZ.alike h2
  obtain ⟨k2, r2, -⟩ := State.fieldFound?_setVm (s := s) X.warmed.alike (show s.fieldFound? O n d = _ from r1)
  obtain ⟨c', k', i', f', q1, q2⟩ := Cond.fieldRef_spec (s := s.setVm T.vm) (cur := m.cls) (by rw [State.vm_setVm, X.warmed.alike.findClass]; exact hown) w2
  cases q1.symm.trans r2
  exact ⟨T, X, eT, fun target k => (X.getfieldR hx hg q2 h3 hs (by rw [eT]; exact h1) h4 h7 hd (Steps.refl _)).trans k⟩
/-- the form of every contract here -/
def Con (l : Launch) (Z : State) (y : MethodName) (bytes : ByteArray) (ml : Nat) (ret : Option FieldType) (ws : List Jvm.Cond) (room : Room) (A : Array Value) (h0 : Heap) (Q : Option Value → Heap → List Loc → Prop) : Prop :=
  MetFree l y (head1 (Jvm.Cond.code y bytes ml ret :: ws) room) (fun a U => a = A ∧ Z.Warmed39 U.vm ∧ U.heap = h0) (fun _ _ _ _ _ => True) (fun _ U o U' => ∃ v L, o = .returned v ∧ Q v U'.heap L ∧ FrameEnd U o U' L room.cells room.slots)
theorem own_body {l : Launch} {Z : State} {y : MethodName} {bytes : ByteArray} {ml : Nat} {ret : Option FieldType} {ws : List Jvm.Cond} {room : Room} {A : Array Value} {h0 : Heap} {Q : Option Value → Heap → List Loc → Prop} (hpn : plainFor y = true)
    (body : ∀ (p : Program) (e : Env) (s : State) (m : MethodId) (below : List Frame) (meth : Method) (c : Code) (s₁ : State), p.tables.exec = Jvm.exec → c.code = bytes → c.maxLocals = ml → Z.Warmed39 s.vm → s.vm.findClass y.cls = some m.cls → meth.name = y.name → meth.locks = false → meth.sig.returnType = ret →
      Stand p l e room s m A below meth c s₁ [] 0 0 → s₁.heap = h0 → Go p e below (Done s Q room.cells room.slots) s₁ (entryFrame m A ml)) : Con l Z y bytes ml ret ws room A h0 Q := by
  refine MetFree.of_bodySF hpn hisR ?_
  intro p e s m args below meth c s₁ Bd hml0 hP hK
  obtain ⟨rfl, hZ, hh⟩ := hP
  exact body p e s m below meth c s₁ Bd.exec Bd.bytes hml0 hZ (findClass_of_methodNamed Bd.named) (name_of_methodNamed Bd.named Bd.method).1 Bd.notSynchronized Bd.returns (Stand.of_body Bd) (by rw [← hh, Bd.state]; rfl)
theorem own_back {l : Launch} {R : Room} {p : Program} {e : Env} {below : List Frame} {s Z : State} {args a0 : Array Value} {h : Heap} {y : MethodName} {bytes : ByteArray} {maxL : Nat} {ret : Option FieldType} {rm : Room} {len W : Nat} {as' : Array Value} {Q : Option Value → Heap → List Loc → Prop}
    (hM : Con l Z y bytes maxL ret [] rm as' h Q) (hZ : Z.Warmed39 s.vm) (wc : (Cond.code y bytes maxL ret).before a0 Z = true) (wz : (Cond.initialized y.cls).before a0 Z = true) (hf : rm.frames + 1 ≤ R.frames) (hl : W + (maxL + 11) + rm.locals ≤ R.locals) :
    Back l R p e below s args y len W (fun A a => a = as' ∧ A.U.heap = h ∧ A.cells + rm.cells ≤ R.cells ∧ A.slots + rm.slots ≤ R.slots)
      (fun A _ v B => ∃ L, Q v B.U.heap L ∧ B.locs = A.locs ++ L ∧ B.cells = A.cells + rm.cells ∧ B.slots = A.slots + rm.slots) := backOf (Q := Q) hM hZ wc wz hf hl
theorem Con.weaken {l : Launch} {Z : State} {y : MethodName} {bytes : ByteArray} {ml : Nat} {ret : Option FieldType} {ws : List Jvm.Cond} {room : Room} {A : Array Value} {h0 : Heap} {Q Q' : Option Value → Heap → List Loc → Prop} (h : Con l Z y bytes ml ret ws room A h0 Q) (hq : ∀ v h L, Q v h L → Q' v h L) : Con l Z y bytes ml ret ws room A h0 Q' := fun p e h1 h2 h3 s m args below hf happ hP hK => by
  obtain ⟨n, o, a, b, c, v, L, d, e, f⟩ := h p e h1 h2 h3 s m args below hf happ hP hK
  exact ⟨n, o, a, b, c, v, L, d, hq _ _ _ e, f⟩
theorem own_cat {v : Value} (h : v.isRef = true) : v.category = 1 := by cases v <;> first | rfl | (simp [Value.isRef] at h)
theorem acYes {c : ClassFile.ACond} {x y : Value} (h : x = y) : acV c (decide (x = y)) = acV c true := by rw [decide_eq_true h]

theorem own_weaken {l : Launch} {x : MethodName} {S : Spec} {P : Array Value → State → Prop} {K : Program → Env → List Frame → State → Array Value → Prop} {Q Q' : Array Value → State → Outcome → State → Prop} (h : MetFree l x S P K Q) (hq : ∀ a s o t, Q a s o t → Q' a s o t) : MetFree l x S P K Q' := fun p e h1 h2 h3 s m args below hf happ hP hK => by
  obtain ⟨n, o, a, b, c, d⟩ := h p e h1 h2 h3 s m args below hf happ hP hK
  exact ⟨n, o, a, b, c, hq _ _ _ _ d⟩
section Start
variable {args : Array Value} {first s : State} {o : Option Outcome} {idx : List Nat} {t u : Term}
theorem own_eq_int {k : Int32} (h : (Jvm.Cond.eq t (.int k)).value args first o s idx = some true) : t.eval args first o idx s = some (.int k) := by
  simp only [Cond.value, Term.eval] at h
  cases ht : t.eval args first o idx s with
  | none => simp [ht] at h
  | some x => cases x <;> simp [ht] at h ⊢ <;> exact h
theorem own_eq_ref {a : Addr} (h : (Jvm.Cond.eq t u).value args first o s idx = some true) (hu : u.eval args first o idx s = some (.ref a)) : t.eval args first o idx s = some (.ref a) := by
  simp only [Cond.value] at h
  rw [hu] at h
  cases ht : t.eval args first o idx s with
  | none => simp [ht] at h
  | some x => cases x <;> simp [ht] at h ⊢ <;> exact h
theorem own_len {a : Addr} {cl : Cell} {z : Int32} (h : (Term.length t).eval args first o idx s = some (.int z)) (ht : t.eval args first o idx s = some (.ref a)) (hc : s.heap[a]? = some cl) : cl.slots.size < 2 ^ 31 ∧ cl.slots.size.toInt32 = z := by
  obtain ⟨a', cell, e1, e2, e3⟩ := Term.length_spec h
  cases ht.symm.trans e1
  have e4 := (State.arrayAt?_spec e2).1
  cases hc.symm.trans e4
  refine ⟨?_, (Value.int.inj e3).symm⟩
  by_cases hn : cl.slots.size < 2147483648
  · exact hn
  · simp only [Term.eval, Option.bind_eq_bind, ht, Option.bind_some, e2] at h
    rw [if_neg hn] at h; cases h
theorem own_ne_int {z : Int32} (h : (Jvm.Cond.not (Jvm.Cond.eq t (.int 0))).value args first o s idx = some true) (ht : t.eval args first o idx s = some (.int z)) : ¬ z = 0 := by
  have h1 := not_v h
  intro e
  subst e
  simp [Cond.value, Term.eval, ht] at h1
theorem own_fld {a : Addr} {C n d : String} {k : Int32} (h : (Jvm.Cond.eq (Term.field t C n d) (.int k)).value args s none s [] = some true) (ht : t.eval args s none [] s = some (.ref a)) : Fld s s.heap a C n d (.int k) :=
  Fld.start (by rw [← fld_at ht]; exact own_eq_int h)
theorem own_elem {a : Addr} {cl : Cell} {w : Addr} {j : Int32} {i : Nat} (h : (Jvm.Cond.eq (Term.elem t (.int j)) u).value args s none s [] = some true) (hu : u.eval args s none [] s = some (.ref w)) (ht : t.eval args s none [] s = some (.ref a)) (hc : s.heap[a]? = some cl) (hj : j.toNatClampNeg = i) : cl.slots[i]? = some (.ref w) := by
  subst hj
  exact (elem_in (own_eq_ref h hu) ht rfl hc).2
end Start

/-- what a contract says of the end, where String constants may have been loaded -/
abbrev DoneW (s Z : State) (EL : List (String × Nat)) (Q : Option Value → Heap → List Loc → Prop) (C S : Nat) (o : Outcome) (U' : State) : Prop :=
  ∃ v L, o = .returned v ∧ Q v U'.heap L ∧ CHr Z EL s.vm s.heap U'.vm U'.heap ∧ ReturnedEndW s o U' L C S
theorem GoW.ret {p : Program} {l : Launch} {e : Env} {R : Room} {s Z : State} {a0 : Array Value} {EL : List (String × Nat)} {vm1 : Vm} {m : MethodId} {args : Array Value} {below : List Frame} {meth : Method} {c : Code} {T : State} {locs : List Loc} {cells slots : Nat} {h h0 : Heap} {k0 : Nat}
    {Q : Option Value → Heap → List Loc → Prop} {C S : Nat} {v : Option Value} {f : JFrame}
    (X : Stand p l e R (s.setVm vm1) m args below meth c T locs cells slots) (hlk : meth.locks = false) (hv : meth.sig.returnType = none → v = none)
    (hs : ∀ fs, (∀ (f : JFrame) (acts : List Action), f.method = m → f.locked = none → f.entered = [] → (doReturn e (T.setTop f) acts v).1 = T.setFrames fs) → Steps p.tables e below (T.setTop f) (T.setFrames fs))
    (eT : T.heap = h) (hS : s.Since vm1 k0) (hk : k0 ≤ h.size) (hZ : Z.Warmed39 vm1) (hEL : EW Z a0 EL) (cr : CHr Z EL s.vm h0 vm1 h) (hh : s.heap = h0) (hQ : Q v h locs) (hc : cells ≤ C) (hl : slots ≤ S) : Go p e below (DoneW s Z EL Q C S) T f := by
  obtain ⟨fs, hr, hrun, hended, hW⟩ := X.leaveW hS (by rw [eT]; exact hk) (v := v) hv hlk
  have cr2 := cr.trans (CHv.at X hZ hEL cr.1)
  subst eT hh
  exact ⟨_, _, hs fs hr, hrun, hended, v, locs, rfl, hQ, cr2, hW.1, hW.2.1, hW.2.2.1, hW.2.2.2.mono hc hl⟩
theorem GoW.retB {p : Program} {l : Launch} {e : Env} {R : Room} {s Z : State} {a0 : Array Value} {EL : List (String × Nat)} {vm1 : Vm} {m : MethodId} {args : Array Value} {below : List Frame} {meth : Method} {c : Code} {T : State} {locs : List Loc} {cells slots : Nat} {h h0 : Heap} {k0 : Nat}
    {Q : Option Value → Heap → List Loc → Prop} {C S : Nat} {pc : Nat} {Ls : Array Slot} {z : Int32} {rest : List Value} {t : FieldType}
    (X : Stand p l e R (s.setVm vm1) m args below meth c T locs cells slots) (hlk : meth.locks = false) (hx : p.tables.exec = Jvm.exec) (hret : meth.sig.returnType = some t) (ht : t = .boolean ∨ t = .byte ∨ t = .char ∨ t = .short)
    (hd : decode c.code pc = .ok (.ireturn, 1)) (eT : T.heap = h) (hS : s.Since vm1 k0) (hk : k0 ≤ h.size) (hZ : Z.Warmed39 vm1) (hEL : EW Z a0 EL) (cr : CHr Z EL s.vm h0 vm1 h) (hh : s.heap = h0) (hQ : Q (some (.int (nar t z))) h locs) (hc : cells ≤ C) (hl : slots ≤ S) : Go p e below (DoneW s Z EL Q C S) T (mkF m pc Ls (.int z :: rest)) :=
  GoW.ret X hlk (fun h => by rw [hret] at h; cases h) (fun _ hr => retN X hx hret ht hd hr) eT hS hk hZ hEL cr hh hQ hc hl
theorem GoW.retV {p : Program} {l : Launch} {e : Env} {R : Room} {s Z : State} {a0 : Array Value} {EL : List (String × Nat)} {vm1 : Vm} {m : MethodId} {args : Array Value} {below : List Frame} {meth : Method} {c : Code} {T : State} {locs : List Loc} {cells slots : Nat} {h h0 : Heap} {k0 : Nat}
    {Q : Option Value → Heap → List Loc → Prop} {C S : Nat} {pc : Nat} {Ls : Array Slot} {w : Value} {rest : List Value} {t : FieldType} {i : Instr}
    (X : Stand p l e R (s.setVm vm1) m args below meth c T locs cells slots) (hlk : meth.locks = false) (hx : p.tables.exec = Jvm.exec) (hret : meth.sig.returnType = some t) (hn : narrow t w = w)
    (hi : (i = .ireturn ∧ (t = .int ∨ t = .boolean ∨ t = .byte ∨ t = .char ∨ t = .short) ∧ ∃ z, w = .int z) ∨ (i = .lreturn ∧ t = .long ∧ ∃ z, w = .long z) ∨ (i = .dreturn ∧ t = .double ∧ ∃ z, w = .double z) ∨ (i = .freturn ∧ t = .float ∧ ∃ z, w = .float z) ∨ (i = .areturn ∧ t.isReference = true ∧ w.isRef = true))
    (hd : decode c.code pc = .ok (i, 1)) (eT : T.heap = h) (hS : s.Since vm1 k0) (hk : k0 ≤ h.size) (hZ : Z.Warmed39 vm1) (hEL : EW Z a0 EL) (cr : CHr Z EL s.vm h0 vm1 h) (hh : s.heap = h0) (hQ : Q (some w) h locs) (hc : cells ≤ C) (hl : slots ≤ S) : Go p e below (DoneW s Z EL Q C S) T (mkF m pc Ls (w :: rest)) :=
  GoW.ret X hlk (fun h => by rw [hret] at h; cases h) (fun _ hr => retOut X hx hret hn hi hd hr) eT hS hk hZ hEL cr hh hQ hc hl
theorem GoW.ret0 {p : Program} {l : Launch} {e : Env} {R : Room} {s Z : State} {a0 : Array Value} {EL : List (String × Nat)} {vm1 : Vm} {m : MethodId} {args : Array Value} {below : List Frame} {meth : Method} {c : Code} {T : State} {locs : List Loc} {cells slots : Nat} {h h0 : Heap} {k0 : Nat}
    {Q : Option Value → Heap → List Loc → Prop} {C S : Nat} {pc : Nat} {Ls : Array Slot}
    (X : Stand p l e R (s.setVm vm1) m args below meth c T locs cells slots) (hlk : meth.locks = false) (hx : p.tables.exec = Jvm.exec) (hret : meth.sig.returnType = none)
    (hd : decode c.code pc = .ok (.return_, 1)) (eT : T.heap = h) (hS : s.Since vm1 k0) (hk : k0 ≤ h.size) (hZ : Z.Warmed39 vm1) (hEL : EW Z a0 EL) (cr : CHr Z EL s.vm h0 vm1 h) (hh : s.heap = h0) (hQ : Q none h locs) (hc : cells ≤ C) (hl : slots ≤ S) : Go p e below (DoneW s Z EL Q C S) T (mkF m pc Ls []) :=
  GoW.ret X hlk (fun _ => rfl) (fun _ hr => X.returnOut hx hret hd hr) eT hS hk hZ hEL cr hh hQ hc hl
/-- the form of a contract of a body that may load String constants -/
def ConW (l : Launch) (Z : State) (EL : List (String × Nat)) (y : MethodName) (bytes : ByteArray) (ml : Nat) (ret : Option FieldType) (ws : List Jvm.Cond) (room : Room) (A : Array Value) (h0 : Heap) (Q : Option Value → Heap → List Loc → Prop) : Prop :=
  MetFree l y (head1 (Jvm.Cond.code y bytes ml ret :: ws) room) (fun a U => a = A ∧ Z.Warmed39 U.vm ∧ U.heap = h0 ∧ CHv Z EL U.vm h0) (fun _ _ _ _ _ => True) (fun _ U o U' => ∃ v L, o = .returned v ∧ Q v U'.heap L ∧ CHr Z EL U.vm U.heap U'.vm U'.heap ∧ ReturnedEndW U o U' L room.cells room.slots)
theorem own_bodyW {l : Launch} {Z : State} {EL : List (String × Nat)} {y : MethodName} {bytes : ByteArray} {ml : Nat} {ret : Option FieldType} {ws : List Jvm.Cond} {room : Room} {A : Array Value} {h0 : Heap} {Q : Option Value → Heap → List Loc → Prop} (hpn : plainFor y = true)
    (body : ∀ (p : Program) (e : Env) (s : State) (m : MethodId) (below : List Frame) (meth : Method) (c : Code) (s₁ : State), p.tables.exec = Jvm.exec → c.code = bytes → c.maxLocals = ml → Z.Warmed39 s.vm → s.vm.findClass y.cls = some m.cls → meth.name = y.name → meth.locks = false → meth.sig.returnType = ret →
      Stand p l e room (s.setVm s.vm) m A below meth c s₁ [] 0 0 → s₁.heap = h0 → s.heap = h0 → s.Since s.vm 0 → CHr Z EL s.vm h0 s.vm h0 → Go p e below (DoneW s Z EL Q room.cells room.slots) s₁ (entryFrame m A ml)) : ConW l Z EL y bytes ml ret ws room A h0 Q := by
  refine MetFree.of_bodySF hpn hisR ?_
  intro p e s m args below meth c s₁ Bd hml0 hP hK
  obtain ⟨rfl, hZ, hh, hC⟩ := hP
  exact body p e s m below meth c s₁ Bd.exec Bd.bytes hml0 hZ (findClass_of_methodNamed Bd.named) (name_of_methodNamed Bd.named Bd.method).1 Bd.notSynchronized Bd.returns (Stand.of_body Bd) (by rw [← hh, Bd.state]; rfl) hh ((State.WarmedH.refl s).since 0) (CHr.refl hC)
theorem own_backW {l : Launch} {R : Room} {p : Program} {e : Env} {below : List Frame} {s Z : State} {args a0 : Array Value} {EL : List (String × Nat)} {vm0 : Vm} {h : Heap} {y : MethodName} {bytes : ByteArray} {maxL : Nat} {ret : Option FieldType} {rm : Room} {len W : Nat} {as' : Array Value} {Q : Option Value → Heap → List Loc → Prop}
    (hM : ConW l Z EL y bytes maxL ret [] rm as' h Q) (hZ : Z.Warmed39 vm0) (wc : (Cond.code y bytes maxL ret).before a0 Z = true) (wz : (Cond.initialized y.cls).before a0 Z = true) (hf : rm.frames + 1 ≤ R.frames) (hl : W + (maxL + 11) + rm.locals ≤ R.locals) (hEL : EW Z a0 EL) (H : CHv Z EL vm0 h) :
    BackS l R p e below (s.setVm vm0) args y len W (fun A a => a = as' ∧ A.U.heap = h ∧ A.cells + rm.cells ≤ R.cells ∧ A.slots + rm.slots ≤ R.slots)
      (fun A _ v B => ∃ L, Q v B.U.heap L ∧ B.locs = A.locs ++ L ∧ B.cells = A.cells + rm.cells ∧ B.slots = A.slots + rm.slots ∧ CHr Z EL vm0 h B.U.vm B.U.heap) := backOfSH (Q := Q) hM hZ wc wz hf hl hEL H
/-- a String whose value is not yet written is no literal's -/
theorem own_safe0 {Z : State} {EL : List (String × Nat)} {vm : Vm} {h : Heap} {x : Addr} (hal : Z.vm.Alike vm) (E : Exa Z h x "java/lang/String") (F : Fld Z h x "java/lang/String" "value" "[B" .null) : Safe Z EL vm h x := fun B => by
  obtain ⟨cell, k, e1, e2, e3, -, -⟩ := E
  obtain ⟨cell', cf, kf, i, f, f1, f2, f3, -, -, -, f7⟩ := F
  cases e1.symm.trans f1
  obtain ⟨p, -, u, a, -, q, -, G, rfl | rfl⟩ := B
  · cases (show h[q.sa]? = some q.sC from G.ha).symm.trans e1
    obtain ⟨cS, ⟨⟨s1, s2, s3, ⟨cv, kv, iv, s4, s4'⟩, r5, s6, s7, s8, -⟩, -, -⟩, -⟩ := G
    obtain ⟨kv', z4⟩ := ff_back (Z := Z) (U := Wst Z vm h) hal s4
    cases f2.symm.trans z4
    have := s8.symm.trans f7
    cases this
  · cases (show h[q.sd]? = some q.SA from G.hd).symm.trans e1
    obtain ⟨cS, -, -, fB, -⟩ := G
    have fB' : Z.vm.findClass "[B" = some q.SA.cls := by rw [← hal.findClass]; exact fB
    exact ids_ne e2 fB' (by decide) rfl

def World1 (Z : State) (i_COMPACT_STRINGS : Int32) (v_SIOOBE_FORMATTER : Value) : Prop :=
  Sta Z Z.heap "java/lang/String" "COMPACT_STRINGS" "Z" (.int i_COMPACT_STRINGS) ∧
  ¬ i_COMPACT_STRINGS = (0 : Int32) ∧
  Sta Z Z.heap "jdk/internal/util/Preconditions" "SIOOBE_FORMATTER" "Ljava/util/function/BiFunction;" v_SIOOBE_FORMATTER ∧
  v_SIOOBE_FORMATTER.isRef = true
abbrev EL : List (String × Nat) := consts_1
theorem own_EL {Z : State} {a0 : Array Value} (hw : ∀ d ∈ tables_1, d.before a0 Z = true) : EW Z a0 EL := (EW.cons (hw _ (List.mem_of_getElem? (i := 63) rfl)) (by decide) EW.nil)
theorem own_wS {Z : State} {a0 : Array Value} (hw : ∀ d ∈ tables_1, d.before a0 Z = true) : ∀ a ∈ Bundle.stringAtoms, a.before a0 Z = true := by
  intro a ha
  simp only [Bundle.stringAtoms, Bundle.sN, List.mem_cons, List.not_mem_nil, or_false] at ha
  rcases ha with rfl | rfl | rfl | rfl | rfl | rfl | rfl
  · exact (hw _ (List.mem_of_getElem? (i := 37) rfl))
  · exact (hw _ (List.mem_of_getElem? (i := 36) rfl))
  · exact (hw _ (List.mem_of_getElem? (i := 52) rfl))
  · exact (hw _ (List.mem_of_getElem? (i := 62) rfl))
  · exact (hw _ (List.mem_of_getElem? (i := 60) rfl))
  · exact (hw _ (List.mem_of_getElem? (i := 64) rfl))
  · exact (hw _ (List.mem_of_getElem? (i := 65) rfl))
theorem pn_java_lang_StringUTF16 : plainName "java/lang/StringUTF16" = true := by first | (simp [plainName, overriddenIn]; done) | decide +kernel
theorem d10_0 : decode jdk_52_method_21_code 0 = .ok (.iconst 0, 1) := by decide +kernel
theorem d10_1 : decode jdk_52_method_21_code 1 = .ok (.istore 5, 2) := by decide +kernel
theorem d10_3 : decode jdk_52_method_21_code 3 = .ok (.iload 5, 2) := by decide +kernel
theorem d10_5 : decode jdk_52_method_21_code 5 = .ok (.iload 4, 2) := by decide +kernel
theorem d10_7 : decode jdk_52_method_21_code 7 = .ok (.if_icmp .ge 37, 3) := by decide +kernel
theorem d10_10 : decode jdk_52_method_21_code 10 = .ok (.aload_n 0, 1) := by decide +kernel
theorem d10_11 : decode jdk_52_method_21_code 11 = .ok (.iload_n 1, 1) := by decide +kernel
theorem d10_12 : decode jdk_52_method_21_code 12 = .ok (.caload, 1) := by decide +kernel
theorem d10_13 : decode jdk_52_method_21_code 13 = .ok (.istore 6, 2) := by decide +kernel
theorem d10_15 : decode jdk_52_method_21_code 15 = .ok (.iload 6, 2) := by decide +kernel
theorem d10_17 : decode jdk_52_method_21_code 17 = .ok (.sipush 255, 3) := by decide +kernel
theorem d10_20 : decode jdk_52_method_21_code 20 = .ok (.if_icmp .le 6, 3) := by decide +kernel
theorem d10_26 : decode jdk_52_method_21_code 26 = .ok (.aload_n 2, 1) := by decide +kernel
theorem d10_27 : decode jdk_52_method_21_code 27 = .ok (.iload_n 3, 1) := by decide +kernel
theorem d10_28 : decode jdk_52_method_21_code 28 = .ok (.iload 6, 2) := by decide +kernel
theorem d10_30 : decode jdk_52_method_21_code 30 = .ok (.i2b, 1) := by decide +kernel
theorem d10_31 : decode jdk_52_method_21_code 31 = .ok (.bastore, 1) := by decide +kernel
theorem d10_32 : decode jdk_52_method_21_code 32 = .ok (.iinc 1 1, 3) := by decide +kernel
theorem d10_35 : decode jdk_52_method_21_code 35 = .ok (.iinc 3 1, 3) := by decide +kernel
theorem d10_38 : decode jdk_52_method_21_code 38 = .ok (.iinc 5 1, 3) := by decide +kernel
theorem d10_41 : decode jdk_52_method_21_code 41 = .ok (.goto (-38), 3) := by decide +kernel
theorem d10_44 : decode jdk_52_method_21_code 44 = .ok (.iload 4, 2) := by decide +kernel
theorem d10_46 : decode jdk_52_method_21_code 46 = .ok (.ireturn, 1) := by decide +kernel
set_option maxRecDepth 65536 in
set_option maxHeartbeats 40000000 in
theorem st5_1 (l : Launch) (Z : State) (a0 : Array Value) (hw : ∀ d ∈ tables_1, d.before a0 Z = true) (ws : List Jvm.Cond) (a2 : Addr) (k2 : ClassId) (a1 : Addr) (k1 : ClassId) (c0 : Int32) (h0 : Heap) (n0 : Nat) (O0 : Old Z n0 h0) (hc_c0 : ¬ (255 : Int32) < c0) (ne12 : a1 ≠ a2) (g_a2 : n0 ≤ a2) (V_a1 : Arv Z h0 a1 k1 .char (1 : Int32) [(.int c0)] (.int 0)) (V_a2 : Arv Z h0 a2 k2 .byte (1 : Int32) [(.int 0)] (.int 0)) :
    Con l Z (⟨"java/lang/StringUTF16", "compress", "([CI[BII)I"⟩ : MethodName) jdk_52_method_21_code 7 (some .int) ws ({ frames := 0, cells := 0, slots := 0, locals := 0 } : Room) #[(.ref a1), (.int 0), (.ref a2), (.int 0), (.int 1)] h0 (fun v h L => v = some (.int 1) ∧ Fr n0 L ∧ Keep h0 h [a2] ∧ Arv Z h a2 k2 .byte (1 : Int32) [(.int (nar .byte (c0.toInt8.toInt32)))] (.int 0)) := by
  refine own_body (plainFor_of_name pn_java_lang_StringUTF16) ?_
  intro p e s m below meth c s₁ hx hby hml hZ hown hnm hlk hret X0 e0
  have N0 := Fr.nil n0
  have K0 : Keep h0 h0 [a2] := Keep.refl _ _
  refine Go.st (T' := s₁) (f' := (mkF m 0 #[rv a1, iv 0, rv a2, iv 0, iv 1, .unset, .unset] [])) (fun _ k => castTop (by first | (simp [entryFrame, mkF, argsToLocals, Value.category]; done) | rfl) k) ?_
  have lt_a1 := V_a1.lt
  have lt_a2 := V_a2.lt
  refine Go.st (f' := (mkF m 1 #[rv a1, iv 0, rv a2, iv 0, iv 1, .unset, .unset] [(.int 0)])) (fun _ k => XS.iconst X0.here hx rfl (hb hby d10_0) k) ?_
  refine Go.st (f' := (mkF m 3 #[rv a1, iv 0, rv a2, iv 0, iv 1, iv 0, .unset] [])) (fun _ k => XS.istore X0.here hx rfl (hb hby d10_1) rfl (l' := #[rv a1, iv 0, rv a2, iv 0, iv 1, iv 0, .unset]) rfl k) ?_
  refine Go.st (f' := (mkF m 5 #[rv a1, iv 0, rv a2, iv 0, iv 1, iv 0, .unset] [(.int 0)])) (fun _ k => XS.iload X0.here hx rfl (hb hby d10_3) rfl k) ?_
  refine Go.st (f' := (mkF m 7 #[rv a1, iv 0, rv a2, iv 0, iv 1, iv 0, .unset] [(.int 1), (.int 0)])) (fun _ k => XS.iload X0.here hx rfl (hb hby d10_5) rfl k) ?_
  refine Go.st (f' := (mkF m 10 #[rv a1, iv 0, rv a2, iv 0, iv 1, iv 0, .unset] [])) (fun _ k => XS.icmpNo X0.here hx rfl (hb hby d10_7) rfl (by decide) k) ?_
  refine Go.st (f' := (mkF m 11 #[rv a1, iv 0, rv a2, iv 0, iv 1, iv 0, .unset] [(.ref a1)])) (fun _ k => XS.aloadN X0.here hx rfl (hb hby d10_10) rfl rfl k) ?_
  refine Go.st (f' := (mkF m 12 #[rv a1, iv 0, rv a2, iv 0, iv 1, iv 0, .unset] [(.int 0), (.ref a1)])) (fun _ k => XS.iloadN X0.here hx rfl (hb hby d10_11) rfl k) ?_
  obtain ⟨cl1, Ar1, -, S1, -, H1, -⟩ := id V_a1
  have hin1 : ¬ ((0 : Int32) < 0 ∨ cl1.slots.size ≤ ((0 : Int32)).toNatClampNeg) := inb_of S1 ⟨by decide, by decide⟩
  have hat1 : cl1.slots[((0 : Int32)).toNatClampNeg]? = some (.int c0) := H1.at hin1 rfl
  refine Go.st (f' := (mkF m 13 #[rv a1, iv 0, rv a2, iv 0, iv 1, iv 0, .unset] [(.int c0)])) (fun _ k => X0.caload hx (j := (0 : Int32)) (v := (.int c0)) (by rw [e0]; exact Ar1.1) (State.isArrayOf_alike hZ.alike Ar1.2.1) Ar1.2.2 hin1 hat1 (g := (mkF m 12 #[rv a1, iv 0, rv a2, iv 0, iv 1, iv 0, .unset] [(.int 0), (.ref a1)])) rfl rfl (hb hby d10_12) _ k) ?_
  refine Go.st (f' := (mkF m 15 #[rv a1, iv 0, rv a2, iv 0, iv 1, iv 0, iv c0] [])) (fun _ k => XS.istore X0.here hx rfl (hb hby d10_13) rfl (l' := #[rv a1, iv 0, rv a2, iv 0, iv 1, iv 0, iv c0]) rfl k) ?_
  refine Go.st (f' := (mkF m 17 #[rv a1, iv 0, rv a2, iv 0, iv 1, iv 0, iv c0] [(.int c0)])) (fun _ k => XS.iload X0.here hx rfl (hb hby d10_15) rfl k) ?_
  refine Go.st (f' := (mkF m 20 #[rv a1, iv 0, rv a2, iv 0, iv 1, iv 0, iv c0] [(.int 255), (.int c0)])) (fun _ k => XS.sipush X0.here hx rfl (hb hby d10_17) k) ?_
  refine Go.st (f' := (mkF m 26 #[rv a1, iv 0, rv a2, iv 0, iv 1, iv 0, iv c0] [])) (fun _ k => XS.icmpYes X0.here hx rfl (pc0 := 20) (pc' := 26) rfl (hb hby d10_20) rfl (flt hc_c0).2.2.2 (by decide) (by decide) k) ?_
  refine Go.st (f' := (mkF m 27 #[rv a1, iv 0, rv a2, iv 0, iv 1, iv 0, iv c0] [(.ref a2)])) (fun _ k => XS.aloadN X0.here hx rfl (hb hby d10_26) rfl rfl k) ?_
  refine Go.st (f' := (mkF m 28 #[rv a1, iv 0, rv a2, iv 0, iv 1, iv 0, iv c0] [(.int 0), (.ref a2)])) (fun _ k => XS.iloadN X0.here hx rfl (hb hby d10_27) rfl k) ?_
  refine Go.st (f' := (mkF m 30 #[rv a1, iv 0, rv a2, iv 0, iv 1, iv 0, iv c0] [(.int c0), (.int 0), (.ref a2)])) (fun _ k => XS.iload X0.here hx rfl (hb hby d10_28) rfl k) ?_
  refine Go.st (f' := (mkF m 31 #[rv a1, iv 0, rv a2, iv 0, iv 1, iv 0, iv c0] [(.int (c0.toInt8.toInt32)), (.int 0), (.ref a2)])) (fun _ k => XS.i2b X0.here hx rfl (hb hby d10_30) rfl k) ?_
  obtain ⟨cl2, Ar2, q2, S2, Nx2, H2, G2⟩ := id V_a2
  have hin2 : ¬ ((0 : Int32) < 0 ∨ cl2.slots.size ≤ ((0 : Int32)).toNatClampNeg) := inb_of S2 ⟨by decide, by decide⟩
  obtain ⟨T3, h3, X3, e3, W3, st3⟩ := stB X0 hx hZ e0 Ar2 (j := (0 : Int32)) hin2 (g := (mkF m 31 #[rv a1, iv 0, rv a2, iv 0, iv 1, iv 0, iv c0] [(.int (c0.toInt8.toInt32)), (.int 0), (.ref a2)])) rfl rfl (hb hby d10_31)
  have V_a2_3 : Arv Z h3 a2 k2 .byte (1 : Int32) [(.int (nar .byte (c0.toInt8.toInt32)))] (.int (0 : Int32)) := Arv.set Ar2 q2 S2 Nx2 H2 G2 (fits_nar_byte _) W3 0 rfl (Nat.le_of_ble_eq_true rfl)
  have N3 := Fr.snoc X3 N0 g_a2
  have O3 : Old Z n0 h3 := O0.wr W3 g_a2
  have K3 : Keep h0 h3 [a2] := K0.wr W3 (Or.inl (List.mem_of_getElem? (i := 0) rfl))
  refine Go.st (f' := (mkF m 32 #[rv a1, iv 0, rv a2, iv 0, iv 1, iv 0, iv c0] [])) (fun _ k => st3 _ k) ?_
  refine Go.st (f' := (mkF m 35 #[rv a1, iv 1, rv a2, iv 0, iv 1, iv 0, iv c0] [])) (fun _ k => XS.iinc X3.here hx rfl (hb hby d10_32) rfl (l' := #[rv a1, iv 1, rv a2, iv 0, iv 1, iv 0, iv c0]) rfl k) ?_
  refine Go.st (f' := (mkF m 38 #[rv a1, iv 1, rv a2, iv 1, iv 1, iv 0, iv c0] [])) (fun _ k => XS.iinc X3.here hx rfl (hb hby d10_35) rfl (l' := #[rv a1, iv 1, rv a2, iv 1, iv 1, iv 0, iv c0]) rfl k) ?_
  refine Go.st (f' := (mkF m 41 #[rv a1, iv 1, rv a2, iv 1, iv 1, iv 1, iv c0] [])) (fun _ k => XS.iinc X3.here hx rfl (hb hby d10_38) rfl (l' := #[rv a1, iv 1, rv a2, iv 1, iv 1, iv 1, iv c0]) rfl k) ?_
  refine Go.st (f' := (mkF m 3 #[rv a1, iv 1, rv a2, iv 1, iv 1, iv 1, iv c0] [])) (fun _ k => XS.goto X3.here hx rfl (pc0 := 41) (pc' := 3) rfl (hb hby d10_41) (by decide) (by decide) k) ?_
  refine Go.st (f' := (mkF m 5 #[rv a1, iv 1, rv a2, iv 1, iv 1, iv 1, iv c0] [(.int 1)])) (fun _ k => XS.iload X3.here hx rfl (hb hby d10_3) rfl k) ?_
  refine Go.st (f' := (mkF m 7 #[rv a1, iv 1, rv a2, iv 1, iv 1, iv 1, iv c0] [(.int 1), (.int 1)])) (fun _ k => XS.iload X3.here hx rfl (hb hby d10_5) rfl k) ?_
  refine Go.st (f' := (mkF m 44 #[rv a1, iv 1, rv a2, iv 1, iv 1, iv 1, iv c0] [])) (fun _ k => XS.icmpYes X3.here hx rfl (pc0 := 7) (pc' := 44) rfl (hb hby d10_7) rfl (by decide) (by decide) (by decide) k) ?_
  refine Go.st (f' := (mkF m 46 #[rv a1, iv 1, rv a2, iv 1, iv 1, iv 1, iv c0] [(.int 1)])) (fun _ k => XS.iload X3.here hx rfl (hb hby d10_44) rfl k) ?_
  refine Go.retV X3 hlk hx (t := .int) hret rfl (Or.inl ⟨rfl, Or.inl rfl, _, rfl⟩) (hb hby d10_46) e3 ?_ (by decide) (by decide)
  exact ⟨rfl, N3, K3, V_a2_3⟩
theorem d9_0 : decode jdk_52_method_16_code 0 = .ok (.iload_n 2, 1) := by decide +kernel
theorem d9_1 : decode jdk_52_method_16_code 1 = .ok (.newarray .byte, 2) := by decide +kernel
theorem d9_3 : decode jdk_52_method_16_code 3 = .ok (.astore_n 3, 1) := by decide +kernel
theorem d9_4 : decode jdk_52_method_16_code 4 = .ok (.aload_n 0, 1) := by decide +kernel
theorem d9_5 : decode jdk_52_method_16_code 5 = .ok (.iload_n 1, 1) := by decide +kernel
theorem d9_6 : decode jdk_52_method_16_code 6 = .ok (.aload_n 3, 1) := by decide +kernel
theorem d9_7 : decode jdk_52_method_16_code 7 = .ok (.iconst 0, 1) := by decide +kernel
theorem d9_8 : decode jdk_52_method_16_code 8 = .ok (.iload_n 2, 1) := by decide +kernel
theorem d9_9 : decode jdk_52_method_16_code 9 = .ok (.invokestatic 115, 3) := by decide +kernel
theorem pd___CI_BII_I : parseMethodDescriptor "([CI[BII)I" = some ⟨[(.array .char), .int, (.array .byte), .int, .int], some .int⟩ := by decide +kernel
theorem d9_12 : decode jdk_52_method_16_code 12 = .ok (.istore 4, 2) := by decide +kernel
theorem d9_14 : decode jdk_52_method_16_code 14 = .ok (.iload 4, 2) := by decide +kernel
theorem d9_16 : decode jdk_52_method_16_code 16 = .ok (.iload_n 2, 1) := by decide +kernel
theorem d9_17 : decode jdk_52_method_16_code 17 = .ok (.if_icmp .eq 40, 3) := by decide +kernel
theorem d9_57 : decode jdk_52_method_16_code 57 = .ok (.aload_n 3, 1) := by decide +kernel
theorem d9_58 : decode jdk_52_method_16_code 58 = .ok (.areturn, 1) := by decide +kernel
set_option maxRecDepth 65536 in
set_option maxHeartbeats 40000000 in
theorem st3_1 (l : Launch) (Z : State) (a0 : Array Value) (hw : ∀ d ∈ tables_1, d.before a0 Z = true) (ws : List Jvm.Cond) (a1 : Addr) (k1 : ClassId) (c0 : Int32) (h0 : Heap) (n0 : Nat) (O0 : Old Z n0 h0) (hc_c0 : ¬ (255 : Int32) < c0) (V_a1 : Arv Z h0 a1 k1 .char (1 : Int32) [(.int c0)] (.int 0)) :
    Con l Z (⟨"java/lang/StringUTF16", "compress", "([CII)[B"⟩ : MethodName) jdk_52_method_16_code 6 (some (.array .byte)) ws ({ frames := 1, cells := 1, slots := 1, locals := 18 } : Room) #[(.ref a1), (.int 0), (.int 1)] h0 (fun v h L => ∃ (b : Addr) (kb : ClassId), v = some (.ref b) ∧ Fr n0 L ∧ h0.size ≤ b ∧ Keep h0 h [] ∧ Arv Z h b kb .byte (1 : Int32) [(.int (nar .byte (c0.toInt8.toInt32)))] (.int 0)) := by
  refine own_body (plainFor_of_name pn_java_lang_StringUTF16) ?_
  intro p e s m below meth c s₁ hx hby hml hZ hown hnm hlk hret X0 e0
  have N0 := Fr.nil n0
  have K0 : Keep h0 h0 [] := Keep.refl _ _
  refine Go.st (T' := s₁) (f' := (mkF m 0 #[rv a1, iv 0, iv 1, .unset, .unset, .unset] [])) (fun _ k => castTop (by first | (simp [entryFrame, mkF, argsToLocals, Value.category]; done) | rfl) k) ?_
  have lt_a1 := V_a1.lt
  refine Go.st (f' := (mkF m 1 #[rv a1, iv 0, iv 1, .unset, .unset, .unset] [(.int 1)])) (fun _ k => XS.iloadN X0.here hx rfl (hb hby d9_0) rfl k) ?_
  obtain ⟨T1, h1, kc1, X1, e1, E1, A1, st1⟩ := newP X0 hx hZ (hw _ (List.mem_of_getElem? (i := 52) rfl)) e0 (g := (mkF m 1 #[rv a1, iv 0, iv 1, .unset, .unset, .unset] [(.int 1)])) rfl (hb hby d9_1) rfl (by decide) (cap := 1) (by decide) (by decide) (by decide) (by decide)
  obtain ⟨b1, g1⟩ : ∃ z, z = h0.size := ⟨_, rfl⟩
  rw [← g1] at A1 st1
  have ne_a1_b1 : a1 ≠ b1 := Nat.ne_of_lt (Nat.lt_of_lt_of_eq lt_a1 g1.symm)
  have g_b1 : n0 ≤ b1 := Nat.le_trans (O0.1 ▸ O0.2.1) (Nat.le_of_eq g1.symm)
  have O1 : Old Z n0 h1 := O0.ext E1
  have sz_b1 : h0.size ≤ b1 := Nat.le_trans K0.1 (Nat.le_of_eq g1.symm)
  have K1 : Keep h0 h1 [] := K0.ext E1
  have V_b1 : Arv Z h1 b1 kc1 .byte (1 : Int32) [(.int (0 : Int32))] (.int (0 : Int32)) := (Arv.new A1 (by decide)).pad (pad_rep [] (.int (0 : Int32)) 1)
  have lt_b1 := V_b1.lt
  refine Go.st (f' := (mkF m 3 #[rv a1, iv 0, iv 1, .unset, .unset, .unset] [(.ref b1)])) (fun _ k => st1 _ k) ?_
  refine Go.st (f' := (mkF m 4 #[rv a1, iv 0, iv 1, rv b1, .unset, .unset] [])) (fun _ k => XS.astoreN X1.here hx rfl (hb hby d9_3) rfl rfl (l' := #[rv a1, iv 0, iv 1, rv b1, .unset, .unset]) rfl k) ?_
  refine Go.st (f' := (mkF m 5 #[rv a1, iv 0, iv 1, rv b1, .unset, .unset] [(.ref a1)])) (fun _ k => XS.aloadN X1.here hx rfl (hb hby d9_4) rfl rfl k) ?_
  refine Go.st (f' := (mkF m 6 #[rv a1, iv 0, iv 1, rv b1, .unset, .unset] [(.int 0), (.ref a1)])) (fun _ k => XS.iloadN X1.here hx rfl (hb hby d9_5) rfl k) ?_
  refine Go.st (f' := (mkF m 7 #[rv a1, iv 0, iv 1, rv b1, .unset, .unset] [(.ref b1), (.int 0), (.ref a1)])) (fun _ k => XS.aloadN X1.here hx rfl (hb hby d9_6) rfl rfl k) ?_
  refine Go.st (f' := (mkF m 8 #[rv a1, iv 0, iv 1, rv b1, .unset, .unset] [(.int 0), (.ref b1), (.int 0), (.ref a1)])) (fun _ k => XS.iconst X1.here hx rfl (hb hby d9_7) k) ?_
  refine Go.st (f' := (mkF m 9 #[rv a1, iv 0, iv 1, rv b1, .unset, .unset] [(.int 1), (.int 0), (.ref b1), (.int 0), (.ref a1)])) (fun _ k => XS.iloadN X1.here hx rfl (hb hby d9_8) rfl k) ?_
  have ft3 := (V_a1.ext E1)
  obtain ⟨_, _, ⟨T2, L2, kk2, nn2⟩, -, X2, ⟨Lc2, hQ2, lq2, yq2, zz2⟩, st2⟩ := Jvm.LawKit.callS X1 hx (y := (⟨"java/lang/StringUTF16", "compress", "([CI[BII)I"⟩ : MethodName)) hown (mvT hZ (hw _ (List.mem_of_getElem? (i := 53) rfl))) (mvT hZ (hw _ (List.mem_of_getElem? (i := 54) rfl))) (mvT hZ (hw _ (List.mem_of_getElem? (i := 50) rfl))) (mvT hZ (hw _ (List.mem_of_getElem? (i := 55) rfl))) (by decide) (own_back (W := 0) (st5_1 l Z a0 hw [] b1 kc1 a1 k1 c0 h1 n0 O1 hc_c0 ne_a1_b1 g_b1 ft3 V_b1) hZ (hw _ (List.mem_of_getElem? (i := 55) rfl)) (hw _ (List.mem_of_getElem? (i := 50) rfl)) (by decide) (by decide)) (g := (mkF m 9 #[rv a1, iv 0, iv 1, rv b1, .unset, .unset] [(.int 1), (.int 0), (.ref b1), (.int 0), (.ref a1)])) rfl (by rw [hml]; rfl) (argsL := [(.ref a1), (.int (0 : Int32)), (.ref b1), (.int (0 : Int32)), (.int (1 : Int32))]) (rest := []) (lenOf pd___CI_BII_I rfl) rfl (by show 2 * 0 + _ ≤ _; exact Nat.le_of_eq rfl) (hb hby d9_9) (fun _ _ => ⟨rfl, e1, (by decide : 1 + 0 ≤ _), (by decide : 1 + 0 ≤ _)⟩)
  dsimp only [Pt.U, Pt.locs, Pt.cells, Pt.slots] at X2 lq2 yq2 zz2 st2 hQ2
  subst lq2 yq2 zz2
  obtain ⟨rfl, Nq2, kq2, vq2⟩ := hQ2
  have N2 := Fr.app N0 Nq2
  have O2 : Old Z n0 T2.heap := O1.keep kq2 (allS g_b1 all0)
  have K2 : Keep h0 T2.heap [] := K1.trans kq2 (allS (Or.inr sz_b1) all0)
  refine Go.st (f' := (mkF m 12 #[rv a1, iv 0, iv 1, rv b1, .unset, .unset] [(.int 1)])) (fun _ k => st2 _ k) ?_
  refine Go.st (f' := (mkF m 14 #[rv a1, iv 0, iv 1, rv b1, iv 1, .unset] [])) (fun _ k => XS.istore X2.here hx rfl (hb hby d9_12) rfl (l' := #[rv a1, iv 0, iv 1, rv b1, iv 1, .unset]) rfl k) ?_
  refine Go.st (f' := (mkF m 16 #[rv a1, iv 0, iv 1, rv b1, iv 1, .unset] [(.int 1)])) (fun _ k => XS.iload X2.here hx rfl (hb hby d9_14) rfl k) ?_
  refine Go.st (f' := (mkF m 17 #[rv a1, iv 0, iv 1, rv b1, iv 1, .unset] [(.int 1), (.int 1)])) (fun _ k => XS.iloadN X2.here hx rfl (hb hby d9_16) rfl k) ?_
  refine Go.st (f' := (mkF m 57 #[rv a1, iv 0, iv 1, rv b1, iv 1, .unset] [])) (fun _ k => XS.icmpYes X2.here hx rfl (pc0 := 17) (pc' := 57) rfl (hb hby d9_17) rfl (by decide) (by decide) (by decide) k) ?_
  refine Go.st (f' := (mkF m 58 #[rv a1, iv 0, iv 1, rv b1, iv 1, .unset] [(.ref b1)])) (fun _ k => XS.aloadN X2.here hx rfl (hb hby d9_57) rfl rfl k) ?_
  refine Go.retV X2 hlk hx (t := (.array .byte)) hret rfl (Or.inr (Or.inr (Or.inr (Or.inr ⟨rfl, rfl, rfl⟩)))) (hb hby d9_58) rfl ?_ (by decide) (by decide)
  exact ⟨b1, kc1, rfl, N2, sz_b1, K2, vq2⟩
theorem d11_0 : decode jdk_52_method_15_code 0 = .ok (.iload_n 1, 1) := by decide +kernel
theorem d11_1 : decode jdk_52_method_15_code 1 = .ok (.aload_n 0, 1) := by decide +kernel
theorem d11_2 : decode jdk_52_method_15_code 2 = .ok (.arraylength, 1) := by decide +kernel
theorem d11_3 : decode jdk_52_method_15_code 3 = .ok (.isub, 1) := by decide +kernel
theorem d11_4 : decode jdk_52_method_15_code 4 = .ok (.bipush 31, 2) := by decide +kernel
theorem d11_6 : decode jdk_52_method_15_code 6 = .ok (.iushr, 1) := by decide +kernel
theorem d11_7 : decode jdk_52_method_15_code 7 = .ok (.i2b, 1) := by decide +kernel
theorem d11_8 : decode jdk_52_method_15_code 8 = .ok (.ireturn, 1) := by decide +kernel
set_option maxRecDepth 65536 in
set_option maxHeartbeats 40000000 in
theorem stc_1 (l : Launch) (Z : State) (a0 : Array Value) (hw : ∀ d ∈ tables_1, d.before a0 Z = true) (ws : List Jvm.Cond) (a1 : Addr) (k1 : ClassId) (x0 : Int32) (h0 : Heap) (n0 : Nat) (O0 : Old Z n0 h0) (V_a1 : Arv Z h0 a1 k1 .byte (1 : Int32) [(.int x0)] (.int 0)) :
    Con l Z (⟨"java/lang/StringUTF16", "coderFromArrayLen", "([BI)B"⟩ : MethodName) jdk_52_method_15_code 2 (some .byte) ws ({ frames := 0, cells := 0, slots := 0, locals := 0 } : Room) #[(.ref a1), (.int 1)] h0 (fun v h L => v = some (.int 0) ∧ Fr n0 L ∧ h = h0) := by
  refine own_body (plainFor_of_name pn_java_lang_StringUTF16) ?_
  intro p e s m below meth c s₁ hx hby hml hZ hown hnm hlk hret X0 e0
  have N0 := Fr.nil n0
  refine Go.st (T' := s₁) (f' := (mkF m 0 #[rv a1, iv 1] [])) (fun _ k => castTop (by first | (simp [entryFrame, mkF, argsToLocals, Value.category]; done) | rfl) k) ?_
  have lt_a1 := V_a1.lt
  refine Go.st (f' := (mkF m 1 #[rv a1, iv 1] [(.int 1)])) (fun _ k => XS.iloadN X0.here hx rfl (hb hby d11_0) rfl k) ?_
  refine Go.st (f' := (mkF m 2 #[rv a1, iv 1] [(.ref a1), (.int 1)])) (fun _ k => XS.aloadN X0.here hx rfl (hb hby d11_1) rfl rfl k) ?_
  obtain ⟨cl1, Ar1, -, S1, Nx1, -, -⟩ := id V_a1
  refine Go.st (T' := s₁) (f' := (mkF m 3 #[rv a1, iv 1] [(.int 1), (.int 1)])) (fun _ k => X0.arraylength hx (by rw [e0]; exact Ar1.1) (State.isArrayOf_alike hZ.alike Ar1.2.1) (g := (mkF m 2 #[rv a1, iv 1] [(.ref a1), (.int 1)])) rfl rfl (hb hby d11_2) _ (by rw [len_of S1 Nx1]; exact k)) ?_
  refine Go.st (f' := (mkF m 4 #[rv a1, iv 1] [(.int 0)])) (fun _ k => XS.isub X0.here hx rfl (hb hby d11_3) rfl k) ?_
  refine Go.st (f' := (mkF m 6 #[rv a1, iv 1] [(.int 31), (.int 0)])) (fun _ k => XS.bipush X0.here hx rfl (hb hby d11_4) k) ?_
  refine Go.st (f' := (mkF m 7 #[rv a1, iv 1] [(.int 0)])) (fun _ k => XS.iushr X0.here hx rfl (hb hby d11_6) rfl k) ?_
  refine Go.st (f' := (mkF m 8 #[rv a1, iv 1] [(.int 0)])) (fun _ k => XS.i2b X0.here hx rfl (hb hby d11_7) rfl k) ?_
  refine Go.retB X0 hlk hx (t := .byte) hret (by simp) (hb hby d11_8) e0 ?_ (by decide) (by decide)
  exact ⟨rfl, N0, rfl⟩
theorem pn_java_lang_String : plainName "java/lang/String" = true := by first | (simp [plainName, overriddenIn]; done) | decide +kernel
theorem d8_0 : decode jdk_42_method_149_code 0 = .ok (.aload_n 0, 1) := by decide +kernel
theorem d8_1 : decode jdk_42_method_149_code 1 = .ok (.invokespecial 1, 3) := by decide +kernel
theorem d8_4 : decode jdk_42_method_149_code 4 = .ok (.iload_n 3, 1) := by decide +kernel
theorem d8_5 : decode jdk_42_method_149_code 5 = .ok (.ifCond .ne 22, 3) := by decide +kernel
theorem d8_27 : decode jdk_42_method_149_code 27 = .ok (.getstatic 38, 3) := by decide +kernel
theorem d8_30 : decode jdk_42_method_149_code 30 = .ok (.ifCond .eq 28, 3) := by decide +kernel
theorem d8_33 : decode jdk_42_method_149_code 33 = .ok (.aload_n 1, 1) := by decide +kernel
theorem d8_34 : decode jdk_42_method_149_code 34 = .ok (.iload_n 2, 1) := by decide +kernel
theorem d8_35 : decode jdk_42_method_149_code 35 = .ok (.iload_n 3, 1) := by decide +kernel
theorem d8_36 : decode jdk_42_method_149_code 36 = .ok (.invokestatic 177, 3) := by decide +kernel
theorem pd___CII__B : parseMethodDescriptor "([CII)[B" = some ⟨[(.array .char), .int, .int], some (.array .byte)⟩ := by decide +kernel
theorem d8_39 : decode jdk_42_method_149_code 39 = .ok (.astore 5, 2) := by decide +kernel
theorem d8_41 : decode jdk_42_method_149_code 41 = .ok (.aload_n 0, 1) := by decide +kernel
theorem d8_42 : decode jdk_42_method_149_code 42 = .ok (.aload 5, 2) := by decide +kernel
theorem d8_44 : decode jdk_42_method_149_code 44 = .ok (.iload_n 3, 1) := by decide +kernel
theorem d8_45 : decode jdk_42_method_149_code 45 = .ok (.invokestatic 47, 3) := by decide +kernel
theorem pd___BI_B : parseMethodDescriptor "([BI)B" = some ⟨[(.array .byte), .int], some .byte⟩ := by decide +kernel
theorem d8_48 : decode jdk_42_method_149_code 48 = .ok (.putfield 15, 3) := by decide +kernel
theorem d8_51 : decode jdk_42_method_149_code 51 = .ok (.aload_n 0, 1) := by decide +kernel
theorem d8_52 : decode jdk_42_method_149_code 52 = .ok (.aload 5, 2) := by decide +kernel
theorem d8_54 : decode jdk_42_method_149_code 54 = .ok (.putfield 9, 3) := by decide +kernel
theorem d8_57 : decode jdk_42_method_149_code 57 = .ok (.return_, 1) := by decide +kernel
set_option maxRecDepth 65536 in
set_option maxHeartbeats 40000000 in
theorem stv_1 (l : Launch) (Z : State) (a0 : Array Value) (hw : ∀ d ∈ tables_1, d.before a0 Z = true) (ws : List Jvm.Cond) (a0b : Addr) (a1 : Addr) (k1 : ClassId) (c0 : Int32) (i_COMPACT_STRINGS : Int32) (v_SIOOBE_FORMATTER : Value) (h0 : Heap) (n0 : Nat) (O0 : Old Z n0 h0) (hc_c0 : ¬ (255 : Int32) < c0) (g_a0b : n0 ≤ a0b) (nb1 : a0b ≠ a1) (E_a0b : Exa Z h0 a0b "java/lang/String") (F_a0b_coder : Fld Z h0 a0b "java/lang/String" "coder" "B" (.int 0)) (F_a0b_value : Fld Z h0 a0b "java/lang/String" "value" "[B" .null) (V_a1 : Arv Z h0 a1 k1 .char (1 : Int32) [(.int c0)] (.int 0)) (WW : World1 Z i_COMPACT_STRINGS v_SIOOBE_FORMATTER) :
    Con l Z (⟨"java/lang/String", "<init>", "([CIILjava/lang/Void;)V"⟩ : MethodName) jdk_42_method_149_code 6 none ws ({ frames := 2, cells := 1, slots := 1, locals := 35 } : Room) #[(.ref a0b), (.ref a1), (.int 0), (.int 1), .null] h0 (fun v h L => v = none ∧ Fr n0 L ∧ Keep h0 h [a0b] ∧ Exa Z h a0b "java/lang/String" ∧ Fld Z h a0b "java/lang/String" "coder" "B" (.int 0) ∧ ∃ (t : Addr) (kt : ClassId), h0.size ≤ t ∧ Fld Z h a0b "java/lang/String" "value" "[B" (.ref t) ∧ Arv Z h t kt .byte (1 : Int32) [(.int (nar .byte (c0.toInt8.toInt32)))] (.int 0)) := by
  refine own_body (plainFor_of_name pn_java_lang_String) ?_
  intro p e s m below meth c s₁ hx hby hml hZ hown hnm hlk hret X0 e0
  have N0 := Fr.nil n0
  have K0 : Keep h0 h0 [a0b] := Keep.refl _ _
  refine Go.st (T' := s₁) (f' := (mkF m 0 #[rv a0b, rv a1, iv 0, iv 1, .val .null, .unset] [])) (fun _ k => castTop (by first | (simp [entryFrame, mkF, argsToLocals, Value.category]; done) | rfl) k) ?_
  have ⟨S_i_COMPACT_STRINGS, nz_i_COMPACT_STRINGS, S_v_SIOOBE_FORMATTER, r_v_SIOOBE_FORMATTER⟩ := WW
  have lt_a0b := E_a0b.lt
  have lt_a1 := V_a1.lt
  refine Go.st (f' := (mkF m 1 #[rv a0b, rv a1, iv 0, iv 1, .val .null, .unset] [(.ref a0b)])) (fun _ k => XS.aloadN X0.here hx rfl (hb hby d8_0) rfl rfl k) ?_
  obtain ⟨T1, X1, e1, st1⟩ := initO X0 hx hZ hown (hw _ (List.mem_of_getElem? (i := 46) rfl)) (hw _ (List.mem_of_getElem? (i := 7) rfl)) (hw _ (List.mem_of_getElem? (i := 8) rfl)) e0 (g := (mkF m 1 #[rv a0b, rv a1, iv 0, iv 1, .val .null, .unset] [(.ref a0b)])) rfl (by rw [hml]; rfl) rfl (hb hby d8_1) (by decide) (W := 0) (by show 2 * 0 + _ ≤ _; exact Nat.le_of_eq rfl) (by decide)
  refine Go.st (f' := (mkF m 4 #[rv a0b, rv a1, iv 0, iv 1, .val .null, .unset] [])) (fun _ k => st1 _ k) ?_
  refine Go.st (f' := (mkF m 5 #[rv a0b, rv a1, iv 0, iv 1, .val .null, .unset] [(.int 1)])) (fun _ k => XS.iloadN X1.here hx rfl (hb hby d8_4) rfl k) ?_
  refine Go.st (f' := (mkF m 27 #[rv a0b, rv a1, iv 0, iv 1, .val .null, .unset] [])) (fun _ k => XS.ifYes X1.here hx rfl (pc0 := 5) (pc' := 27) rfl (hb hby d8_5) rfl (by decide) (by decide) (by decide) k) ?_
  obtain ⟨T2, X2, e2, st2⟩ := getS2 X1 hx hZ hown (host := "") (Or.inl (hw _ (List.mem_of_getElem? (i := 47) rfl))) Via.refl e1 (S_i_COMPACT_STRINGS.ext O0.2) (g := (mkF m 27 #[rv a0b, rv a1, iv 0, iv 1, .val .null, .unset] [])) rfl (hb hby d8_27)
  refine Go.st (f' := (mkF m 30 #[rv a0b, rv a1, iv 0, iv 1, .val .null, .unset] [(.int i_COMPACT_STRINGS)])) (fun _ k => st2 _ k) ?_
  refine Go.st (f' := (mkF m 33 #[rv a0b, rv a1, iv 0, iv 1, .val .null, .unset] [])) (fun _ k => XS.ifNo X2.here hx rfl (hb hby d8_30) rfl ((if0 _ _).trans (feq nz_i_COMPACT_STRINGS).1) k) ?_
  refine Go.st (f' := (mkF m 34 #[rv a0b, rv a1, iv 0, iv 1, .val .null, .unset] [(.ref a1)])) (fun _ k => XS.aloadN X2.here hx rfl (hb hby d8_33) rfl rfl k) ?_
  refine Go.st (f' := (mkF m 35 #[rv a0b, rv a1, iv 0, iv 1, .val .null, .unset] [(.int 0), (.ref a1)])) (fun _ k => XS.iloadN X2.here hx rfl (hb hby d8_34) rfl k) ?_
  refine Go.st (f' := (mkF m 36 #[rv a0b, rv a1, iv 0, iv 1, .val .null, .unset] [(.int 1), (.int 0), (.ref a1)])) (fun _ k => XS.iloadN X2.here hx rfl (hb hby d8_35) rfl k) ?_
  obtain ⟨_, _, ⟨T3, L3, kk3, nn3⟩, -, X3, ⟨Lc3, hQ3, lq3, yq3, zz3⟩, st3⟩ := Jvm.LawKit.callS X2 hx (y := (⟨"java/lang/StringUTF16", "compress", "([CII)[B"⟩ : MethodName)) hown (mvT hZ (hw _ (List.mem_of_getElem? (i := 48) rfl))) (mvT hZ (hw _ (List.mem_of_getElem? (i := 49) rfl))) (mvT hZ (hw _ (List.mem_of_getElem? (i := 50) rfl))) (mvT hZ (hw _ (List.mem_of_getElem? (i := 51) rfl))) (by decide) (own_back (W := 0) (st3_1 l Z a0 hw [] a1 k1 c0 h0 n0 O0 hc_c0 V_a1) hZ (hw _ (List.mem_of_getElem? (i := 51) rfl)) (hw _ (List.mem_of_getElem? (i := 50) rfl)) (by decide) (by decide)) (g := (mkF m 36 #[rv a0b, rv a1, iv 0, iv 1, .val .null, .unset] [(.int 1), (.int 0), (.ref a1)])) rfl (by rw [hml]; rfl) (argsL := [(.ref a1), (.int (0 : Int32)), (.int (1 : Int32))]) (rest := []) (lenOf pd___CII__B rfl) rfl (by show 2 * 0 + _ ≤ _; exact Nat.le_of_eq rfl) (hb hby d8_36) (fun _ _ => ⟨rfl, e2, (by decide : 0 + 1 ≤ _), (by decide : 0 + 1 ≤ _)⟩)
  dsimp only [Pt.U, Pt.locs, Pt.cells, Pt.slots] at X3 lq3 yq3 zz3 st3 hQ3
  subst lq3 yq3 zz3
  obtain ⟨b3, kb3, rfl, Nq3, zq3, kq3, vq3⟩ := hQ3
  have N3 := Fr.app N0 Nq3
  have ne_a0b_b3 : a0b ≠ b3 := Nat.ne_of_lt (Nat.lt_of_lt_of_le lt_a0b zq3)
  have ne_a1_b3 : a1 ≠ b3 := Nat.ne_of_lt (Nat.lt_of_lt_of_le lt_a1 zq3)
  have g_b3 : n0 ≤ b3 := Nat.le_trans (O0.1 ▸ O0.2.1) zq3
  have sz_b3 : h0.size ≤ b3 := Nat.le_trans K0.1 zq3
  have O3 : Old Z n0 T3.heap := O0.keep kq3 all0
  have K3 : Keep h0 T3.heap [a0b] := K0.trans kq3 all0
  have lt_b3 := vq3.lt
  refine Go.st (f' := (mkF m 39 #[rv a0b, rv a1, iv 0, iv 1, .val .null, .unset] [(.ref b3)])) (fun _ k => st3 _ k) ?_
  refine Go.st (f' := (mkF m 41 #[rv a0b, rv a1, iv 0, iv 1, .val .null, rv b3] [])) (fun _ k => XS.astore X3.here hx rfl (hb hby d8_39) rfl rfl (l' := #[rv a0b, rv a1, iv 0, iv 1, .val .null, rv b3]) rfl k) ?_
  refine Go.st (f' := (mkF m 42 #[rv a0b, rv a1, iv 0, iv 1, .val .null, rv b3] [(.ref a0b)])) (fun _ k => XS.aloadN X3.here hx rfl (hb hby d8_41) rfl rfl k) ?_
  refine Go.st (f' := (mkF m 44 #[rv a0b, rv a1, iv 0, iv 1, .val .null, rv b3] [(.ref b3), (.ref a0b)])) (fun _ k => XS.aload X3.here hx rfl (hb hby d8_42) rfl rfl k) ?_
  refine Go.st (f' := (mkF m 45 #[rv a0b, rv a1, iv 0, iv 1, .val .null, rv b3] [(.int 1), (.ref b3), (.ref a0b)])) (fun _ k => XS.iloadN X3.here hx rfl (hb hby d8_44) rfl k) ?_
  obtain ⟨_, _, ⟨T4, L4, kk4, nn4⟩, -, X4, ⟨Lc4, hQ4, lq4, yq4, zz4⟩, st4⟩ := Jvm.LawKit.callS X3 hx (y := (⟨"java/lang/StringUTF16", "coderFromArrayLen", "([BI)B"⟩ : MethodName)) hown (mvT hZ (hw _ (List.mem_of_getElem? (i := 56) rfl))) (mvT hZ (hw _ (List.mem_of_getElem? (i := 57) rfl))) (mvT hZ (hw _ (List.mem_of_getElem? (i := 50) rfl))) (mvT hZ (hw _ (List.mem_of_getElem? (i := 58) rfl))) (by decide) (own_back (W := 1) (stc_1 l Z a0 hw [] b3 kb3 (nar .byte (c0.toInt8.toInt32)) T3.heap n0 O3 vq3) hZ (hw _ (List.mem_of_getElem? (i := 58) rfl)) (hw _ (List.mem_of_getElem? (i := 50) rfl)) (by decide) (by decide)) (g := (mkF m 45 #[rv a0b, rv a1, iv 0, iv 1, .val .null, rv b3] [(.int 1), (.ref b3), (.ref a0b)])) rfl (by rw [hml]; rfl) (argsL := [(.ref b3), (.int (1 : Int32))]) (rest := [(.ref a0b)]) (lenOf pd___BI_B rfl) rfl (by show 2 * 0 + _ ≤ _; exact Nat.le_of_eq rfl) (hb hby d8_45) (fun _ _ => ⟨rfl, rfl, (by decide : 1 + 0 ≤ _), (by decide : 1 + 0 ≤ _)⟩)
  dsimp only [Pt.U, Pt.locs, Pt.cells, Pt.slots] at X4 lq4 yq4 zz4 st4 hQ4
  subst lq4 yq4 zz4
  obtain ⟨rfl, Nq4, kq4⟩ := hQ4
  have N4 := Fr.app N3 Nq4
  refine Go.st (f' := (mkF m 48 #[rv a0b, rv a1, iv 0, iv 1, .val .null, rv b3] [(.int 0), (.ref a0b)])) (fun _ k => st4 _ k) ?_
  have ft5 := (E_a0b.keep kq3)
  have ft6 := (F_a0b_coder.keep kq3 nin0)
  obtain ⟨T7, h7, X7, e7, W7, st7⟩ := putFN X4 hx hZ hown (hw _ (List.mem_of_getElem? (i := 59) rfl)) Via.refl kq4 ft6 ft5 (Or.inr ⟨(hw _ (List.mem_of_getElem? (i := 60) rfl)), rfl, hnm⟩) (hw _ (List.mem_of_getElem? (i := 36) rfl)) (ty := .byte) (v' := (.int (0 : Int32))) (by decide) rfl (by decide) (g := (mkF m 48 #[rv a0b, rv a1, iv 0, iv 1, .val .null, rv b3] [(.int 0), (.ref a0b)])) rfl rfl (hb hby d8_48)
  have N7 := Fr.snoc X7 N4 g_a0b
  have O7 : Old Z n0 h7 := O3.wr W7 g_a0b
  have K7 : Keep h0 h7 [a0b] := K3.wr W7 (Or.inl (List.mem_of_getElem? (i := 0) rfl))
  have Fw7 := ft6.same W7
  refine Go.st (f' := (mkF m 51 #[rv a0b, rv a1, iv 0, iv 1, .val .null, rv b3] [])) (fun _ k => st7 _ k) ?_
  refine Go.st (f' := (mkF m 52 #[rv a0b, rv a1, iv 0, iv 1, .val .null, rv b3] [(.ref a0b)])) (fun _ k => XS.aloadN X7.here hx rfl (hb hby d8_51) rfl rfl k) ?_
  refine Go.st (f' := (mkF m 54 #[rv a0b, rv a1, iv 0, iv 1, .val .null, rv b3] [(.ref b3), (.ref a0b)])) (fun _ k => XS.aload X7.here hx rfl (hb hby d8_52) rfl rfl k) ?_
  have ft8 := (ft5.wr W7)
  have ft9 := ((F_a0b_value.keep kq3 nin0).other W7 (Or.inr (slot_ne (Or.inr (hw _ (List.mem_of_getElem? (i := 62) rfl))) (Or.inr (hw _ (List.mem_of_getElem? (i := 60) rfl))) (by decide) (t := (.array .byte)) (t' := .byte) (by decide) (by decide))))
  obtain ⟨T10, h10, X10, e10, W10, st10⟩ := putF X7 hx hZ hown (host := "") (Or.inl (hw _ (List.mem_of_getElem? (i := 61) rfl))) Via.refl e7 ft9 ft8 (Or.inr ⟨(hw _ (List.mem_of_getElem? (i := 62) rfl)), rfl, hnm⟩) (hw _ (List.mem_of_getElem? (i := 36) rfl)) (ty := (.array .byte)) (by decide) rfl rfl (g := (mkF m 54 #[rv a0b, rv a1, iv 0, iv 1, .val .null, rv b3] [(.ref b3), (.ref a0b)])) rfl rfl (hb hby d8_54)
  have N10 := Fr.snoc X10 N7 g_a0b
  have O10 : Old Z n0 h10 := O7.wr W10 g_a0b
  have K10 : Keep h0 h10 [a0b] := K7.wr W10 (Or.inl (List.mem_of_getElem? (i := 0) rfl))
  have Fw10 := ft9.same W10
  refine Go.st (f' := (mkF m 57 #[rv a0b, rv a1, iv 0, iv 1, .val .null, rv b3] [])) (fun _ k => st10 _ k) ?_
  refine Go.ret0 X10 hlk hx hret (hb hby d8_57) e10 ?_ (by decide) (by decide)
  have ft11 := (ft8.wr W10)
  have ft12 := (Fw7.other W10 (Or.inr (slot_ne (Or.inr (hw _ (List.mem_of_getElem? (i := 60) rfl))) (Or.inr (hw _ (List.mem_of_getElem? (i := 62) rfl))) (by decide) (t := .byte) (t' := (.array .byte)) (by decide) (by decide))))
  have ft13 := ((vq3.other W7 (Ne.symm ne_a0b_b3)).other W10 (Ne.symm ne_a0b_b3))
  exact ⟨rfl, N10, K10, ft11, ft12, b3, kb3, sz_b3, Fw10, ft13⟩
theorem d7_0 : decode jdk_42_method_3_code 0 = .ok (.aload_n 0, 1) := by decide +kernel
theorem d7_1 : decode jdk_42_method_3_code 1 = .ok (.aload_n 1, 1) := by decide +kernel
theorem d7_2 : decode jdk_42_method_3_code 2 = .ok (.iconst 0, 1) := by decide +kernel
theorem d7_3 : decode jdk_42_method_3_code 3 = .ok (.aload_n 1, 1) := by decide +kernel
theorem d7_4 : decode jdk_42_method_3_code 4 = .ok (.arraylength, 1) := by decide +kernel
theorem d7_5 : decode jdk_42_method_3_code 5 = .ok (.aconst_null, 1) := by decide +kernel
theorem d7_6 : decode jdk_42_method_3_code 6 = .ok (.invokespecial 27, 3) := by decide +kernel
theorem pd___CIILjava_lang_Void__V : parseMethodDescriptor "([CIILjava/lang/Void;)V" = some ⟨[(.array .char), .int, .int, (.object "java/lang/Void")], none⟩ := by decide +kernel
theorem d7_9 : decode jdk_42_method_3_code 9 = .ok (.return_, 1) := by decide +kernel
set_option maxRecDepth 65536 in
set_option maxHeartbeats 40000000 in
theorem st1_1 (l : Launch) (Z : State) (a0 : Array Value) (hw : ∀ d ∈ tables_1, d.before a0 Z = true) (ws : List Jvm.Cond) (a0b : Addr) (a1 : Addr) (k1 : ClassId) (c0 : Int32) (i_COMPACT_STRINGS : Int32) (v_SIOOBE_FORMATTER : Value) (h0 : Heap) (n0 : Nat) (O0 : Old Z n0 h0) (hc_c0 : ¬ (255 : Int32) < c0) (g_a0b : n0 ≤ a0b) (nb1 : a0b ≠ a1) (E_a0b : Exa Z h0 a0b "java/lang/String") (F_a0b_coder : Fld Z h0 a0b "java/lang/String" "coder" "B" (.int 0)) (F_a0b_value : Fld Z h0 a0b "java/lang/String" "value" "[B" .null) (V_a1 : Arv Z h0 a1 k1 .char (1 : Int32) [(.int c0)] (.int 0)) (WW : World1 Z i_COMPACT_STRINGS v_SIOOBE_FORMATTER) :
    Con l Z (⟨"java/lang/String", "<init>", "([C)V"⟩ : MethodName) jdk_42_method_3_code 2 none ws ({ frames := 3, cells := 1, slots := 1, locals := 52 } : Room) #[(.ref a0b), (.ref a1)] h0 (fun v h L => v = none ∧ Fr n0 L ∧ Keep h0 h [a0b] ∧ Exa Z h a0b "java/lang/String" ∧ Fld Z h a0b "java/lang/String" "coder" "B" (.int 0) ∧ ∃ (t : Addr) (kt : ClassId), h0.size ≤ t ∧ Fld Z h a0b "java/lang/String" "value" "[B" (.ref t) ∧ Arv Z h t kt .byte (1 : Int32) [(.int (nar .byte (c0.toInt8.toInt32)))] (.int 0)) := by
  refine own_body (plainFor_of_name pn_java_lang_String) ?_
  intro p e s m below meth c s₁ hx hby hml hZ hown hnm hlk hret X0 e0
  have N0 := Fr.nil n0
  have K0 : Keep h0 h0 [a0b] := Keep.refl _ _
  refine Go.st (T' := s₁) (f' := (mkF m 0 #[rv a0b, rv a1] [])) (fun _ k => castTop (by first | (simp [entryFrame, mkF, argsToLocals, Value.category]; done) | rfl) k) ?_
  have ⟨S_i_COMPACT_STRINGS, nz_i_COMPACT_STRINGS, S_v_SIOOBE_FORMATTER, r_v_SIOOBE_FORMATTER⟩ := WW
  have lt_a0b := E_a0b.lt
  have lt_a1 := V_a1.lt
  refine Go.st (f' := (mkF m 1 #[rv a0b, rv a1] [(.ref a0b)])) (fun _ k => XS.aloadN X0.here hx rfl (hb hby d7_0) rfl rfl k) ?_
  refine Go.st (f' := (mkF m 2 #[rv a0b, rv a1] [(.ref a1), (.ref a0b)])) (fun _ k => XS.aloadN X0.here hx rfl (hb hby d7_1) rfl rfl k) ?_
  refine Go.st (f' := (mkF m 3 #[rv a0b, rv a1] [(.int 0), (.ref a1), (.ref a0b)])) (fun _ k => XS.iconst X0.here hx rfl (hb hby d7_2) k) ?_
  refine Go.st (f' := (mkF m 4 #[rv a0b, rv a1] [(.ref a1), (.int 0), (.ref a1), (.ref a0b)])) (fun _ k => XS.aloadN X0.here hx rfl (hb hby d7_3) rfl rfl k) ?_
  obtain ⟨cl1, Ar1, -, S1, Nx1, -, -⟩ := id V_a1
  refine Go.st (T' := s₁) (f' := (mkF m 5 #[rv a0b, rv a1] [(.int 1), (.int 0), (.ref a1), (.ref a0b)])) (fun _ k => X0.arraylength hx (by rw [e0]; exact Ar1.1) (State.isArrayOf_alike hZ.alike Ar1.2.1) (g := (mkF m 4 #[rv a0b, rv a1] [(.ref a1), (.int 0), (.ref a1), (.ref a0b)])) rfl rfl (hb hby d7_4) _ (by rw [len_of S1 Nx1]; exact k)) ?_
  refine Go.st (f' := (mkF m 6 #[rv a0b, rv a1] [.null, (.int 1), (.int 0), (.ref a1), (.ref a0b)])) (fun _ k => XS.aconstNull X0.here hx rfl (hb hby d7_5) k) ?_
  obtain ⟨_, _, ⟨T2, L2, kk2, nn2⟩, -, X2, ⟨Lc2, hQ2, lq2, yq2, zz2⟩, st2⟩ := X0.specialBack hx (y := (⟨"java/lang/String", "<init>", "([CIILjava/lang/Void;)V"⟩ : MethodName)) rfl hown (mvT hZ (hw _ (List.mem_of_getElem? (i := 42) rfl))) (mvT hZ (hw _ (List.mem_of_getElem? (i := 43) rfl))) (mvT hZ (hw _ (List.mem_of_getElem? (i := 45) rfl))) (by decide) (own_back (W := 0) (stv_1 l Z a0 hw [] a0b a1 k1 c0 i_COMPACT_STRINGS v_SIOOBE_FORMATTER h0 n0 O0 hc_c0 g_a0b nb1 E_a0b F_a0b_coder F_a0b_value V_a1 WW) hZ (hw _ (List.mem_of_getElem? (i := 45) rfl)) (hw _ (List.mem_of_getElem? (i := 37) rfl)) (by decide) (by decide)) (g := (mkF m 6 #[rv a0b, rv a1] [.null, (.int 1), (.int 0), (.ref a1), (.ref a0b)])) rfl (by rw [hml]; rfl) (Steps.refl _) (a := a0b) (argsL := [(.ref a1), (.int (0 : Int32)), (.int (1 : Int32)), .null]) (rest := []) (lenOf pd___CIILjava_lang_Void__V rfl) rfl (by show 2 * 0 + _ ≤ _; exact Nat.le_of_eq rfl) (hb hby d7_6) (fun _ _ => ⟨rfl, e0, (by decide : 0 + 1 ≤ _), (by decide : 0 + 1 ≤ _)⟩)
  dsimp only [Pt.U, Pt.locs, Pt.cells, Pt.slots] at X2 lq2 yq2 zz2 st2 hQ2
  subst lq2 yq2 zz2
  obtain ⟨rfl, Nq2, kq2, eq2, cq2, tt2, kt2, zq2, fq2, vq2⟩ := hQ2
  have N2 := Fr.app N0 Nq2
  have ne_a0b_tt2 : a0b ≠ tt2 := Nat.ne_of_lt (Nat.lt_of_lt_of_le lt_a0b zq2)
  have ne_a1_tt2 : a1 ≠ tt2 := Nat.ne_of_lt (Nat.lt_of_lt_of_le lt_a1 zq2)
  have g_tt2 : n0 ≤ tt2 := Nat.le_trans (O0.1 ▸ O0.2.1) zq2
  have sz_tt2 : h0.size ≤ tt2 := Nat.le_trans K0.1 zq2
  have O2 : Old Z n0 T2.heap := O0.keep kq2 (allS g_a0b all0)
  have K2 : Keep h0 T2.heap [a0b] := K0.trans kq2 (allS (Or.inl (List.mem_of_getElem? (i := 0) rfl)) all0)
  have lt_tt2 := vq2.lt
  refine Go.tr (f' := (mkF m 9 #[rv a0b, rv a1] [])) st2 ?_
  refine Go.ret0 X2 hlk hx hret (hb hby d7_9) rfl ?_ (by decide) (by decide)
  exact ⟨rfl, N2, K2, eq2, cq2, tt2, kt2, sz_tt2, fq2, vq2⟩
set_option maxRecDepth 65536 in
set_option maxHeartbeats 40000000 in
theorem st5_2 (l : Launch) (Z : State) (a0 : Array Value) (hw : ∀ d ∈ tables_1, d.before a0 Z = true) (ws : List Jvm.Cond) (a2 : Addr) (k2 : ClassId) (a1 : Addr) (k1 : ClassId) (c0 : Int32) (c1 : Int32) (h0 : Heap) (n0 : Nat) (O0 : Old Z n0 h0) (hc_c0 : ¬ (255 : Int32) < c0) (hc_c1 : ¬ (255 : Int32) < c1) (ne12 : a1 ≠ a2) (g_a2 : n0 ≤ a2) (V_a1 : Arv Z h0 a1 k1 .char (2 : Int32) [(.int c0), (.int c1)] (.int 0)) (V_a2 : Arv Z h0 a2 k2 .byte (2 : Int32) [(.int 0), (.int 0)] (.int 0)) :
    Con l Z (⟨"java/lang/StringUTF16", "compress", "([CI[BII)I"⟩ : MethodName) jdk_52_method_21_code 7 (some .int) ws ({ frames := 0, cells := 0, slots := 0, locals := 0 } : Room) #[(.ref a1), (.int 0), (.ref a2), (.int 0), (.int 2)] h0 (fun v h L => v = some (.int 2) ∧ Fr n0 L ∧ Keep h0 h [a2] ∧ Arv Z h a2 k2 .byte (2 : Int32) [(.int (nar .byte (c0.toInt8.toInt32))), (.int (nar .byte (c1.toInt8.toInt32)))] (.int 0)) := by
  refine own_body (plainFor_of_name pn_java_lang_StringUTF16) ?_
  intro p e s m below meth c s₁ hx hby hml hZ hown hnm hlk hret X0 e0
  have N0 := Fr.nil n0
  have K0 : Keep h0 h0 [a2] := Keep.refl _ _
  refine Go.st (T' := s₁) (f' := (mkF m 0 #[rv a1, iv 0, rv a2, iv 0, iv 2, .unset, .unset] [])) (fun _ k => castTop (by first | (simp [entryFrame, mkF, argsToLocals, Value.category]; done) | rfl) k) ?_
  have lt_a1 := V_a1.lt
  have lt_a2 := V_a2.lt
  refine Go.st (f' := (mkF m 1 #[rv a1, iv 0, rv a2, iv 0, iv 2, .unset, .unset] [(.int 0)])) (fun _ k => XS.iconst X0.here hx rfl (hb hby d10_0) k) ?_
  refine Go.st (f' := (mkF m 3 #[rv a1, iv 0, rv a2, iv 0, iv 2, iv 0, .unset] [])) (fun _ k => XS.istore X0.here hx rfl (hb hby d10_1) rfl (l' := #[rv a1, iv 0, rv a2, iv 0, iv 2, iv 0, .unset]) rfl k) ?_
  refine Go.st (f' := (mkF m 5 #[rv a1, iv 0, rv a2, iv 0, iv 2, iv 0, .unset] [(.int 0)])) (fun _ k => XS.iload X0.here hx rfl (hb hby d10_3) rfl k) ?_
  refine Go.st (f' := (mkF m 7 #[rv a1, iv 0, rv a2, iv 0, iv 2, iv 0, .unset] [(.int 2), (.int 0)])) (fun _ k => XS.iload X0.here hx rfl (hb hby d10_5) rfl k) ?_
  refine Go.st (f' := (mkF m 10 #[rv a1, iv 0, rv a2, iv 0, iv 2, iv 0, .unset] [])) (fun _ k => XS.icmpNo X0.here hx rfl (hb hby d10_7) rfl (by decide) k) ?_
  refine Go.st (f' := (mkF m 11 #[rv a1, iv 0, rv a2, iv 0, iv 2, iv 0, .unset] [(.ref a1)])) (fun _ k => XS.aloadN X0.here hx rfl (hb hby d10_10) rfl rfl k) ?_
  refine Go.st (f' := (mkF m 12 #[rv a1, iv 0, rv a2, iv 0, iv 2, iv 0, .unset] [(.int 0), (.ref a1)])) (fun _ k => XS.iloadN X0.here hx rfl (hb hby d10_11) rfl k) ?_
  obtain ⟨cl1, Ar1, -, S1, -, H1, -⟩ := id V_a1
  have hin1 : ¬ ((0 : Int32) < 0 ∨ cl1.slots.size ≤ ((0 : Int32)).toNatClampNeg) := inb_of S1 ⟨by decide, by decide⟩
  have hat1 : cl1.slots[((0 : Int32)).toNatClampNeg]? = some (.int c0) := H1.at hin1 rfl
  refine Go.st (f' := (mkF m 13 #[rv a1, iv 0, rv a2, iv 0, iv 2, iv 0, .unset] [(.int c0)])) (fun _ k => X0.caload hx (j := (0 : Int32)) (v := (.int c0)) (by rw [e0]; exact Ar1.1) (State.isArrayOf_alike hZ.alike Ar1.2.1) Ar1.2.2 hin1 hat1 (g := (mkF m 12 #[rv a1, iv 0, rv a2, iv 0, iv 2, iv 0, .unset] [(.int 0), (.ref a1)])) rfl rfl (hb hby d10_12) _ k) ?_
  refine Go.st (f' := (mkF m 15 #[rv a1, iv 0, rv a2, iv 0, iv 2, iv 0, iv c0] [])) (fun _ k => XS.istore X0.here hx rfl (hb hby d10_13) rfl (l' := #[rv a1, iv 0, rv a2, iv 0, iv 2, iv 0, iv c0]) rfl k) ?_
  refine Go.st (f' := (mkF m 17 #[rv a1, iv 0, rv a2, iv 0, iv 2, iv 0, iv c0] [(.int c0)])) (fun _ k => XS.iload X0.here hx rfl (hb hby d10_15) rfl k) ?_
  refine Go.st (f' := (mkF m 20 #[rv a1, iv 0, rv a2, iv 0, iv 2, iv 0, iv c0] [(.int 255), (.int c0)])) (fun _ k => XS.sipush X0.here hx rfl (hb hby d10_17) k) ?_
  refine Go.st (f' := (mkF m 26 #[rv a1, iv 0, rv a2, iv 0, iv 2, iv 0, iv c0] [])) (fun _ k => XS.icmpYes X0.here hx rfl (pc0 := 20) (pc' := 26) rfl (hb hby d10_20) rfl (flt hc_c0).2.2.2 (by decide) (by decide) k) ?_
  refine Go.st (f' := (mkF m 27 #[rv a1, iv 0, rv a2, iv 0, iv 2, iv 0, iv c0] [(.ref a2)])) (fun _ k => XS.aloadN X0.here hx rfl (hb hby d10_26) rfl rfl k) ?_
  refine Go.st (f' := (mkF m 28 #[rv a1, iv 0, rv a2, iv 0, iv 2, iv 0, iv c0] [(.int 0), (.ref a2)])) (fun _ k => XS.iloadN X0.here hx rfl (hb hby d10_27) rfl k) ?_
  refine Go.st (f' := (mkF m 30 #[rv a1, iv 0, rv a2, iv 0, iv 2, iv 0, iv c0] [(.int c0), (.int 0), (.ref a2)])) (fun _ k => XS.iload X0.here hx rfl (hb hby d10_28) rfl k) ?_
  refine Go.st (f' := (mkF m 31 #[rv a1, iv 0, rv a2, iv 0, iv 2, iv 0, iv c0] [(.int (c0.toInt8.toInt32)), (.int 0), (.ref a2)])) (fun _ k => XS.i2b X0.here hx rfl (hb hby d10_30) rfl k) ?_
  obtain ⟨cl2, Ar2, q2, S2, Nx2, H2, G2⟩ := id V_a2
  have hin2 : ¬ ((0 : Int32) < 0 ∨ cl2.slots.size ≤ ((0 : Int32)).toNatClampNeg) := inb_of S2 ⟨by decide, by decide⟩
  obtain ⟨T3, h3, X3, e3, W3, st3⟩ := stB X0 hx hZ e0 Ar2 (j := (0 : Int32)) hin2 (g := (mkF m 31 #[rv a1, iv 0, rv a2, iv 0, iv 2, iv 0, iv c0] [(.int (c0.toInt8.toInt32)), (.int 0), (.ref a2)])) rfl rfl (hb hby d10_31)
  have V_a2_3 : Arv Z h3 a2 k2 .byte (2 : Int32) [(.int (nar .byte (c0.toInt8.toInt32))), (.int (0 : Int32))] (.int (0 : Int32)) := Arv.set Ar2 q2 S2 Nx2 H2 G2 (fits_nar_byte _) W3 0 rfl (Nat.le_of_ble_eq_true rfl)
  have N3 := Fr.snoc X3 N0 g_a2
  have O3 : Old Z n0 h3 := O0.wr W3 g_a2
  have K3 : Keep h0 h3 [a2] := K0.wr W3 (Or.inl (List.mem_of_getElem? (i := 0) rfl))
  refine Go.st (f' := (mkF m 32 #[rv a1, iv 0, rv a2, iv 0, iv 2, iv 0, iv c0] [])) (fun _ k => st3 _ k) ?_
  refine Go.st (f' := (mkF m 35 #[rv a1, iv 1, rv a2, iv 0, iv 2, iv 0, iv c0] [])) (fun _ k => XS.iinc X3.here hx rfl (hb hby d10_32) rfl (l' := #[rv a1, iv 1, rv a2, iv 0, iv 2, iv 0, iv c0]) rfl k) ?_
  refine Go.st (f' := (mkF m 38 #[rv a1, iv 1, rv a2, iv 1, iv 2, iv 0, iv c0] [])) (fun _ k => XS.iinc X3.here hx rfl (hb hby d10_35) rfl (l' := #[rv a1, iv 1, rv a2, iv 1, iv 2, iv 0, iv c0]) rfl k) ?_
  refine Go.st (f' := (mkF m 41 #[rv a1, iv 1, rv a2, iv 1, iv 2, iv 1, iv c0] [])) (fun _ k => XS.iinc X3.here hx rfl (hb hby d10_38) rfl (l' := #[rv a1, iv 1, rv a2, iv 1, iv 2, iv 1, iv c0]) rfl k) ?_
  refine Go.st (f' := (mkF m 3 #[rv a1, iv 1, rv a2, iv 1, iv 2, iv 1, iv c0] [])) (fun _ k => XS.goto X3.here hx rfl (pc0 := 41) (pc' := 3) rfl (hb hby d10_41) (by decide) (by decide) k) ?_
  refine Go.st (f' := (mkF m 5 #[rv a1, iv 1, rv a2, iv 1, iv 2, iv 1, iv c0] [(.int 1)])) (fun _ k => XS.iload X3.here hx rfl (hb hby d10_3) rfl k) ?_
  refine Go.st (f' := (mkF m 7 #[rv a1, iv 1, rv a2, iv 1, iv 2, iv 1, iv c0] [(.int 2), (.int 1)])) (fun _ k => XS.iload X3.here hx rfl (hb hby d10_5) rfl k) ?_
  refine Go.st (f' := (mkF m 10 #[rv a1, iv 1, rv a2, iv 1, iv 2, iv 1, iv c0] [])) (fun _ k => XS.icmpNo X3.here hx rfl (hb hby d10_7) rfl (by decide) k) ?_
  refine Go.st (f' := (mkF m 11 #[rv a1, iv 1, rv a2, iv 1, iv 2, iv 1, iv c0] [(.ref a1)])) (fun _ k => XS.aloadN X3.here hx rfl (hb hby d10_10) rfl rfl k) ?_
  refine Go.st (f' := (mkF m 12 #[rv a1, iv 1, rv a2, iv 1, iv 2, iv 1, iv c0] [(.int 1), (.ref a1)])) (fun _ k => XS.iloadN X3.here hx rfl (hb hby d10_11) rfl k) ?_
  have ft5 := (V_a1.other W3 ne12)
  obtain ⟨cl4, Ar4, -, S4, -, H4, -⟩ := id ft5
  have hin4 : ¬ ((1 : Int32) < 0 ∨ cl4.slots.size ≤ ((1 : Int32)).toNatClampNeg) := inb_of S4 ⟨by decide, by decide⟩
  have hat4 : cl4.slots[((1 : Int32)).toNatClampNeg]? = some (.int c1) := H4.at hin4 rfl
  refine Go.st (f' := (mkF m 13 #[rv a1, iv 1, rv a2, iv 1, iv 2, iv 1, iv c0] [(.int c1)])) (fun _ k => X3.caload hx (j := (1 : Int32)) (v := (.int c1)) (by rw [e3]; exact Ar4.1) (State.isArrayOf_alike hZ.alike Ar4.2.1) Ar4.2.2 hin4 hat4 (g := (mkF m 12 #[rv a1, iv 1, rv a2, iv 1, iv 2, iv 1, iv c0] [(.int 1), (.ref a1)])) rfl rfl (hb hby d10_12) _ k) ?_
  refine Go.st (f' := (mkF m 15 #[rv a1, iv 1, rv a2, iv 1, iv 2, iv 1, iv c1] [])) (fun _ k => XS.istore X3.here hx rfl (hb hby d10_13) rfl (l' := #[rv a1, iv 1, rv a2, iv 1, iv 2, iv 1, iv c1]) rfl k) ?_
  refine Go.st (f' := (mkF m 17 #[rv a1, iv 1, rv a2, iv 1, iv 2, iv 1, iv c1] [(.int c1)])) (fun _ k => XS.iload X3.here hx rfl (hb hby d10_15) rfl k) ?_
  refine Go.st (f' := (mkF m 20 #[rv a1, iv 1, rv a2, iv 1, iv 2, iv 1, iv c1] [(.int 255), (.int c1)])) (fun _ k => XS.sipush X3.here hx rfl (hb hby d10_17) k) ?_
  refine Go.st (f' := (mkF m 26 #[rv a1, iv 1, rv a2, iv 1, iv 2, iv 1, iv c1] [])) (fun _ k => XS.icmpYes X3.here hx rfl (pc0 := 20) (pc' := 26) rfl (hb hby d10_20) rfl (flt hc_c1).2.2.2 (by decide) (by decide) k) ?_
  refine Go.st (f' := (mkF m 27 #[rv a1, iv 1, rv a2, iv 1, iv 2, iv 1, iv c1] [(.ref a2)])) (fun _ k => XS.aloadN X3.here hx rfl (hb hby d10_26) rfl rfl k) ?_
  refine Go.st (f' := (mkF m 28 #[rv a1, iv 1, rv a2, iv 1, iv 2, iv 1, iv c1] [(.int 1), (.ref a2)])) (fun _ k => XS.iloadN X3.here hx rfl (hb hby d10_27) rfl k) ?_
  refine Go.st (f' := (mkF m 30 #[rv a1, iv 1, rv a2, iv 1, iv 2, iv 1, iv c1] [(.int c1), (.int 1), (.ref a2)])) (fun _ k => XS.iload X3.here hx rfl (hb hby d10_28) rfl k) ?_
  refine Go.st (f' := (mkF m 31 #[rv a1, iv 1, rv a2, iv 1, iv 2, iv 1, iv c1] [(.int (c1.toInt8.toInt32)), (.int 1), (.ref a2)])) (fun _ k => XS.i2b X3.here hx rfl (hb hby d10_30) rfl k) ?_
  obtain ⟨cl6, Ar6, q6, S6, Nx6, H6, G6⟩ := id V_a2_3
  have hin6 : ¬ ((1 : Int32) < 0 ∨ cl6.slots.size ≤ ((1 : Int32)).toNatClampNeg) := inb_of S6 ⟨by decide, by decide⟩
  obtain ⟨T7, h7, X7, e7, W7, st7⟩ := stB X3 hx hZ e3 Ar6 (j := (1 : Int32)) hin6 (g := (mkF m 31 #[rv a1, iv 1, rv a2, iv 1, iv 2, iv 1, iv c1] [(.int (c1.toInt8.toInt32)), (.int 1), (.ref a2)])) rfl rfl (hb hby d10_31)
  have V_a2_7 : Arv Z h7 a2 k2 .byte (2 : Int32) [(.int (nar .byte (c0.toInt8.toInt32))), (.int (nar .byte (c1.toInt8.toInt32)))] (.int (0 : Int32)) := Arv.set Ar6 q6 S6 Nx6 H6 G6 (fits_nar_byte _) W7 1 rfl (Nat.le_of_ble_eq_true rfl)
  have N7 := Fr.snoc X7 N3 g_a2
  have O7 : Old Z n0 h7 := O3.wr W7 g_a2
  have K7 : Keep h0 h7 [a2] := K3.wr W7 (Or.inl (List.mem_of_getElem? (i := 0) rfl))
  refine Go.st (f' := (mkF m 32 #[rv a1, iv 1, rv a2, iv 1, iv 2, iv 1, iv c1] [])) (fun _ k => st7 _ k) ?_
  refine Go.st (f' := (mkF m 35 #[rv a1, iv 2, rv a2, iv 1, iv 2, iv 1, iv c1] [])) (fun _ k => XS.iinc X7.here hx rfl (hb hby d10_32) rfl (l' := #[rv a1, iv 2, rv a2, iv 1, iv 2, iv 1, iv c1]) rfl k) ?_
  refine Go.st (f' := (mkF m 38 #[rv a1, iv 2, rv a2, iv 2, iv 2, iv 1, iv c1] [])) (fun _ k => XS.iinc X7.here hx rfl (hb hby d10_35) rfl (l' := #[rv a1, iv 2, rv a2, iv 2, iv 2, iv 1, iv c1]) rfl k) ?_
  refine Go.st (f' := (mkF m 41 #[rv a1, iv 2, rv a2, iv 2, iv 2, iv 2, iv c1] [])) (fun _ k => XS.iinc X7.here hx rfl (hb hby d10_38) rfl (l' := #[rv a1, iv 2, rv a2, iv 2, iv 2, iv 2, iv c1]) rfl k) ?_
  refine Go.st (f' := (mkF m 3 #[rv a1, iv 2, rv a2, iv 2, iv 2, iv 2, iv c1] [])) (fun _ k => XS.goto X7.here hx rfl (pc0 := 41) (pc' := 3) rfl (hb hby d10_41) (by decide) (by decide) k) ?_
  refine Go.st (f' := (mkF m 5 #[rv a1, iv 2, rv a2, iv 2, iv 2, iv 2, iv c1] [(.int 2)])) (fun _ k => XS.iload X7.here hx rfl (hb hby d10_3) rfl k) ?_
  refine Go.st (f' := (mkF m 7 #[rv a1, iv 2, rv a2, iv 2, iv 2, iv 2, iv c1] [(.int 2), (.int 2)])) (fun _ k => XS.iload X7.here hx rfl (hb hby d10_5) rfl k) ?_
  refine Go.st (f' := (mkF m 44 #[rv a1, iv 2, rv a2, iv 2, iv 2, iv 2, iv c1] [])) (fun _ k => XS.icmpYes X7.here hx rfl (pc0 := 7) (pc' := 44) rfl (hb hby d10_7) rfl (by decide) (by decide) (by decide) k) ?_
  refine Go.st (f' := (mkF m 46 #[rv a1, iv 2, rv a2, iv 2, iv 2, iv 2, iv c1] [(.int 2)])) (fun _ k => XS.iload X7.here hx rfl (hb hby d10_44) rfl k) ?_
  refine Go.retV X7 hlk hx (t := .int) hret rfl (Or.inl ⟨rfl, Or.inl rfl, _, rfl⟩) (hb hby d10_46) e7 ?_ (by decide) (by decide)
  exact ⟨rfl, N7, K7, V_a2_7⟩
set_option maxRecDepth 65536 in
set_option maxHeartbeats 40000000 in
theorem st3_2 (l : Launch) (Z : State) (a0 : Array Value) (hw : ∀ d ∈ tables_1, d.before a0 Z = true) (ws : List Jvm.Cond) (a1 : Addr) (k1 : ClassId) (c0 : Int32) (c1 : Int32) (h0 : Heap) (n0 : Nat) (O0 : Old Z n0 h0) (hc_c0 : ¬ (255 : Int32) < c0) (hc_c1 : ¬ (255 : Int32) < c1) (V_a1 : Arv Z h0 a1 k1 .char (2 : Int32) [(.int c0), (.int c1)] (.int 0)) :
    Con l Z (⟨"java/lang/StringUTF16", "compress", "([CII)[B"⟩ : MethodName) jdk_52_method_16_code 6 (some (.array .byte)) ws ({ frames := 1, cells := 1, slots := 2, locals := 18 } : Room) #[(.ref a1), (.int 0), (.int 2)] h0 (fun v h L => ∃ (b : Addr) (kb : ClassId), v = some (.ref b) ∧ Fr n0 L ∧ h0.size ≤ b ∧ Keep h0 h [] ∧ Arv Z h b kb .byte (2 : Int32) [(.int (nar .byte (c0.toInt8.toInt32))), (.int (nar .byte (c1.toInt8.toInt32)))] (.int 0)) := by
  refine own_body (plainFor_of_name pn_java_lang_StringUTF16) ?_
  intro p e s m below meth c s₁ hx hby hml hZ hown hnm hlk hret X0 e0
  have N0 := Fr.nil n0
  have K0 : Keep h0 h0 [] := Keep.refl _ _
  refine Go.st (T' := s₁) (f' := (mkF m 0 #[rv a1, iv 0, iv 2, .unset, .unset, .unset] [])) (fun _ k => castTop (by first | (simp [entryFrame, mkF, argsToLocals, Value.category]; done) | rfl) k) ?_
  have lt_a1 := V_a1.lt
  refine Go.st (f' := (mkF m 1 #[rv a1, iv 0, iv 2, .unset, .unset, .unset] [(.int 2)])) (fun _ k => XS.iloadN X0.here hx rfl (hb hby d9_0) rfl k) ?_
  obtain ⟨T1, h1, kc1, X1, e1, E1, A1, st1⟩ := newP X0 hx hZ (hw _ (List.mem_of_getElem? (i := 52) rfl)) e0 (g := (mkF m 1 #[rv a1, iv 0, iv 2, .unset, .unset, .unset] [(.int 2)])) rfl (hb hby d9_1) rfl (by decide) (cap := 2) (by decide) (by decide) (by decide) (by decide)
  obtain ⟨b1, g1⟩ : ∃ z, z = h0.size := ⟨_, rfl⟩
  rw [← g1] at A1 st1
  have ne_a1_b1 : a1 ≠ b1 := Nat.ne_of_lt (Nat.lt_of_lt_of_eq lt_a1 g1.symm)
  have g_b1 : n0 ≤ b1 := Nat.le_trans (O0.1 ▸ O0.2.1) (Nat.le_of_eq g1.symm)
  have O1 : Old Z n0 h1 := O0.ext E1
  have sz_b1 : h0.size ≤ b1 := Nat.le_trans K0.1 (Nat.le_of_eq g1.symm)
  have K1 : Keep h0 h1 [] := K0.ext E1
  have V_b1 : Arv Z h1 b1 kc1 .byte (2 : Int32) [(.int (0 : Int32)), (.int (0 : Int32))] (.int (0 : Int32)) := (Arv.new A1 (by decide)).pad (pad_rep [] (.int (0 : Int32)) 2)
  have lt_b1 := V_b1.lt
  refine Go.st (f' := (mkF m 3 #[rv a1, iv 0, iv 2, .unset, .unset, .unset] [(.ref b1)])) (fun _ k => st1 _ k) ?_
  refine Go.st (f' := (mkF m 4 #[rv a1, iv 0, iv 2, rv b1, .unset, .unset] [])) (fun _ k => XS.astoreN X1.here hx rfl (hb hby d9_3) rfl rfl (l' := #[rv a1, iv 0, iv 2, rv b1, .unset, .unset]) rfl k) ?_
  refine Go.st (f' := (mkF m 5 #[rv a1, iv 0, iv 2, rv b1, .unset, .unset] [(.ref a1)])) (fun _ k => XS.aloadN X1.here hx rfl (hb hby d9_4) rfl rfl k) ?_
  refine Go.st (f' := (mkF m 6 #[rv a1, iv 0, iv 2, rv b1, .unset, .unset] [(.int 0), (.ref a1)])) (fun _ k => XS.iloadN X1.here hx rfl (hb hby d9_5) rfl k) ?_
  refine Go.st (f' := (mkF m 7 #[rv a1, iv 0, iv 2, rv b1, .unset, .unset] [(.ref b1), (.int 0), (.ref a1)])) (fun _ k => XS.aloadN X1.here hx rfl (hb hby d9_6) rfl rfl k) ?_
  refine Go.st (f' := (mkF m 8 #[rv a1, iv 0, iv 2, rv b1, .unset, .unset] [(.int 0), (.ref b1), (.int 0), (.ref a1)])) (fun _ k => XS.iconst X1.here hx rfl (hb hby d9_7) k) ?_
  refine Go.st (f' := (mkF m 9 #[rv a1, iv 0, iv 2, rv b1, .unset, .unset] [(.int 2), (.int 0), (.ref b1), (.int 0), (.ref a1)])) (fun _ k => XS.iloadN X1.here hx rfl (hb hby d9_8) rfl k) ?_
  have ft3 := (V_a1.ext E1)
  obtain ⟨_, _, ⟨T2, L2, kk2, nn2⟩, -, X2, ⟨Lc2, hQ2, lq2, yq2, zz2⟩, st2⟩ := Jvm.LawKit.callS X1 hx (y := (⟨"java/lang/StringUTF16", "compress", "([CI[BII)I"⟩ : MethodName)) hown (mvT hZ (hw _ (List.mem_of_getElem? (i := 53) rfl))) (mvT hZ (hw _ (List.mem_of_getElem? (i := 54) rfl))) (mvT hZ (hw _ (List.mem_of_getElem? (i := 50) rfl))) (mvT hZ (hw _ (List.mem_of_getElem? (i := 55) rfl))) (by decide) (own_back (W := 0) (st5_2 l Z a0 hw [] b1 kc1 a1 k1 c0 c1 h1 n0 O1 hc_c0 hc_c1 ne_a1_b1 g_b1 ft3 V_b1) hZ (hw _ (List.mem_of_getElem? (i := 55) rfl)) (hw _ (List.mem_of_getElem? (i := 50) rfl)) (by decide) (by decide)) (g := (mkF m 9 #[rv a1, iv 0, iv 2, rv b1, .unset, .unset] [(.int 2), (.int 0), (.ref b1), (.int 0), (.ref a1)])) rfl (by rw [hml]; rfl) (argsL := [(.ref a1), (.int (0 : Int32)), (.ref b1), (.int (0 : Int32)), (.int (2 : Int32))]) (rest := []) (lenOf pd___CI_BII_I rfl) rfl (by show 2 * 0 + _ ≤ _; exact Nat.le_of_eq rfl) (hb hby d9_9) (fun _ _ => ⟨rfl, e1, (by decide : 1 + 0 ≤ _), (by decide : 2 + 0 ≤ _)⟩)
  dsimp only [Pt.U, Pt.locs, Pt.cells, Pt.slots] at X2 lq2 yq2 zz2 st2 hQ2
  subst lq2 yq2 zz2
  obtain ⟨rfl, Nq2, kq2, vq2⟩ := hQ2
  have N2 := Fr.app N0 Nq2
  have O2 : Old Z n0 T2.heap := O1.keep kq2 (allS g_b1 all0)
  have K2 : Keep h0 T2.heap [] := K1.trans kq2 (allS (Or.inr sz_b1) all0)
  refine Go.st (f' := (mkF m 12 #[rv a1, iv 0, iv 2, rv b1, .unset, .unset] [(.int 2)])) (fun _ k => st2 _ k) ?_
  refine Go.st (f' := (mkF m 14 #[rv a1, iv 0, iv 2, rv b1, iv 2, .unset] [])) (fun _ k => XS.istore X2.here hx rfl (hb hby d9_12) rfl (l' := #[rv a1, iv 0, iv 2, rv b1, iv 2, .unset]) rfl k) ?_
  refine Go.st (f' := (mkF m 16 #[rv a1, iv 0, iv 2, rv b1, iv 2, .unset] [(.int 2)])) (fun _ k => XS.iload X2.here hx rfl (hb hby d9_14) rfl k) ?_
  refine Go.st (f' := (mkF m 17 #[rv a1, iv 0, iv 2, rv b1, iv 2, .unset] [(.int 2), (.int 2)])) (fun _ k => XS.iloadN X2.here hx rfl (hb hby d9_16) rfl k) ?_
  refine Go.st (f' := (mkF m 57 #[rv a1, iv 0, iv 2, rv b1, iv 2, .unset] [])) (fun _ k => XS.icmpYes X2.here hx rfl (pc0 := 17) (pc' := 57) rfl (hb hby d9_17) rfl (by decide) (by decide) (by decide) k) ?_
  refine Go.st (f' := (mkF m 58 #[rv a1, iv 0, iv 2, rv b1, iv 2, .unset] [(.ref b1)])) (fun _ k => XS.aloadN X2.here hx rfl (hb hby d9_57) rfl rfl k) ?_
  refine Go.retV X2 hlk hx (t := (.array .byte)) hret rfl (Or.inr (Or.inr (Or.inr (Or.inr ⟨rfl, rfl, rfl⟩)))) (hb hby d9_58) rfl ?_ (by decide) (by decide)
  exact ⟨b1, kc1, rfl, N2, sz_b1, K2, vq2⟩
set_option maxRecDepth 65536 in
set_option maxHeartbeats 40000000 in
theorem stc_2 (l : Launch) (Z : State) (a0 : Array Value) (hw : ∀ d ∈ tables_1, d.before a0 Z = true) (ws : List Jvm.Cond) (a1 : Addr) (k1 : ClassId) (x0 : Int32) (x1 : Int32) (h0 : Heap) (n0 : Nat) (O0 : Old Z n0 h0) (V_a1 : Arv Z h0 a1 k1 .byte (2 : Int32) [(.int x0), (.int x1)] (.int 0)) :
    Con l Z (⟨"java/lang/StringUTF16", "coderFromArrayLen", "([BI)B"⟩ : MethodName) jdk_52_method_15_code 2 (some .byte) ws ({ frames := 0, cells := 0, slots := 0, locals := 0 } : Room) #[(.ref a1), (.int 2)] h0 (fun v h L => v = some (.int 0) ∧ Fr n0 L ∧ h = h0) := by
  refine own_body (plainFor_of_name pn_java_lang_StringUTF16) ?_
  intro p e s m below meth c s₁ hx hby hml hZ hown hnm hlk hret X0 e0
  have N0 := Fr.nil n0
  refine Go.st (T' := s₁) (f' := (mkF m 0 #[rv a1, iv 2] [])) (fun _ k => castTop (by first | (simp [entryFrame, mkF, argsToLocals, Value.category]; done) | rfl) k) ?_
  have lt_a1 := V_a1.lt
  refine Go.st (f' := (mkF m 1 #[rv a1, iv 2] [(.int 2)])) (fun _ k => XS.iloadN X0.here hx rfl (hb hby d11_0) rfl k) ?_
  refine Go.st (f' := (mkF m 2 #[rv a1, iv 2] [(.ref a1), (.int 2)])) (fun _ k => XS.aloadN X0.here hx rfl (hb hby d11_1) rfl rfl k) ?_
  obtain ⟨cl1, Ar1, -, S1, Nx1, -, -⟩ := id V_a1
  refine Go.st (T' := s₁) (f' := (mkF m 3 #[rv a1, iv 2] [(.int 2), (.int 2)])) (fun _ k => X0.arraylength hx (by rw [e0]; exact Ar1.1) (State.isArrayOf_alike hZ.alike Ar1.2.1) (g := (mkF m 2 #[rv a1, iv 2] [(.ref a1), (.int 2)])) rfl rfl (hb hby d11_2) _ (by rw [len_of S1 Nx1]; exact k)) ?_
  refine Go.st (f' := (mkF m 4 #[rv a1, iv 2] [(.int 0)])) (fun _ k => XS.isub X0.here hx rfl (hb hby d11_3) rfl k) ?_
  refine Go.st (f' := (mkF m 6 #[rv a1, iv 2] [(.int 31), (.int 0)])) (fun _ k => XS.bipush X0.here hx rfl (hb hby d11_4) k) ?_
  refine Go.st (f' := (mkF m 7 #[rv a1, iv 2] [(.int 0)])) (fun _ k => XS.iushr X0.here hx rfl (hb hby d11_6) rfl k) ?_
  refine Go.st (f' := (mkF m 8 #[rv a1, iv 2] [(.int 0)])) (fun _ k => XS.i2b X0.here hx rfl (hb hby d11_7) rfl k) ?_
  refine Go.retB X0 hlk hx (t := .byte) hret (by simp) (hb hby d11_8) e0 ?_ (by decide) (by decide)
  exact ⟨rfl, N0, rfl⟩
set_option maxRecDepth 65536 in
set_option maxHeartbeats 40000000 in
theorem stv_2 (l : Launch) (Z : State) (a0 : Array Value) (hw : ∀ d ∈ tables_1, d.before a0 Z = true) (ws : List Jvm.Cond) (a0b : Addr) (a1 : Addr) (k1 : ClassId) (c0 : Int32) (c1 : Int32) (i_COMPACT_STRINGS : Int32) (v_SIOOBE_FORMATTER : Value) (h0 : Heap) (n0 : Nat) (O0 : Old Z n0 h0) (hc_c0 : ¬ (255 : Int32) < c0) (hc_c1 : ¬ (255 : Int32) < c1) (g_a0b : n0 ≤ a0b) (nb1 : a0b ≠ a1) (E_a0b : Exa Z h0 a0b "java/lang/String") (F_a0b_coder : Fld Z h0 a0b "java/lang/String" "coder" "B" (.int 0)) (F_a0b_value : Fld Z h0 a0b "java/lang/String" "value" "[B" .null) (V_a1 : Arv Z h0 a1 k1 .char (2 : Int32) [(.int c0), (.int c1)] (.int 0)) (WW : World1 Z i_COMPACT_STRINGS v_SIOOBE_FORMATTER) :
    Con l Z (⟨"java/lang/String", "<init>", "([CIILjava/lang/Void;)V"⟩ : MethodName) jdk_42_method_149_code 6 none ws ({ frames := 2, cells := 1, slots := 2, locals := 35 } : Room) #[(.ref a0b), (.ref a1), (.int 0), (.int 2), .null] h0 (fun v h L => v = none ∧ Fr n0 L ∧ Keep h0 h [a0b] ∧ Exa Z h a0b "java/lang/String" ∧ Fld Z h a0b "java/lang/String" "coder" "B" (.int 0) ∧ ∃ (t : Addr) (kt : ClassId), h0.size ≤ t ∧ Fld Z h a0b "java/lang/String" "value" "[B" (.ref t) ∧ Arv Z h t kt .byte (2 : Int32) [(.int (nar .byte (c0.toInt8.toInt32))), (.int (nar .byte (c1.toInt8.toInt32)))] (.int 0)) := by
  refine own_body (plainFor_of_name pn_java_lang_String) ?_
  intro p e s m below meth c s₁ hx hby hml hZ hown hnm hlk hret X0 e0
  have N0 := Fr.nil n0
  have K0 : Keep h0 h0 [a0b] := Keep.refl _ _
  refine Go.st (T' := s₁) (f' := (mkF m 0 #[rv a0b, rv a1, iv 0, iv 2, .val .null, .unset] [])) (fun _ k => castTop (by first | (simp [entryFrame, mkF, argsToLocals, Value.category]; done) | rfl) k) ?_
  have ⟨S_i_COMPACT_STRINGS, nz_i_COMPACT_STRINGS, S_v_SIOOBE_FORMATTER, r_v_SIOOBE_FORMATTER⟩ := WW
  have lt_a0b := E_a0b.lt
  have lt_a1 := V_a1.lt
  refine Go.st (f' := (mkF m 1 #[rv a0b, rv a1, iv 0, iv 2, .val .null, .unset] [(.ref a0b)])) (fun _ k => XS.aloadN X0.here hx rfl (hb hby d8_0) rfl rfl k) ?_
  obtain ⟨T1, X1, e1, st1⟩ := initO X0 hx hZ hown (hw _ (List.mem_of_getElem? (i := 46) rfl)) (hw _ (List.mem_of_getElem? (i := 7) rfl)) (hw _ (List.mem_of_getElem? (i := 8) rfl)) e0 (g := (mkF m 1 #[rv a0b, rv a1, iv 0, iv 2, .val .null, .unset] [(.ref a0b)])) rfl (by rw [hml]; rfl) rfl (hb hby d8_1) (by decide) (W := 0) (by show 2 * 0 + _ ≤ _; exact Nat.le_of_eq rfl) (by decide)
  refine Go.st (f' := (mkF m 4 #[rv a0b, rv a1, iv 0, iv 2, .val .null, .unset] [])) (fun _ k => st1 _ k) ?_
  refine Go.st (f' := (mkF m 5 #[rv a0b, rv a1, iv 0, iv 2, .val .null, .unset] [(.int 2)])) (fun _ k => XS.iloadN X1.here hx rfl (hb hby d8_4) rfl k) ?_
  refine Go.st (f' := (mkF m 27 #[rv a0b, rv a1, iv 0, iv 2, .val .null, .unset] [])) (fun _ k => XS.ifYes X1.here hx rfl (pc0 := 5) (pc' := 27) rfl (hb hby d8_5) rfl (by decide) (by decide) (by decide) k) ?_
  obtain ⟨T2, X2, e2, st2⟩ := getS2 X1 hx hZ hown (host := "") (Or.inl (hw _ (List.mem_of_getElem? (i := 47) rfl))) Via.refl e1 (S_i_COMPACT_STRINGS.ext O0.2) (g := (mkF m 27 #[rv a0b, rv a1, iv 0, iv 2, .val .null, .unset] [])) rfl (hb hby d8_27)
  refine Go.st (f' := (mkF m 30 #[rv a0b, rv a1, iv 0, iv 2, .val .null, .unset] [(.int i_COMPACT_STRINGS)])) (fun _ k => st2 _ k) ?_
  refine Go.st (f' := (mkF m 33 #[rv a0b, rv a1, iv 0, iv 2, .val .null, .unset] [])) (fun _ k => XS.ifNo X2.here hx rfl (hb hby d8_30) rfl ((if0 _ _).trans (feq nz_i_COMPACT_STRINGS).1) k) ?_
  refine Go.st (f' := (mkF m 34 #[rv a0b, rv a1, iv 0, iv 2, .val .null, .unset] [(.ref a1)])) (fun _ k => XS.aloadN X2.here hx rfl (hb hby d8_33) rfl rfl k) ?_
  refine Go.st (f' := (mkF m 35 #[rv a0b, rv a1, iv 0, iv 2, .val .null, .unset] [(.int 0), (.ref a1)])) (fun _ k => XS.iloadN X2.here hx rfl (hb hby d8_34) rfl k) ?_
  refine Go.st (f' := (mkF m 36 #[rv a0b, rv a1, iv 0, iv 2, .val .null, .unset] [(.int 2), (.int 0), (.ref a1)])) (fun _ k => XS.iloadN X2.here hx rfl (hb hby d8_35) rfl k) ?_
  obtain ⟨_, _, ⟨T3, L3, kk3, nn3⟩, -, X3, ⟨Lc3, hQ3, lq3, yq3, zz3⟩, st3⟩ := Jvm.LawKit.callS X2 hx (y := (⟨"java/lang/StringUTF16", "compress", "([CII)[B"⟩ : MethodName)) hown (mvT hZ (hw _ (List.mem_of_getElem? (i := 48) rfl))) (mvT hZ (hw _ (List.mem_of_getElem? (i := 49) rfl))) (mvT hZ (hw _ (List.mem_of_getElem? (i := 50) rfl))) (mvT hZ (hw _ (List.mem_of_getElem? (i := 51) rfl))) (by decide) (own_back (W := 0) (st3_2 l Z a0 hw [] a1 k1 c0 c1 h0 n0 O0 hc_c0 hc_c1 V_a1) hZ (hw _ (List.mem_of_getElem? (i := 51) rfl)) (hw _ (List.mem_of_getElem? (i := 50) rfl)) (by decide) (by decide)) (g := (mkF m 36 #[rv a0b, rv a1, iv 0, iv 2, .val .null, .unset] [(.int 2), (.int 0), (.ref a1)])) rfl (by rw [hml]; rfl) (argsL := [(.ref a1), (.int (0 : Int32)), (.int (2 : Int32))]) (rest := []) (lenOf pd___CII__B rfl) rfl (by show 2 * 0 + _ ≤ _; exact Nat.le_of_eq rfl) (hb hby d8_36) (fun _ _ => ⟨rfl, e2, (by decide : 0 + 1 ≤ _), (by decide : 0 + 2 ≤ _)⟩)
  dsimp only [Pt.U, Pt.locs, Pt.cells, Pt.slots] at X3 lq3 yq3 zz3 st3 hQ3
  subst lq3 yq3 zz3
  obtain ⟨b3, kb3, rfl, Nq3, zq3, kq3, vq3⟩ := hQ3
  have N3 := Fr.app N0 Nq3
  have ne_a0b_b3 : a0b ≠ b3 := Nat.ne_of_lt (Nat.lt_of_lt_of_le lt_a0b zq3)
  have ne_a1_b3 : a1 ≠ b3 := Nat.ne_of_lt (Nat.lt_of_lt_of_le lt_a1 zq3)
  have g_b3 : n0 ≤ b3 := Nat.le_trans (O0.1 ▸ O0.2.1) zq3
  have sz_b3 : h0.size ≤ b3 := Nat.le_trans K0.1 zq3
  have O3 : Old Z n0 T3.heap := O0.keep kq3 all0
  have K3 : Keep h0 T3.heap [a0b] := K0.trans kq3 all0
  have lt_b3 := vq3.lt
  refine Go.st (f' := (mkF m 39 #[rv a0b, rv a1, iv 0, iv 2, .val .null, .unset] [(.ref b3)])) (fun _ k => st3 _ k) ?_
  refine Go.st (f' := (mkF m 41 #[rv a0b, rv a1, iv 0, iv 2, .val .null, rv b3] [])) (fun _ k => XS.astore X3.here hx rfl (hb hby d8_39) rfl rfl (l' := #[rv a0b, rv a1, iv 0, iv 2, .val .null, rv b3]) rfl k) ?_
  refine Go.st (f' := (mkF m 42 #[rv a0b, rv a1, iv 0, iv 2, .val .null, rv b3] [(.ref a0b)])) (fun _ k => XS.aloadN X3.here hx rfl (hb hby d8_41) rfl rfl k) ?_
  refine Go.st (f' := (mkF m 44 #[rv a0b, rv a1, iv 0, iv 2, .val .null, rv b3] [(.ref b3), (.ref a0b)])) (fun _ k => XS.aload X3.here hx rfl (hb hby d8_42) rfl rfl k) ?_
  refine Go.st (f' := (mkF m 45 #[rv a0b, rv a1, iv 0, iv 2, .val .null, rv b3] [(.int 2), (.ref b3), (.ref a0b)])) (fun _ k => XS.iloadN X3.here hx rfl (hb hby d8_44) rfl k) ?_
  obtain ⟨_, _, ⟨T4, L4, kk4, nn4⟩, -, X4, ⟨Lc4, hQ4, lq4, yq4, zz4⟩, st4⟩ := Jvm.LawKit.callS X3 hx (y := (⟨"java/lang/StringUTF16", "coderFromArrayLen", "([BI)B"⟩ : MethodName)) hown (mvT hZ (hw _ (List.mem_of_getElem? (i := 56) rfl))) (mvT hZ (hw _ (List.mem_of_getElem? (i := 57) rfl))) (mvT hZ (hw _ (List.mem_of_getElem? (i := 50) rfl))) (mvT hZ (hw _ (List.mem_of_getElem? (i := 58) rfl))) (by decide) (own_back (W := 1) (stc_2 l Z a0 hw [] b3 kb3 (nar .byte (c0.toInt8.toInt32)) (nar .byte (c1.toInt8.toInt32)) T3.heap n0 O3 vq3) hZ (hw _ (List.mem_of_getElem? (i := 58) rfl)) (hw _ (List.mem_of_getElem? (i := 50) rfl)) (by decide) (by decide)) (g := (mkF m 45 #[rv a0b, rv a1, iv 0, iv 2, .val .null, rv b3] [(.int 2), (.ref b3), (.ref a0b)])) rfl (by rw [hml]; rfl) (argsL := [(.ref b3), (.int (2 : Int32))]) (rest := [(.ref a0b)]) (lenOf pd___BI_B rfl) rfl (by show 2 * 0 + _ ≤ _; exact Nat.le_of_eq rfl) (hb hby d8_45) (fun _ _ => ⟨rfl, rfl, (by decide : 1 + 0 ≤ _), (by decide : 2 + 0 ≤ _)⟩)
  dsimp only [Pt.U, Pt.locs, Pt.cells, Pt.slots] at X4 lq4 yq4 zz4 st4 hQ4
  subst lq4 yq4 zz4
  obtain ⟨rfl, Nq4, kq4⟩ := hQ4
  have N4 := Fr.app N3 Nq4
  refine Go.st (f' := (mkF m 48 #[rv a0b, rv a1, iv 0, iv 2, .val .null, rv b3] [(.int 0), (.ref a0b)])) (fun _ k => st4 _ k) ?_
  have ft5 := (E_a0b.keep kq3)
  have ft6 := (F_a0b_coder.keep kq3 nin0)
  obtain ⟨T7, h7, X7, e7, W7, st7⟩ := putFN X4 hx hZ hown (hw _ (List.mem_of_getElem? (i := 59) rfl)) Via.refl kq4 ft6 ft5 (Or.inr ⟨(hw _ (List.mem_of_getElem? (i := 60) rfl)), rfl, hnm⟩) (hw _ (List.mem_of_getElem? (i := 36) rfl)) (ty := .byte) (v' := (.int (0 : Int32))) (by decide) rfl (by decide) (g := (mkF m 48 #[rv a0b, rv a1, iv 0, iv 2, .val .null, rv b3] [(.int 0), (.ref a0b)])) rfl rfl (hb hby d8_48)
  have N7 := Fr.snoc X7 N4 g_a0b
  have O7 : Old Z n0 h7 := O3.wr W7 g_a0b
  have K7 : Keep h0 h7 [a0b] := K3.wr W7 (Or.inl (List.mem_of_getElem? (i := 0) rfl))
  have Fw7 := ft6.same W7
  refine Go.st (f' := (mkF m 51 #[rv a0b, rv a1, iv 0, iv 2, .val .null, rv b3] [])) (fun _ k => st7 _ k) ?_
  refine Go.st (f' := (mkF m 52 #[rv a0b, rv a1, iv 0, iv 2, .val .null, rv b3] [(.ref a0b)])) (fun _ k => XS.aloadN X7.here hx rfl (hb hby d8_51) rfl rfl k) ?_
  refine Go.st (f' := (mkF m 54 #[rv a0b, rv a1, iv 0, iv 2, .val .null, rv b3] [(.ref b3), (.ref a0b)])) (fun _ k => XS.aload X7.here hx rfl (hb hby d8_52) rfl rfl k) ?_
  have ft8 := (ft5.wr W7)
  have ft9 := ((F_a0b_value.keep kq3 nin0).other W7 (Or.inr (slot_ne (Or.inr (hw _ (List.mem_of_getElem? (i := 62) rfl))) (Or.inr (hw _ (List.mem_of_getElem? (i := 60) rfl))) (by decide) (t := (.array .byte)) (t' := .byte) (by decide) (by decide))))
  obtain ⟨T10, h10, X10, e10, W10, st10⟩ := putF X7 hx hZ hown (host := "") (Or.inl (hw _ (List.mem_of_getElem? (i := 61) rfl))) Via.refl e7 ft9 ft8 (Or.inr ⟨(hw _ (List.mem_of_getElem? (i := 62) rfl)), rfl, hnm⟩) (hw _ (List.mem_of_getElem? (i := 36) rfl)) (ty := (.array .byte)) (by decide) rfl rfl (g := (mkF m 54 #[rv a0b, rv a1, iv 0, iv 2, .val .null, rv b3] [(.ref b3), (.ref a0b)])) rfl rfl (hb hby d8_54)
  have N10 := Fr.snoc X10 N7 g_a0b
  have O10 : Old Z n0 h10 := O7.wr W10 g_a0b
  have K10 : Keep h0 h10 [a0b] := K7.wr W10 (Or.inl (List.mem_of_getElem? (i := 0) rfl))
  have Fw10 := ft9.same W10
  refine Go.st (f' := (mkF m 57 #[rv a0b, rv a1, iv 0, iv 2, .val .null, rv b3] [])) (fun _ k => st10 _ k) ?_
  refine Go.ret0 X10 hlk hx hret (hb hby d8_57) e10 ?_ (by decide) (by decide)
  have ft11 := (ft8.wr W10)
  have ft12 := (Fw7.other W10 (Or.inr (slot_ne (Or.inr (hw _ (List.mem_of_getElem? (i := 60) rfl))) (Or.inr (hw _ (List.mem_of_getElem? (i := 62) rfl))) (by decide) (t := .byte) (t' := (.array .byte)) (by decide) (by decide))))
  have ft13 := ((vq3.other W7 (Ne.symm ne_a0b_b3)).other W10 (Ne.symm ne_a0b_b3))
  exact ⟨rfl, N10, K10, ft11, ft12, b3, kb3, sz_b3, Fw10, ft13⟩
set_option maxRecDepth 65536 in
set_option maxHeartbeats 40000000 in
theorem st1_2 (l : Launch) (Z : State) (a0 : Array Value) (hw : ∀ d ∈ tables_1, d.before a0 Z = true) (ws : List Jvm.Cond) (a0b : Addr) (a1 : Addr) (k1 : ClassId) (c0 : Int32) (c1 : Int32) (i_COMPACT_STRINGS : Int32) (v_SIOOBE_FORMATTER : Value) (h0 : Heap) (n0 : Nat) (O0 : Old Z n0 h0) (hc_c0 : ¬ (255 : Int32) < c0) (hc_c1 : ¬ (255 : Int32) < c1) (g_a0b : n0 ≤ a0b) (nb1 : a0b ≠ a1) (E_a0b : Exa Z h0 a0b "java/lang/String") (F_a0b_coder : Fld Z h0 a0b "java/lang/String" "coder" "B" (.int 0)) (F_a0b_value : Fld Z h0 a0b "java/lang/String" "value" "[B" .null) (V_a1 : Arv Z h0 a1 k1 .char (2 : Int32) [(.int c0), (.int c1)] (.int 0)) (WW : World1 Z i_COMPACT_STRINGS v_SIOOBE_FORMATTER) :
    Con l Z (⟨"java/lang/String", "<init>", "([C)V"⟩ : MethodName) jdk_42_method_3_code 2 none ws ({ frames := 3, cells := 1, slots := 2, locals := 52 } : Room) #[(.ref a0b), (.ref a1)] h0 (fun v h L => v = none ∧ Fr n0 L ∧ Keep h0 h [a0b] ∧ Exa Z h a0b "java/lang/String" ∧ Fld Z h a0b "java/lang/String" "coder" "B" (.int 0) ∧ ∃ (t : Addr) (kt : ClassId), h0.size ≤ t ∧ Fld Z h a0b "java/lang/String" "value" "[B" (.ref t) ∧ Arv Z h t kt .byte (2 : Int32) [(.int (nar .byte (c0.toInt8.toInt32))), (.int (nar .byte (c1.toInt8.toInt32)))] (.int 0)) := by
  refine own_body (plainFor_of_name pn_java_lang_String) ?_
  intro p e s m below meth c s₁ hx hby hml hZ hown hnm hlk hret X0 e0
  have N0 := Fr.nil n0
  have K0 : Keep h0 h0 [a0b] := Keep.refl _ _
  refine Go.st (T' := s₁) (f' := (mkF m 0 #[rv a0b, rv a1] [])) (fun _ k => castTop (by first | (simp [entryFrame, mkF, argsToLocals, Value.category]; done) | rfl) k) ?_
  have ⟨S_i_COMPACT_STRINGS, nz_i_COMPACT_STRINGS, S_v_SIOOBE_FORMATTER, r_v_SIOOBE_FORMATTER⟩ := WW
  have lt_a0b := E_a0b.lt
  have lt_a1 := V_a1.lt
  refine Go.st (f' := (mkF m 1 #[rv a0b, rv a1] [(.ref a0b)])) (fun _ k => XS.aloadN X0.here hx rfl (hb hby d7_0) rfl rfl k) ?_
  refine Go.st (f' := (mkF m 2 #[rv a0b, rv a1] [(.ref a1), (.ref a0b)])) (fun _ k => XS.aloadN X0.here hx rfl (hb hby d7_1) rfl rfl k) ?_
  refine Go.st (f' := (mkF m 3 #[rv a0b, rv a1] [(.int 0), (.ref a1), (.ref a0b)])) (fun _ k => XS.iconst X0.here hx rfl (hb hby d7_2) k) ?_
  refine Go.st (f' := (mkF m 4 #[rv a0b, rv a1] [(.ref a1), (.int 0), (.ref a1), (.ref a0b)])) (fun _ k => XS.aloadN X0.here hx rfl (hb hby d7_3) rfl rfl k) ?_
  obtain ⟨cl1, Ar1, -, S1, Nx1, -, -⟩ := id V_a1
  refine Go.st (T' := s₁) (f' := (mkF m 5 #[rv a0b, rv a1] [(.int 2), (.int 0), (.ref a1), (.ref a0b)])) (fun _ k => X0.arraylength hx (by rw [e0]; exact Ar1.1) (State.isArrayOf_alike hZ.alike Ar1.2.1) (g := (mkF m 4 #[rv a0b, rv a1] [(.ref a1), (.int 0), (.ref a1), (.ref a0b)])) rfl rfl (hb hby d7_4) _ (by rw [len_of S1 Nx1]; exact k)) ?_
  refine Go.st (f' := (mkF m 6 #[rv a0b, rv a1] [.null, (.int 2), (.int 0), (.ref a1), (.ref a0b)])) (fun _ k => XS.aconstNull X0.here hx rfl (hb hby d7_5) k) ?_
  obtain ⟨_, _, ⟨T2, L2, kk2, nn2⟩, -, X2, ⟨Lc2, hQ2, lq2, yq2, zz2⟩, st2⟩ := X0.specialBack hx (y := (⟨"java/lang/String", "<init>", "([CIILjava/lang/Void;)V"⟩ : MethodName)) rfl hown (mvT hZ (hw _ (List.mem_of_getElem? (i := 42) rfl))) (mvT hZ (hw _ (List.mem_of_getElem? (i := 43) rfl))) (mvT hZ (hw _ (List.mem_of_getElem? (i := 45) rfl))) (by decide) (own_back (W := 0) (stv_2 l Z a0 hw [] a0b a1 k1 c0 c1 i_COMPACT_STRINGS v_SIOOBE_FORMATTER h0 n0 O0 hc_c0 hc_c1 g_a0b nb1 E_a0b F_a0b_coder F_a0b_value V_a1 WW) hZ (hw _ (List.mem_of_getElem? (i := 45) rfl)) (hw _ (List.mem_of_getElem? (i := 37) rfl)) (by decide) (by decide)) (g := (mkF m 6 #[rv a0b, rv a1] [.null, (.int 2), (.int 0), (.ref a1), (.ref a0b)])) rfl (by rw [hml]; rfl) (Steps.refl _) (a := a0b) (argsL := [(.ref a1), (.int (0 : Int32)), (.int (2 : Int32)), .null]) (rest := []) (lenOf pd___CIILjava_lang_Void__V rfl) rfl (by show 2 * 0 + _ ≤ _; exact Nat.le_of_eq rfl) (hb hby d7_6) (fun _ _ => ⟨rfl, e0, (by decide : 0 + 1 ≤ _), (by decide : 0 + 2 ≤ _)⟩)
  dsimp only [Pt.U, Pt.locs, Pt.cells, Pt.slots] at X2 lq2 yq2 zz2 st2 hQ2
  subst lq2 yq2 zz2
  obtain ⟨rfl, Nq2, kq2, eq2, cq2, tt2, kt2, zq2, fq2, vq2⟩ := hQ2
  have N2 := Fr.app N0 Nq2
  have ne_a0b_tt2 : a0b ≠ tt2 := Nat.ne_of_lt (Nat.lt_of_lt_of_le lt_a0b zq2)
  have ne_a1_tt2 : a1 ≠ tt2 := Nat.ne_of_lt (Nat.lt_of_lt_of_le lt_a1 zq2)
  have g_tt2 : n0 ≤ tt2 := Nat.le_trans (O0.1 ▸ O0.2.1) zq2
  have sz_tt2 : h0.size ≤ tt2 := Nat.le_trans K0.1 zq2
  have O2 : Old Z n0 T2.heap := O0.keep kq2 (allS g_a0b all0)
  have K2 : Keep h0 T2.heap [a0b] := K0.trans kq2 (allS (Or.inl (List.mem_of_getElem? (i := 0) rfl)) all0)
  have lt_tt2 := vq2.lt
  refine Go.tr (f' := (mkF m 9 #[rv a0b, rv a1] [])) st2 ?_
  refine Go.ret0 X2 hlk hx hret (hb hby d7_9) rfl ?_ (by decide) (by decide)
  exact ⟨rfl, N2, K2, eq2, cq2, tt2, kt2, sz_tt2, fq2, vq2⟩
theorem own_neArv {Z : State} {h : Heap} {a b : Addr} {k1 k2 : ClassId} {t1 t2 : FieldType} {z1 z2 : Int32} {v1 v2 : List Value} {d1 d2 : Value} (A : Arv Z h a k1 t1 z1 v1 d1) (B : Arv Z h b k2 t2 z2 v2 d2) (q : t1 ≠ t2) : a ≠ b := fun e => by
  subst e
  obtain ⟨c, ⟨c1, ⟨-, k, c2, comp, c3⟩, -⟩, -⟩ := A
  obtain ⟨c', ⟨d1, ⟨-, k', d2, comp', d3⟩, -⟩, -⟩ := B
  cases c1.symm.trans d1
  cases c2.symm.trans d2
  have := c3.symm.trans d3
  injection this with _ e
  exact q e

theorem d8_8 : decode jdk_42_method_149_code 8 = .ok (.aload_n 0, 1) := by decide +kernel
theorem d8_9 : decode jdk_42_method_149_code 9 = .ok (.ldc 7, 2) := by decide +kernel
theorem d8_11 : decode jdk_42_method_149_code 11 = .ok (.getfield 9, 3) := by decide +kernel
theorem d8_14 : decode jdk_42_method_149_code 14 = .ok (.putfield 9, 3) := by decide +kernel
theorem d8_17 : decode jdk_42_method_149_code 17 = .ok (.aload_n 0, 1) := by decide +kernel
theorem d8_18 : decode jdk_42_method_149_code 18 = .ok (.ldc 7, 2) := by decide +kernel
theorem d8_20 : decode jdk_42_method_149_code 20 = .ok (.getfield 15, 3) := by decide +kernel
theorem d8_23 : decode jdk_42_method_149_code 23 = .ok (.putfield 15, 3) := by decide +kernel
theorem d8_26 : decode jdk_42_method_149_code 26 = .ok (.return_, 1) := by decide +kernel
set_option maxRecDepth 65536 in
set_option maxHeartbeats 40000000 in
theorem sv_0 (l : Launch) (Z : State) (a0 : Array Value) (hw : ∀ d ∈ tables_1, d.before a0 Z = true) (ws : List Jvm.Cond) (a0b : Addr) (a1 : Addr) (i_COMPACT_STRINGS : Int32) (v_SIOOBE_FORMATTER : Value) (h0 : Heap) (n0 : Nat) (O0 : Old Z n0 h0) (g_a0b : n0 ≤ a0b) (E_a0b : Exa Z h0 a0b "java/lang/String") (F_a0b_coder : Fld Z h0 a0b "java/lang/String" "coder" "B" (.int 0)) (F_a0b_value : Fld Z h0 a0b "java/lang/String" "value" "[B" .null) (WW : World1 Z i_COMPACT_STRINGS v_SIOOBE_FORMATTER) :
    ConW l Z EL (⟨"java/lang/String", "<init>", "([CIILjava/lang/Void;)V"⟩ : MethodName) jdk_42_method_149_code 6 none ws ({ frames := 1, cells := 4, slots := 8, locals := 12 } : Room) #[(.ref a0b), (.ref a1), (.int 0), (.int 0), .null] h0 (fun v h L => v = none ∧ Fr n0 L ∧ Keep h0 h [a0b] ∧ Exa Z h a0b "java/lang/String" ∧ Fld Z h a0b "java/lang/String" "coder" "B" (.int 0) ∧ ∃ (t : Addr) (kt : ClassId), Fld Z h a0b "java/lang/String" "value" "[B" (.ref t) ∧ Arv Z h t kt .byte (0 : Int32) [] (.int 0)) := by
  refine own_bodyW (plainFor_of_name pn_java_lang_String) ?_
  intro p e s m below meth c s₁ hx hby hml hZ hown hnm hlk hret X0 e0 hh hS CR0
  have hEL := own_EL hw
  have wS := own_wS hw
  have N0 := Fr.nil n0
  have K0 : Keep h0 h0 [a0b] := Keep.refl _ _
  refine Go.st (T' := s₁) (f' := (mkF m 0 #[rv a0b, rv a1, iv 0, iv 0, .val .null, .unset] [])) (fun _ k => castTop (by first | (simp [entryFrame, mkF, argsToLocals, Value.category]; done) | rfl) k) ?_
  have ⟨S_i_COMPACT_STRINGS, nz_i_COMPACT_STRINGS, S_v_SIOOBE_FORMATTER, r_v_SIOOBE_FORMATTER⟩ := WW
  have lt_a0b := E_a0b.lt
  have sf_a0b : Safe Z EL s.vm h0 a0b := own_safe0 hZ.alike E_a0b F_a0b_value
  refine Go.st (f' := (mkF m 1 #[rv a0b, rv a1, iv 0, iv 0, .val .null, .unset] [(.ref a0b)])) (fun _ k => XS.aloadN X0.here hx rfl (hb hby d8_0) rfl rfl k) ?_
  obtain ⟨T1, X1, e1, st1⟩ := initO X0 hx hZ hown (hw _ (List.mem_of_getElem? (i := 46) rfl)) (hw _ (List.mem_of_getElem? (i := 7) rfl)) (hw _ (List.mem_of_getElem? (i := 8) rfl)) e0 (g := (mkF m 1 #[rv a0b, rv a1, iv 0, iv 0, .val .null, .unset] [(.ref a0b)])) rfl (by rw [hml]; rfl) rfl (hb hby d8_1) (by decide) (W := 0) (by show 2 * 0 + _ ≤ _; exact Nat.le_of_eq rfl) (by decide)
  refine Go.st (f' := (mkF m 4 #[rv a0b, rv a1, iv 0, iv 0, .val .null, .unset] [])) (fun _ k => st1 _ k) ?_
  refine Go.st (f' := (mkF m 5 #[rv a0b, rv a1, iv 0, iv 0, .val .null, .unset] [(.int 0)])) (fun _ k => XS.iloadN X1.here hx rfl (hb hby d8_4) rfl k) ?_
  refine Go.st (f' := (mkF m 8 #[rv a0b, rv a1, iv 0, iv 0, .val .null, .unset] [])) (fun _ k => XS.ifNo X1.here hx rfl (hb hby d8_5) rfl (by decide) k) ?_
  refine Go.st (f' := (mkF m 9 #[rv a0b, rv a1, iv 0, iv 0, .val .null, .unset] [(.ref a0b)])) (fun _ k => XS.aloadN X1.here hx rfl (hb hby d8_8) rfl rfl k) ?_
  obtain ⟨b2, T2, h2, k12, t2, kt2, X2, e2, E2, hS2, hk2, hZ2, hown2, A2, cq2, fq2, vq2, lt_b2, lt_t2, crw2, -, sfx2, st2⟩ := ldcCH (EL := EL) X1 hx hZ hown (hw _ (List.mem_of_getElem? (i := 63) rfl)) wS e1 hS (Nat.zero_le _) hEL (List.mem_of_getElem? (i := 0) rfl) CR0.1 (vs := []) (z := (0 : Int32)) ⟨by decide, by decide⟩ (by decide) rfl (g := (mkF m 9 #[rv a0b, rv a1, iv 0, iv 0, .val .null, .unset] [(.ref a0b)])) rfl (hb hby d8_9) (n := 0) (by decide) (by decide) (by decide) (by decide)
  have O2 : Old Z n0 h2 := O0.ext E2
  have K2 : Keep h0 h2 [a0b] := K0.ext E2
  have sf3 := crw2.safe lt_a0b sf_a0b
  have CR2 := CR0.trans crw2
  refine Go.st (f' := (mkF m 11 #[rv a0b, rv a1, iv 0, iv 0, .val .null, .unset] [(.ref b2), (.ref a0b)])) (fun _ k => st2 _ k) ?_
  obtain ⟨T4, X4, e4, st4⟩ := getF X2 hx hZ2 hown2 (host := "") (Or.inl (hw _ (List.mem_of_getElem? (i := 61) rfl))) Via.refl e2 fq2 (g := (mkF m 11 #[rv a0b, rv a1, iv 0, iv 0, .val .null, .unset] [(.ref b2), (.ref a0b)])) rfl rfl (hb hby d8_11)
  refine Go.st (f' := (mkF m 14 #[rv a0b, rv a1, iv 0, iv 0, .val .null, .unset] [(.ref t2), (.ref a0b)])) (fun _ k => st4 _ k) ?_
  have ft5 := (E_a0b.ext E2)
  have ft6 := (F_a0b_value.ext E2)
  obtain ⟨T7, h7, X7, e7, W7, st7⟩ := putF X4 hx hZ2 hown2 (host := "") (Or.inl (hw _ (List.mem_of_getElem? (i := 61) rfl))) Via.refl e4 ft6 ft5 (Or.inr ⟨(hw _ (List.mem_of_getElem? (i := 62) rfl)), rfl, hnm⟩) (hw _ (List.mem_of_getElem? (i := 36) rfl)) (ty := (.array .byte)) (by decide) rfl rfl (g := (mkF m 14 #[rv a0b, rv a1, iv 0, iv 0, .val .null, .unset] [(.ref t2), (.ref a0b)])) rfl rfl (hb hby d8_14)
  have N7 := Fr.snoc X7 N0 g_a0b
  have O7 : Old Z n0 h7 := O2.wr W7 g_a0b
  have K7 : Keep h0 h7 [a0b] := K2.wr W7 (Or.inl (List.mem_of_getElem? (i := 0) rfl))
  have CR7 : CHr Z EL s.vm h0 T2.vm h7 := CR2.trans (CHr.wr W7 sf3 CR2.1)
  have Fw7 := ft6.same W7
  refine Go.st (f' := (mkF m 17 #[rv a0b, rv a1, iv 0, iv 0, .val .null, .unset] [])) (fun _ k => st7 _ k) ?_
  refine Go.st (f' := (mkF m 18 #[rv a0b, rv a1, iv 0, iv 0, .val .null, .unset] [(.ref a0b)])) (fun _ k => XS.aloadN X7.here hx rfl (hb hby d8_17) rfl rfl k) ?_
  have ft9 := (Nat.le_trans hk2 (Nat.le_of_eq W7.size.symm))
  obtain ⟨b8, T8, h8, k18, t8, kt8, X8, e8, E8, hS8, hk8, hZ8, hown8, A8, cq8, fq8, vq8, lt_b8, lt_t8, crw8, -, sfx8, st8⟩ := ldcCH (EL := EL) X7 hx hZ2 hown2 (hw _ (List.mem_of_getElem? (i := 63) rfl)) wS e7 hS2 ft9 hEL (List.mem_of_getElem? (i := 0) rfl) CR7.1 (vs := []) (z := (0 : Int32)) ⟨by decide, by decide⟩ (by decide) rfl (g := (mkF m 18 #[rv a0b, rv a1, iv 0, iv 0, .val .null, .unset] [(.ref a0b)])) rfl (hb hby d8_18) (n := 0) (by decide) (by decide) (by decide) (by decide)
  have ft10 := (Safe.wr W7 sf3 CR2.1 sf3)
  have ft11 := (Nat.lt_of_lt_of_eq (Nat.lt_of_lt_of_le lt_a0b E2.1) W7.size.symm)
  have O8 : Old Z n0 h8 := O7.ext E8
  have K8 : Keep h0 h8 [a0b] := K7.ext E8
  have sf12 := crw8.safe ft11 ft10
  have CR8 := CR7.trans crw8
  refine Go.st (f' := (mkF m 20 #[rv a0b, rv a1, iv 0, iv 0, .val .null, .unset] [(.ref b8), (.ref a0b)])) (fun _ k => st8 _ k) ?_
  obtain ⟨T13, X13, e13, st13⟩ := getF X8 hx hZ8 hown8 (host := "") (Or.inl (hw _ (List.mem_of_getElem? (i := 59) rfl))) Via.refl e8 cq8 (g := (mkF m 20 #[rv a0b, rv a1, iv 0, iv 0, .val .null, .unset] [(.ref b8), (.ref a0b)])) rfl rfl (hb hby d8_20)
  refine Go.st (f' := (mkF m 23 #[rv a0b, rv a1, iv 0, iv 0, .val .null, .unset] [(.int 0), (.ref a0b)])) (fun _ k => st13 _ k) ?_
  have ft14 := ((ft5.wr W7).ext E8)
  have ft15 := (((F_a0b_coder.ext E2).other W7 (Or.inr (slot_ne (Or.inr (hw _ (List.mem_of_getElem? (i := 60) rfl))) (Or.inr (hw _ (List.mem_of_getElem? (i := 62) rfl))) (by decide) (t := .byte) (t' := (.array .byte)) (by decide) (by decide)))).ext E8)
  obtain ⟨T16, h16, X16, e16, W16, st16⟩ := putFN X13 hx hZ8 hown8 (hw _ (List.mem_of_getElem? (i := 59) rfl)) Via.refl e13 ft15 ft14 (Or.inr ⟨(hw _ (List.mem_of_getElem? (i := 60) rfl)), rfl, hnm⟩) (hw _ (List.mem_of_getElem? (i := 36) rfl)) (ty := .byte) (v' := (.int (0 : Int32))) (by decide) rfl (by decide) (g := (mkF m 23 #[rv a0b, rv a1, iv 0, iv 0, .val .null, .unset] [(.int 0), (.ref a0b)])) rfl rfl (hb hby d8_23)
  have N16 := Fr.snoc X16 N7 g_a0b
  have O16 : Old Z n0 h16 := O8.wr W16 g_a0b
  have K16 : Keep h0 h16 [a0b] := K8.wr W16 (Or.inl (List.mem_of_getElem? (i := 0) rfl))
  have CR16 : CHr Z EL s.vm h0 T8.vm h16 := CR8.trans (CHr.wr W16 sf12 CR8.1)
  have Fw16 := ft15.same W16
  refine Go.st (f' := (mkF m 26 #[rv a0b, rv a1, iv 0, iv 0, .val .null, .unset] [])) (fun _ k => st16 _ k) ?_
  have ft17 := (Nat.le_trans hk8 (Nat.le_of_eq W16.size.symm))
  refine GoW.ret0 X16 hlk hx hret (hb hby d8_26) e16 hS8 ft17 hZ8 hEL CR16 hh ?_ (by decide) (by decide)
  have ft18 := (ft14.wr W16)
  have ft19 := ((Fw7.ext E8).other W16 (Or.inr (slot_ne (Or.inr (hw _ (List.mem_of_getElem? (i := 62) rfl))) (Or.inr (hw _ (List.mem_of_getElem? (i := 60) rfl))) (by decide) (t := (.array .byte)) (t' := .byte) (by decide) (by decide))))
  have ft20 := (((vq2.other W7 (Ne.symm (sfx2 _ sf3).2)).ext E8).other W16 (Ne.symm (sfx2 _ sf3).2))
  exact ⟨rfl, N16, K16, ft18, Fw16, t2, kt2, ft19, ft20⟩
set_option maxRecDepth 65536 in
set_option maxHeartbeats 40000000 in
theorem s1_0 (l : Launch) (Z : State) (a0 : Array Value) (hw : ∀ d ∈ tables_1, d.before a0 Z = true) (ws : List Jvm.Cond) (a0b : Addr) (a1 : Addr) (k1 : ClassId) (i_COMPACT_STRINGS : Int32) (v_SIOOBE_FORMATTER : Value) (h0 : Heap) (n0 : Nat) (O0 : Old Z n0 h0) (g_a0b : n0 ≤ a0b) (E_a0b : Exa Z h0 a0b "java/lang/String") (F_a0b_coder : Fld Z h0 a0b "java/lang/String" "coder" "B" (.int 0)) (F_a0b_value : Fld Z h0 a0b "java/lang/String" "value" "[B" .null) (V_a1 : Arv Z h0 a1 k1 .char (0 : Int32) [] (.int 0)) (WW : World1 Z i_COMPACT_STRINGS v_SIOOBE_FORMATTER) :
    ConW l Z EL (⟨"java/lang/String", "<init>", "([C)V"⟩ : MethodName) jdk_42_method_3_code 2 none ws ({ frames := 2, cells := 4, slots := 8, locals := 29 } : Room) #[(.ref a0b), (.ref a1)] h0 (fun v h L => v = none ∧ Fr n0 L ∧ Keep h0 h [a0b] ∧ Exa Z h a0b "java/lang/String" ∧ Fld Z h a0b "java/lang/String" "coder" "B" (.int 0) ∧ ∃ (t : Addr) (kt : ClassId), Fld Z h a0b "java/lang/String" "value" "[B" (.ref t) ∧ Arv Z h t kt .byte (0 : Int32) [] (.int 0)) := by
  refine own_bodyW (plainFor_of_name pn_java_lang_String) ?_
  intro p e s m below meth c s₁ hx hby hml hZ hown hnm hlk hret X0 e0 hh hS CR0
  have hEL := own_EL hw
  have wS := own_wS hw
  have N0 := Fr.nil n0
  have K0 : Keep h0 h0 [a0b] := Keep.refl _ _
  refine Go.st (T' := s₁) (f' := (mkF m 0 #[rv a0b, rv a1] [])) (fun _ k => castTop (by first | (simp [entryFrame, mkF, argsToLocals, Value.category]; done) | rfl) k) ?_
  have ⟨S_i_COMPACT_STRINGS, nz_i_COMPACT_STRINGS, S_v_SIOOBE_FORMATTER, r_v_SIOOBE_FORMATTER⟩ := WW
  have lt_a0b := E_a0b.lt
  have sf_a0b : Safe Z EL s.vm h0 a0b := own_safe0 hZ.alike E_a0b F_a0b_value
  have lt_a1 := V_a1.lt
  have nt_a0b_a1 : a0b ≠ a1 := Exa.neArv E_a0b V_a1 (hw _ (List.mem_of_getElem? (i := 36) rfl))
  refine Go.st (f' := (mkF m 1 #[rv a0b, rv a1] [(.ref a0b)])) (fun _ k => XS.aloadN X0.here hx rfl (hb hby d7_0) rfl rfl k) ?_
  refine Go.st (f' := (mkF m 2 #[rv a0b, rv a1] [(.ref a1), (.ref a0b)])) (fun _ k => XS.aloadN X0.here hx rfl (hb hby d7_1) rfl rfl k) ?_
  refine Go.st (f' := (mkF m 3 #[rv a0b, rv a1] [(.int 0), (.ref a1), (.ref a0b)])) (fun _ k => XS.iconst X0.here hx rfl (hb hby d7_2) k) ?_
  refine Go.st (f' := (mkF m 4 #[rv a0b, rv a1] [(.ref a1), (.int 0), (.ref a1), (.ref a0b)])) (fun _ k => XS.aloadN X0.here hx rfl (hb hby d7_3) rfl rfl k) ?_
  obtain ⟨cl1, Ar1, -, S1, Nx1, -, -⟩ := id V_a1
  refine Go.st (T' := s₁) (f' := (mkF m 5 #[rv a0b, rv a1] [(.int 0), (.int 0), (.ref a1), (.ref a0b)])) (fun _ k => X0.arraylength hx (by rw [e0]; exact Ar1.1) (State.isArrayOf_alike hZ.alike Ar1.2.1) (g := (mkF m 4 #[rv a0b, rv a1] [(.ref a1), (.int 0), (.ref a1), (.ref a0b)])) rfl rfl (hb hby d7_4) _ (by rw [len_of S1 Nx1]; exact k)) ?_
  refine Go.st (f' := (mkF m 6 #[rv a0b, rv a1] [.null, (.int 0), (.int 0), (.ref a1), (.ref a0b)])) (fun _ k => XS.aconstNull X0.here hx rfl (hb hby d7_5) k) ?_
  obtain ⟨_, _, ⟨T2, L2, kk2, nn2⟩, -, Xw2, hSw2, hgw2, ⟨Lc2, hQ2, lq2, yq2, zz2, crw2⟩, st2⟩ := X0.specialBackS hx (y := (⟨"java/lang/String", "<init>", "([CIILjava/lang/Void;)V"⟩ : MethodName)) rfl hown (mvT hZ (hw _ (List.mem_of_getElem? (i := 42) rfl))) (mvT hZ (hw _ (List.mem_of_getElem? (i := 43) rfl))) (mvT hZ (hw _ (List.mem_of_getElem? (i := 45) rfl))) (by decide) (own_backW (W := 0) (sv_0 l Z a0 hw [] a0b a1 i_COMPACT_STRINGS v_SIOOBE_FORMATTER h0 n0 O0 g_a0b E_a0b F_a0b_coder F_a0b_value WW) hZ (hw _ (List.mem_of_getElem? (i := 45) rfl)) (hw _ (List.mem_of_getElem? (i := 37) rfl)) (by decide) (by decide) hEL CR0.1) (g := (mkF m 6 #[rv a0b, rv a1] [.null, (.int 0), (.int 0), (.ref a1), (.ref a0b)])) rfl (by rw [hml]; rfl) (Steps.refl _) (a := a0b) (argsL := [(.ref a1), (.int (0 : Int32)), (.int (0 : Int32)), .null]) (rest := []) (lenOf pd___CIILjava_lang_Void__V rfl) rfl (by show 2 * 0 + _ ≤ _; exact Nat.le_of_eq rfl) (hb hby d7_6) (fun _ _ => ⟨rfl, e0, (by decide : 0 + 4 ≤ _), (by decide : 0 + 8 ≤ _)⟩)
  dsimp only [Pt.U, Pt.locs, Pt.cells, Pt.slots] at Xw2 lq2 yq2 zz2 st2 hQ2 hSw2 hgw2 crw2
  subst lq2 yq2 zz2
  obtain ⟨X2, hS2, hZ2, hown2⟩ := rebS hS (by rw [e0]; exact (Nat.zero_le _)) Xw2 hSw2 hgw2 hZ hown
  obtain ⟨rfl, Nq2, kq2, eq2, cq2, tt2, kt2, fq2, vq2⟩ := hQ2
  have N2 := Fr.app N0 Nq2
  have O2 : Old Z n0 T2.heap := O0.keep kq2 (allS g_a0b all0)
  have K2 : Keep h0 T2.heap [a0b] := K0.trans kq2 (allS (Or.inl (List.mem_of_getElem? (i := 0) rfl)) all0)
  have lt_tt2 := vq2.lt
  have nt_a0b_tt2 : a0b ≠ tt2 := Exa.neArv eq2 vq2 (hw _ (List.mem_of_getElem? (i := 36) rfl))
  have ft3 := (V_a1.keep kq2 (ninS (Ne.symm nt_a0b_a1) nin0))
  have nt_a1_tt2 : a1 ≠ tt2 := own_neArv ft3 vq2 (by decide)
  have hk2 : T2.heap.size ≤ T2.heap.size := Nat.le_refl _
  have sf4 := crw2.safe lt_a0b sf_a0b
  have CR2 := CR0.trans crw2
  refine Go.tr (f' := (mkF m 9 #[rv a0b, rv a1] [])) st2 ?_
  refine GoW.ret0 X2 hlk hx hret (hb hby d7_9) rfl hS2 hk2 hZ2 hEL CR2 hh ?_ (by decide) (by decide)
  exact ⟨rfl, N2, K2, eq2, cq2, tt2, kt2, fq2, vq2⟩
theorem pn_java_lang_StringLatin1 : plainName "java/lang/StringLatin1" = true := by first | (simp [plainName, overriddenIn]; done) | decide +kernel
theorem d13_0 : decode jdk_43_method_13_code 0 = .ok (.aload_n 0, 1) := by decide +kernel
theorem d13_1 : decode jdk_43_method_13_code 1 = .ok (.arraylength, 1) := by decide +kernel
theorem d13_2 : decode jdk_43_method_13_code 2 = .ok (.aload_n 1, 1) := by decide +kernel
theorem d13_3 : decode jdk_43_method_13_code 3 = .ok (.arraylength, 1) := by decide +kernel
theorem d13_4 : decode jdk_43_method_13_code 4 = .ok (.if_icmp .ne 30, 3) := by decide +kernel
theorem d13_7 : decode jdk_43_method_13_code 7 = .ok (.iconst 0, 1) := by decide +kernel
theorem d13_8 : decode jdk_43_method_13_code 8 = .ok (.istore_n 2, 1) := by decide +kernel
theorem d13_9 : decode jdk_43_method_13_code 9 = .ok (.iload_n 2, 1) := by decide +kernel
theorem d13_10 : decode jdk_43_method_13_code 10 = .ok (.aload_n 0, 1) := by decide +kernel
theorem d13_11 : decode jdk_43_method_13_code 11 = .ok (.arraylength, 1) := by decide +kernel
theorem d13_12 : decode jdk_43_method_13_code 12 = .ok (.if_icmp .ge 20, 3) := by decide +kernel
theorem d13_32 : decode jdk_43_method_13_code 32 = .ok (.iconst 1, 1) := by decide +kernel
theorem d13_33 : decode jdk_43_method_13_code 33 = .ok (.ireturn, 1) := by decide +kernel
def elI_0_0  : Int32 := (1 : Int32)
set_option maxRecDepth 65536 in
set_option maxHeartbeats 40000000 in
theorem el_0_0 (l : Launch) (Z : State) (a0 : Array Value) (hw : ∀ d ∈ tables_1, d.before a0 Z = true) (ws : List Jvm.Cond) (t1 : Addr) (k1 : ClassId) (t2 : Addr) (k2 : ClassId) (h0 : Heap) (n0 : Nat) (O0 : Old Z n0 h0) (V_t1 : Arv Z h0 t1 k1 .byte (0 : Int32) [] (.int 0)) (V_t2 : Arv Z h0 t2 k2 .byte (0 : Int32) [] (.int 0)) :
    Con l Z (⟨"java/lang/StringLatin1", "equals", "([B[B)Z"⟩ : MethodName) jdk_43_method_13_code 3 (some .boolean) ws ({ frames := 0, cells := 0, slots := 0, locals := 0 } : Room) #[(.ref t1), (.ref t2)] h0 (fun v h L => v = some (.int (elI_0_0 )) ∧ Fr n0 L ∧ h = h0) := by
  refine own_body (plainFor_of_name pn_java_lang_StringLatin1) ?_
  intro p e s m below meth c s₁ hx hby hml hZ hown hnm hlk hret X0 e0
  have N0 := Fr.nil n0
  refine Go.st (T' := s₁) (f' := (mkF m 0 #[rv t1, rv t2, .unset] [])) (fun _ k => castTop (by first | (simp [entryFrame, mkF, argsToLocals, Value.category]; done) | rfl) k) ?_
  have lt_t1 := V_t1.lt
  have lt_t2 := V_t2.lt
  refine Go.st (f' := (mkF m 1 #[rv t1, rv t2, .unset] [(.ref t1)])) (fun _ k => XS.aloadN X0.here hx rfl (hb hby d13_0) rfl rfl k) ?_
  obtain ⟨cl1, Ar1, -, S1, Nx1, -, -⟩ := id V_t1
  refine Go.st (T' := s₁) (f' := (mkF m 2 #[rv t1, rv t2, .unset] [(.int 0)])) (fun _ k => X0.arraylength hx (by rw [e0]; exact Ar1.1) (State.isArrayOf_alike hZ.alike Ar1.2.1) (g := (mkF m 1 #[rv t1, rv t2, .unset] [(.ref t1)])) rfl rfl (hb hby d13_1) _ (by rw [len_of S1 Nx1]; exact k)) ?_
  refine Go.st (f' := (mkF m 3 #[rv t1, rv t2, .unset] [(.ref t2), (.int 0)])) (fun _ k => XS.aloadN X0.here hx rfl (hb hby d13_2) rfl rfl k) ?_
  obtain ⟨cl2, Ar2, -, S2, Nx2, -, -⟩ := id V_t2
  refine Go.st (T' := s₁) (f' := (mkF m 4 #[rv t1, rv t2, .unset] [(.int 0), (.int 0)])) (fun _ k => X0.arraylength hx (by rw [e0]; exact Ar2.1) (State.isArrayOf_alike hZ.alike Ar2.2.1) (g := (mkF m 3 #[rv t1, rv t2, .unset] [(.ref t2), (.int 0)])) rfl rfl (hb hby d13_3) _ (by rw [len_of S2 Nx2]; exact k)) ?_
  refine Go.st (f' := (mkF m 7 #[rv t1, rv t2, .unset] [])) (fun _ k => XS.icmpNo X0.here hx rfl (hb hby d13_4) rfl (by decide) k) ?_
  refine Go.st (f' := (mkF m 8 #[rv t1, rv t2, .unset] [(.int 0)])) (fun _ k => XS.iconst X0.here hx rfl (hb hby d13_7) k) ?_
  refine Go.st (f' := (mkF m 9 #[rv t1, rv t2, iv 0] [])) (fun _ k => XS.istoreN X0.here hx rfl (hb hby d13_8) rfl (l' := #[rv t1, rv t2, iv 0]) rfl k) ?_
  refine Go.st (f' := (mkF m 10 #[rv t1, rv t2, iv 0] [(.int 0)])) (fun _ k => XS.iloadN X0.here hx rfl (hb hby d13_9) rfl k) ?_
  refine Go.st (f' := (mkF m 11 #[rv t1, rv t2, iv 0] [(.ref t1), (.int 0)])) (fun _ k => XS.aloadN X0.here hx rfl (hb hby d13_10) rfl rfl k) ?_
  obtain ⟨cl3, Ar3, -, S3, Nx3, -, -⟩ := id V_t1
  refine Go.st (T' := s₁) (f' := (mkF m 12 #[rv t1, rv t2, iv 0] [(.int 0), (.int 0)])) (fun _ k => X0.arraylength hx (by rw [e0]; exact Ar3.1) (State.isArrayOf_alike hZ.alike Ar3.2.1) (g := (mkF m 11 #[rv t1, rv t2, iv 0] [(.ref t1), (.int 0)])) rfl rfl (hb hby d13_11) _ (by rw [len_of S3 Nx3]; exact k)) ?_
  refine Go.st (f' := (mkF m 32 #[rv t1, rv t2, iv 0] [])) (fun _ k => XS.icmpYes X0.here hx rfl (pc0 := 12) (pc' := 32) rfl (hb hby d13_12) rfl (by decide) (by decide) (by decide) k) ?_
  refine Go.st (f' := (mkF m 33 #[rv t1, rv t2, iv 0] [(.int 1)])) (fun _ k => XS.iconst X0.here hx rfl (hb hby d13_32) k) ?_
  refine Go.retB X0 hlk hx (t := .boolean) hret (by simp) (hb hby d13_33) e0 ?_ (by decide) (by decide)
  show (some (.int (1 : Int32)) : Option Value) = some (.int (elI_0_0 )) ∧ _
  exact ⟨by rw [elI_0_0], N0, rfl⟩
theorem d13_34 : decode jdk_43_method_13_code 34 = .ok (.iconst 0, 1) := by decide +kernel
theorem d13_35 : decode jdk_43_method_13_code 35 = .ok (.ireturn, 1) := by decide +kernel
def elI_0_1 (y0 : Int32) : Int32 := (0 : Int32)
set_option maxRecDepth 65536 in
set_option maxHeartbeats 40000000 in
theorem el_0_1 (l : Launch) (Z : State) (a0 : Array Value) (hw : ∀ d ∈ tables_1, d.before a0 Z = true) (ws : List Jvm.Cond) (t1 : Addr) (k1 : ClassId) (t2 : Addr) (k2 : ClassId) (y0 : Int32) (h0 : Heap) (n0 : Nat) (O0 : Old Z n0 h0) (V_t1 : Arv Z h0 t1 k1 .byte (0 : Int32) [] (.int 0)) (V_t2 : Arv Z h0 t2 k2 .byte (1 : Int32) [(.int y0)] (.int 0)) :
    Con l Z (⟨"java/lang/StringLatin1", "equals", "([B[B)Z"⟩ : MethodName) jdk_43_method_13_code 3 (some .boolean) ws ({ frames := 0, cells := 0, slots := 0, locals := 0 } : Room) #[(.ref t1), (.ref t2)] h0 (fun v h L => v = some (.int (elI_0_1 y0)) ∧ Fr n0 L ∧ h = h0) := by
  refine own_body (plainFor_of_name pn_java_lang_StringLatin1) ?_
  intro p e s m below meth c s₁ hx hby hml hZ hown hnm hlk hret X0 e0
  have N0 := Fr.nil n0
  refine Go.st (T' := s₁) (f' := (mkF m 0 #[rv t1, rv t2, .unset] [])) (fun _ k => castTop (by first | (simp [entryFrame, mkF, argsToLocals, Value.category]; done) | rfl) k) ?_
  have lt_t1 := V_t1.lt
  have lt_t2 := V_t2.lt
  refine Go.st (f' := (mkF m 1 #[rv t1, rv t2, .unset] [(.ref t1)])) (fun _ k => XS.aloadN X0.here hx rfl (hb hby d13_0) rfl rfl k) ?_
  obtain ⟨cl1, Ar1, -, S1, Nx1, -, -⟩ := id V_t1
  refine Go.st (T' := s₁) (f' := (mkF m 2 #[rv t1, rv t2, .unset] [(.int 0)])) (fun _ k => X0.arraylength hx (by rw [e0]; exact Ar1.1) (State.isArrayOf_alike hZ.alike Ar1.2.1) (g := (mkF m 1 #[rv t1, rv t2, .unset] [(.ref t1)])) rfl rfl (hb hby d13_1) _ (by rw [len_of S1 Nx1]; exact k)) ?_
  refine Go.st (f' := (mkF m 3 #[rv t1, rv t2, .unset] [(.ref t2), (.int 0)])) (fun _ k => XS.aloadN X0.here hx rfl (hb hby d13_2) rfl rfl k) ?_
  obtain ⟨cl2, Ar2, -, S2, Nx2, -, -⟩ := id V_t2
  refine Go.st (T' := s₁) (f' := (mkF m 4 #[rv t1, rv t2, .unset] [(.int 1), (.int 0)])) (fun _ k => X0.arraylength hx (by rw [e0]; exact Ar2.1) (State.isArrayOf_alike hZ.alike Ar2.2.1) (g := (mkF m 3 #[rv t1, rv t2, .unset] [(.ref t2), (.int 0)])) rfl rfl (hb hby d13_3) _ (by rw [len_of S2 Nx2]; exact k)) ?_
  refine Go.st (f' := (mkF m 34 #[rv t1, rv t2, .unset] [])) (fun _ k => XS.icmpYes X0.here hx rfl (pc0 := 4) (pc' := 34) rfl (hb hby d13_4) rfl (by decide) (by decide) (by decide) k) ?_
  refine Go.st (f' := (mkF m 35 #[rv t1, rv t2, .unset] [(.int 0)])) (fun _ k => XS.iconst X0.here hx rfl (hb hby d13_34) k) ?_
  refine Go.retB X0 hlk hx (t := .boolean) hret (by simp) (hb hby d13_35) e0 ?_ (by decide) (by decide)
  show (some (.int (0 : Int32)) : Option Value) = some (.int (elI_0_1 y0)) ∧ _
  exact ⟨by rw [elI_0_1], N0, rfl⟩
def elI_0_2 (y0 : Int32) (y1 : Int32) : Int32 := (0 : Int32)
set_option maxRecDepth 65536 in
set_option maxHeartbeats 40000000 in
theorem el_0_2 (l : Launch) (Z : State) (a0 : Array Value) (hw : ∀ d ∈ tables_1, d.before a0 Z = true) (ws : List Jvm.Cond) (t1 : Addr) (k1 : ClassId) (t2 : Addr) (k2 : ClassId) (y0 : Int32) (y1 : Int32) (h0 : Heap) (n0 : Nat) (O0 : Old Z n0 h0) (V_t1 : Arv Z h0 t1 k1 .byte (0 : Int32) [] (.int 0)) (V_t2 : Arv Z h0 t2 k2 .byte (2 : Int32) [(.int y0), (.int y1)] (.int 0)) :
    Con l Z (⟨"java/lang/StringLatin1", "equals", "([B[B)Z"⟩ : MethodName) jdk_43_method_13_code 3 (some .boolean) ws ({ frames := 0, cells := 0, slots := 0, locals := 0 } : Room) #[(.ref t1), (.ref t2)] h0 (fun v h L => v = some (.int (elI_0_2 y0 y1)) ∧ Fr n0 L ∧ h = h0) := by
  refine own_body (plainFor_of_name pn_java_lang_StringLatin1) ?_
  intro p e s m below meth c s₁ hx hby hml hZ hown hnm hlk hret X0 e0
  have N0 := Fr.nil n0
  refine Go.st (T' := s₁) (f' := (mkF m 0 #[rv t1, rv t2, .unset] [])) (fun _ k => castTop (by first | (simp [entryFrame, mkF, argsToLocals, Value.category]; done) | rfl) k) ?_
  have lt_t1 := V_t1.lt
  have lt_t2 := V_t2.lt
  refine Go.st (f' := (mkF m 1 #[rv t1, rv t2, .unset] [(.ref t1)])) (fun _ k => XS.aloadN X0.here hx rfl (hb hby d13_0) rfl rfl k) ?_
  obtain ⟨cl1, Ar1, -, S1, Nx1, -, -⟩ := id V_t1
  refine Go.st (T' := s₁) (f' := (mkF m 2 #[rv t1, rv t2, .unset] [(.int 0)])) (fun _ k => X0.arraylength hx (by rw [e0]; exact Ar1.1) (State.isArrayOf_alike hZ.alike Ar1.2.1) (g := (mkF m 1 #[rv t1, rv t2, .unset] [(.ref t1)])) rfl rfl (hb hby d13_1) _ (by rw [len_of S1 Nx1]; exact k)) ?_
  refine Go.st (f' := (mkF m 3 #[rv t1, rv t2, .unset] [(.ref t2), (.int 0)])) (fun _ k => XS.aloadN X0.here hx rfl (hb hby d13_2) rfl rfl k) ?_
  obtain ⟨cl2, Ar2, -, S2, Nx2, -, -⟩ := id V_t2
  refine Go.st (T' := s₁) (f' := (mkF m 4 #[rv t1, rv t2, .unset] [(.int 2), (.int 0)])) (fun _ k => X0.arraylength hx (by rw [e0]; exact Ar2.1) (State.isArrayOf_alike hZ.alike Ar2.2.1) (g := (mkF m 3 #[rv t1, rv t2, .unset] [(.ref t2), (.int 0)])) rfl rfl (hb hby d13_3) _ (by rw [len_of S2 Nx2]; exact k)) ?_
  refine Go.st (f' := (mkF m 34 #[rv t1, rv t2, .unset] [])) (fun _ k => XS.icmpYes X0.here hx rfl (pc0 := 4) (pc' := 34) rfl (hb hby d13_4) rfl (by decide) (by decide) (by decide) k) ?_
  refine Go.st (f' := (mkF m 35 #[rv t1, rv t2, .unset] [(.int 0)])) (fun _ k => XS.iconst X0.here hx rfl (hb hby d13_34) k) ?_
  refine Go.retB X0 hlk hx (t := .boolean) hret (by simp) (hb hby d13_35) e0 ?_ (by decide) (by decide)
  show (some (.int (0 : Int32)) : Option Value) = some (.int (elI_0_2 y0 y1)) ∧ _
  exact ⟨by rw [elI_0_2], N0, rfl⟩
def elI_1_0 (x0 : Int32) : Int32 := (0 : Int32)
set_option maxRecDepth 65536 in
set_option maxHeartbeats 40000000 in
theorem el_1_0 (l : Launch) (Z : State) (a0 : Array Value) (hw : ∀ d ∈ tables_1, d.before a0 Z = true) (ws : List Jvm.Cond) (t1 : Addr) (k1 : ClassId) (t2 : Addr) (k2 : ClassId) (x0 : Int32) (h0 : Heap) (n0 : Nat) (O0 : Old Z n0 h0) (V_t1 : Arv Z h0 t1 k1 .byte (1 : Int32) [(.int x0)] (.int 0)) (V_t2 : Arv Z h0 t2 k2 .byte (0 : Int32) [] (.int 0)) :
    Con l Z (⟨"java/lang/StringLatin1", "equals", "([B[B)Z"⟩ : MethodName) jdk_43_method_13_code 3 (some .boolean) ws ({ frames := 0, cells := 0, slots := 0, locals := 0 } : Room) #[(.ref t1), (.ref t2)] h0 (fun v h L => v = some (.int (elI_1_0 x0)) ∧ Fr n0 L ∧ h = h0) := by
  refine own_body (plainFor_of_name pn_java_lang_StringLatin1) ?_
  intro p e s m below meth c s₁ hx hby hml hZ hown hnm hlk hret X0 e0
  have N0 := Fr.nil n0
  refine Go.st (T' := s₁) (f' := (mkF m 0 #[rv t1, rv t2, .unset] [])) (fun _ k => castTop (by first | (simp [entryFrame, mkF, argsToLocals, Value.category]; done) | rfl) k) ?_
  have lt_t1 := V_t1.lt
  have lt_t2 := V_t2.lt
  refine Go.st (f' := (mkF m 1 #[rv t1, rv t2, .unset] [(.ref t1)])) (fun _ k => XS.aloadN X0.here hx rfl (hb hby d13_0) rfl rfl k) ?_
  obtain ⟨cl1, Ar1, -, S1, Nx1, -, -⟩ := id V_t1
  refine Go.st (T' := s₁) (f' := (mkF m 2 #[rv t1, rv t2, .unset] [(.int 1)])) (fun _ k => X0.arraylength hx (by rw [e0]; exact Ar1.1) (State.isArrayOf_alike hZ.alike Ar1.2.1) (g := (mkF m 1 #[rv t1, rv t2, .unset] [(.ref t1)])) rfl rfl (hb hby d13_1) _ (by rw [len_of S1 Nx1]; exact k)) ?_
  refine Go.st (f' := (mkF m 3 #[rv t1, rv t2, .unset] [(.ref t2), (.int 1)])) (fun _ k => XS.aloadN X0.here hx rfl (hb hby d13_2) rfl rfl k) ?_
  obtain ⟨cl2, Ar2, -, S2, Nx2, -, -⟩ := id V_t2
  refine Go.st (T' := s₁) (f' := (mkF m 4 #[rv t1, rv t2, .unset] [(.int 0), (.int 1)])) (fun _ k => X0.arraylength hx (by rw [e0]; exact Ar2.1) (State.isArrayOf_alike hZ.alike Ar2.2.1) (g := (mkF m 3 #[rv t1, rv t2, .unset] [(.ref t2), (.int 1)])) rfl rfl (hb hby d13_3) _ (by rw [len_of S2 Nx2]; exact k)) ?_
  refine Go.st (f' := (mkF m 34 #[rv t1, rv t2, .unset] [])) (fun _ k => XS.icmpYes X0.here hx rfl (pc0 := 4) (pc' := 34) rfl (hb hby d13_4) rfl (by decide) (by decide) (by decide) k) ?_
  refine Go.st (f' := (mkF m 35 #[rv t1, rv t2, .unset] [(.int 0)])) (fun _ k => XS.iconst X0.here hx rfl (hb hby d13_34) k) ?_
  refine Go.retB X0 hlk hx (t := .boolean) hret (by simp) (hb hby d13_35) e0 ?_ (by decide) (by decide)
  show (some (.int (0 : Int32)) : Option Value) = some (.int (elI_1_0 x0)) ∧ _
  exact ⟨by rw [elI_1_0], N0, rfl⟩
theorem d13_15 : decode jdk_43_method_13_code 15 = .ok (.aload_n 0, 1) := by decide +kernel
theorem d13_16 : decode jdk_43_method_13_code 16 = .ok (.iload_n 2, 1) := by decide +kernel
theorem d13_17 : decode jdk_43_method_13_code 17 = .ok (.baload, 1) := by decide +kernel
theorem d13_18 : decode jdk_43_method_13_code 18 = .ok (.aload_n 1, 1) := by decide +kernel
theorem d13_19 : decode jdk_43_method_13_code 19 = .ok (.iload_n 2, 1) := by decide +kernel
theorem d13_20 : decode jdk_43_method_13_code 20 = .ok (.baload, 1) := by decide +kernel
theorem d13_21 : decode jdk_43_method_13_code 21 = .ok (.if_icmp .eq 5, 3) := by decide +kernel
theorem d13_26 : decode jdk_43_method_13_code 26 = .ok (.iinc 2 1, 3) := by decide +kernel
theorem d13_29 : decode jdk_43_method_13_code 29 = .ok (.goto (-20), 3) := by decide +kernel
theorem d13_24 : decode jdk_43_method_13_code 24 = .ok (.iconst 0, 1) := by decide +kernel
theorem d13_25 : decode jdk_43_method_13_code 25 = .ok (.ireturn, 1) := by decide +kernel
def elI_1_1 (x0 : Int32) (y0 : Int32) : Int32 := (if x0 = y0 then (1 : Int32) else (0 : Int32))
set_option maxRecDepth 65536 in
set_option maxHeartbeats 40000000 in
theorem el_1_1 (l : Launch) (Z : State) (a0 : Array Value) (hw : ∀ d ∈ tables_1, d.before a0 Z = true) (ws : List Jvm.Cond) (t1 : Addr) (k1 : ClassId) (t2 : Addr) (k2 : ClassId) (x0 : Int32) (y0 : Int32) (h0 : Heap) (n0 : Nat) (O0 : Old Z n0 h0) (V_t1 : Arv Z h0 t1 k1 .byte (1 : Int32) [(.int x0)] (.int 0)) (V_t2 : Arv Z h0 t2 k2 .byte (1 : Int32) [(.int y0)] (.int 0)) :
    Con l Z (⟨"java/lang/StringLatin1", "equals", "([B[B)Z"⟩ : MethodName) jdk_43_method_13_code 3 (some .boolean) ws ({ frames := 0, cells := 0, slots := 0, locals := 0 } : Room) #[(.ref t1), (.ref t2)] h0 (fun v h L => v = some (.int (elI_1_1 x0 y0)) ∧ Fr n0 L ∧ h = h0) := by
  refine own_body (plainFor_of_name pn_java_lang_StringLatin1) ?_
  intro p e s m below meth c s₁ hx hby hml hZ hown hnm hlk hret X0 e0
  have N0 := Fr.nil n0
  refine Go.st (T' := s₁) (f' := (mkF m 0 #[rv t1, rv t2, .unset] [])) (fun _ k => castTop (by first | (simp [entryFrame, mkF, argsToLocals, Value.category]; done) | rfl) k) ?_
  have lt_t1 := V_t1.lt
  have lt_t2 := V_t2.lt
  refine Go.st (f' := (mkF m 1 #[rv t1, rv t2, .unset] [(.ref t1)])) (fun _ k => XS.aloadN X0.here hx rfl (hb hby d13_0) rfl rfl k) ?_
  obtain ⟨cl1, Ar1, -, S1, Nx1, -, -⟩ := id V_t1
  refine Go.st (T' := s₁) (f' := (mkF m 2 #[rv t1, rv t2, .unset] [(.int 1)])) (fun _ k => X0.arraylength hx (by rw [e0]; exact Ar1.1) (State.isArrayOf_alike hZ.alike Ar1.2.1) (g := (mkF m 1 #[rv t1, rv t2, .unset] [(.ref t1)])) rfl rfl (hb hby d13_1) _ (by rw [len_of S1 Nx1]; exact k)) ?_
  refine Go.st (f' := (mkF m 3 #[rv t1, rv t2, .unset] [(.ref t2), (.int 1)])) (fun _ k => XS.aloadN X0.here hx rfl (hb hby d13_2) rfl rfl k) ?_
  obtain ⟨cl2, Ar2, -, S2, Nx2, -, -⟩ := id V_t2
  refine Go.st (T' := s₁) (f' := (mkF m 4 #[rv t1, rv t2, .unset] [(.int 1), (.int 1)])) (fun _ k => X0.arraylength hx (by rw [e0]; exact Ar2.1) (State.isArrayOf_alike hZ.alike Ar2.2.1) (g := (mkF m 3 #[rv t1, rv t2, .unset] [(.ref t2), (.int 1)])) rfl rfl (hb hby d13_3) _ (by rw [len_of S2 Nx2]; exact k)) ?_
  refine Go.st (f' := (mkF m 7 #[rv t1, rv t2, .unset] [])) (fun _ k => XS.icmpNo X0.here hx rfl (hb hby d13_4) rfl (by decide) k) ?_
  refine Go.st (f' := (mkF m 8 #[rv t1, rv t2, .unset] [(.int 0)])) (fun _ k => XS.iconst X0.here hx rfl (hb hby d13_7) k) ?_
  refine Go.st (f' := (mkF m 9 #[rv t1, rv t2, iv 0] [])) (fun _ k => XS.istoreN X0.here hx rfl (hb hby d13_8) rfl (l' := #[rv t1, rv t2, iv 0]) rfl k) ?_
  refine Go.st (f' := (mkF m 10 #[rv t1, rv t2, iv 0] [(.int 0)])) (fun _ k => XS.iloadN X0.here hx rfl (hb hby d13_9) rfl k) ?_
  refine Go.st (f' := (mkF m 11 #[rv t1, rv t2, iv 0] [(.ref t1), (.int 0)])) (fun _ k => XS.aloadN X0.here hx rfl (hb hby d13_10) rfl rfl k) ?_
  obtain ⟨cl3, Ar3, -, S3, Nx3, -, -⟩ := id V_t1
  refine Go.st (T' := s₁) (f' := (mkF m 12 #[rv t1, rv t2, iv 0] [(.int 1), (.int 0)])) (fun _ k => X0.arraylength hx (by rw [e0]; exact Ar3.1) (State.isArrayOf_alike hZ.alike Ar3.2.1) (g := (mkF m 11 #[rv t1, rv t2, iv 0] [(.ref t1), (.int 0)])) rfl rfl (hb hby d13_11) _ (by rw [len_of S3 Nx3]; exact k)) ?_
  refine Go.st (f' := (mkF m 15 #[rv t1, rv t2, iv 0] [])) (fun _ k => XS.icmpNo X0.here hx rfl (hb hby d13_12) rfl (by decide) k) ?_
  refine Go.st (f' := (mkF m 16 #[rv t1, rv t2, iv 0] [(.ref t1)])) (fun _ k => XS.aloadN X0.here hx rfl (hb hby d13_15) rfl rfl k) ?_
  refine Go.st (f' := (mkF m 17 #[rv t1, rv t2, iv 0] [(.int 0), (.ref t1)])) (fun _ k => XS.iloadN X0.here hx rfl (hb hby d13_16) rfl k) ?_
  obtain ⟨cl4, Ar4, -, S4, -, H4, -⟩ := id V_t1
  have hin4 : ¬ ((0 : Int32) < 0 ∨ cl4.slots.size ≤ ((0 : Int32)).toNatClampNeg) := inb_of S4 ⟨by decide, by decide⟩
  have hat4 : cl4.slots[((0 : Int32)).toNatClampNeg]? = some (.int x0) := H4.at hin4 rfl
  refine Go.st (f' := (mkF m 18 #[rv t1, rv t2, iv 0] [(.int x0)])) (fun _ k => X0.baloadBytes hx (j := (0 : Int32)) (v := (.int x0)) (by rw [e0]; exact Ar4.1) (State.isArrayOf_alike hZ.alike Ar4.2.1) Ar4.2.2 hin4 hat4 (g := (mkF m 17 #[rv t1, rv t2, iv 0] [(.int 0), (.ref t1)])) rfl rfl (hb hby d13_17) _ k) ?_
  refine Go.st (f' := (mkF m 19 #[rv t1, rv t2, iv 0] [(.ref t2), (.int x0)])) (fun _ k => XS.aloadN X0.here hx rfl (hb hby d13_18) rfl rfl k) ?_
  refine Go.st (f' := (mkF m 20 #[rv t1, rv t2, iv 0] [(.int 0), (.ref t2), (.int x0)])) (fun _ k => XS.iloadN X0.here hx rfl (hb hby d13_19) rfl k) ?_
  obtain ⟨cl5, Ar5, -, S5, -, H5, -⟩ := id V_t2
  have hin5 : ¬ ((0 : Int32) < 0 ∨ cl5.slots.size ≤ ((0 : Int32)).toNatClampNeg) := inb_of S5 ⟨by decide, by decide⟩
  have hat5 : cl5.slots[((0 : Int32)).toNatClampNeg]? = some (.int y0) := H5.at hin5 rfl
  refine Go.st (f' := (mkF m 21 #[rv t1, rv t2, iv 0] [(.int y0), (.int x0)])) (fun _ k => X0.baloadBytes hx (j := (0 : Int32)) (v := (.int y0)) (by rw [e0]; exact Ar5.1) (State.isArrayOf_alike hZ.alike Ar5.2.1) Ar5.2.2 hin5 hat5 (g := (mkF m 20 #[rv t1, rv t2, iv 0] [(.int 0), (.ref t2), (.int x0)])) rfl rfl (hb hby d13_20) _ k) ?_
  by_cases cd6 : x0 = y0
  · refine Go.st (f' := (mkF m 26 #[rv t1, rv t2, iv 0] [])) (fun _ k => XS.icmpYes X0.here hx rfl (pc0 := 21) (pc' := 26) rfl (hb hby d13_21) rfl (teq cd6).1 (by decide) (by decide) k) ?_
    refine Go.st (f' := (mkF m 29 #[rv t1, rv t2, iv 1] [])) (fun _ k => XS.iinc X0.here hx rfl (hb hby d13_26) rfl (l' := #[rv t1, rv t2, iv 1]) rfl k) ?_
    refine Go.st (f' := (mkF m 9 #[rv t1, rv t2, iv 1] [])) (fun _ k => XS.goto X0.here hx rfl (pc0 := 29) (pc' := 9) rfl (hb hby d13_29) (by decide) (by decide) k) ?_
    refine Go.st (f' := (mkF m 10 #[rv t1, rv t2, iv 1] [(.int 1)])) (fun _ k => XS.iloadN X0.here hx rfl (hb hby d13_9) rfl k) ?_
    refine Go.st (f' := (mkF m 11 #[rv t1, rv t2, iv 1] [(.ref t1), (.int 1)])) (fun _ k => XS.aloadN X0.here hx rfl (hb hby d13_10) rfl rfl k) ?_
    obtain ⟨cl7, Ar7, -, S7, Nx7, -, -⟩ := id V_t1
    refine Go.st (T' := s₁) (f' := (mkF m 12 #[rv t1, rv t2, iv 1] [(.int 1), (.int 1)])) (fun _ k => X0.arraylength hx (by rw [e0]; exact Ar7.1) (State.isArrayOf_alike hZ.alike Ar7.2.1) (g := (mkF m 11 #[rv t1, rv t2, iv 1] [(.ref t1), (.int 1)])) rfl rfl (hb hby d13_11) _ (by rw [len_of S7 Nx7]; exact k)) ?_
    refine Go.st (f' := (mkF m 32 #[rv t1, rv t2, iv 1] [])) (fun _ k => XS.icmpYes X0.here hx rfl (pc0 := 12) (pc' := 32) rfl (hb hby d13_12) rfl (by decide) (by decide) (by decide) k) ?_
    refine Go.st (f' := (mkF m 33 #[rv t1, rv t2, iv 1] [(.int 1)])) (fun _ k => XS.iconst X0.here hx rfl (hb hby d13_32) k) ?_
    refine Go.retB X0 hlk hx (t := .boolean) hret (by simp) (hb hby d13_33) e0 ?_ (by decide) (by decide)
    show (some (.int (1 : Int32)) : Option Value) = some (.int (elI_1_1 x0 y0)) ∧ _
    exact ⟨by rw [elI_1_1, if_pos cd6], N0, rfl⟩
  · refine Go.st (f' := (mkF m 24 #[rv t1, rv t2, iv 0] [])) (fun _ k => XS.icmpNo X0.here hx rfl (hb hby d13_21) rfl (feq cd6).1 k) ?_
    refine Go.st (f' := (mkF m 25 #[rv t1, rv t2, iv 0] [(.int 0)])) (fun _ k => XS.iconst X0.here hx rfl (hb hby d13_24) k) ?_
    refine Go.retB X0 hlk hx (t := .boolean) hret (by simp) (hb hby d13_25) e0 ?_ (by decide) (by decide)
    show (some (.int (0 : Int32)) : Option Value) = some (.int (elI_1_1 x0 y0)) ∧ _
    exact ⟨by rw [elI_1_1, if_neg cd6], N0, rfl⟩
def elI_1_2 (x0 : Int32) (y0 : Int32) (y1 : Int32) : Int32 := (0 : Int32)
set_option maxRecDepth 65536 in
set_option maxHeartbeats 40000000 in
theorem el_1_2 (l : Launch) (Z : State) (a0 : Array Value) (hw : ∀ d ∈ tables_1, d.before a0 Z = true) (ws : List Jvm.Cond) (t1 : Addr) (k1 : ClassId) (t2 : Addr) (k2 : ClassId) (x0 : Int32) (y0 : Int32) (y1 : Int32) (h0 : Heap) (n0 : Nat) (O0 : Old Z n0 h0) (V_t1 : Arv Z h0 t1 k1 .byte (1 : Int32) [(.int x0)] (.int 0)) (V_t2 : Arv Z h0 t2 k2 .byte (2 : Int32) [(.int y0), (.int y1)] (.int 0)) :
    Con l Z (⟨"java/lang/StringLatin1", "equals", "([B[B)Z"⟩ : MethodName) jdk_43_method_13_code 3 (some .boolean) ws ({ frames := 0, cells := 0, slots := 0, locals := 0 } : Room) #[(.ref t1), (.ref t2)] h0 (fun v h L => v = some (.int (elI_1_2 x0 y0 y1)) ∧ Fr n0 L ∧ h = h0) := by
  refine own_body (plainFor_of_name pn_java_lang_StringLatin1) ?_
  intro p e s m below meth c s₁ hx hby hml hZ hown hnm hlk hret X0 e0
  have N0 := Fr.nil n0
  refine Go.st (T' := s₁) (f' := (mkF m 0 #[rv t1, rv t2, .unset] [])) (fun _ k => castTop (by first | (simp [entryFrame, mkF, argsToLocals, Value.category]; done) | rfl) k) ?_
  have lt_t1 := V_t1.lt
  have lt_t2 := V_t2.lt
  refine Go.st (f' := (mkF m 1 #[rv t1, rv t2, .unset] [(.ref t1)])) (fun _ k => XS.aloadN X0.here hx rfl (hb hby d13_0) rfl rfl k) ?_
  obtain ⟨cl1, Ar1, -, S1, Nx1, -, -⟩ := id V_t1
  refine Go.st (T' := s₁) (f' := (mkF m 2 #[rv t1, rv t2, .unset] [(.int 1)])) (fun _ k => X0.arraylength hx (by rw [e0]; exact Ar1.1) (State.isArrayOf_alike hZ.alike Ar1.2.1) (g := (mkF m 1 #[rv t1, rv t2, .unset] [(.ref t1)])) rfl rfl (hb hby d13_1) _ (by rw [len_of S1 Nx1]; exact k)) ?_
  refine Go.st (f' := (mkF m 3 #[rv t1, rv t2, .unset] [(.ref t2), (.int 1)])) (fun _ k => XS.aloadN X0.here hx rfl (hb hby d13_2) rfl rfl k) ?_
  obtain ⟨cl2, Ar2, -, S2, Nx2, -, -⟩ := id V_t2
  refine Go.st (T' := s₁) (f' := (mkF m 4 #[rv t1, rv t2, .unset] [(.int 2), (.int 1)])) (fun _ k => X0.arraylength hx (by rw [e0]; exact Ar2.1) (State.isArrayOf_alike hZ.alike Ar2.2.1) (g := (mkF m 3 #[rv t1, rv t2, .unset] [(.ref t2), (.int 1)])) rfl rfl (hb hby d13_3) _ (by rw [len_of S2 Nx2]; exact k)) ?_
  refine Go.st (f' := (mkF m 34 #[rv t1, rv t2, .unset] [])) (fun _ k => XS.icmpYes X0.here hx rfl (pc0 := 4) (pc' := 34) rfl (hb hby d13_4) rfl (by decide) (by decide) (by decide) k) ?_
  refine Go.st (f' := (mkF m 35 #[rv t1, rv t2, .unset] [(.int 0)])) (fun _ k => XS.iconst X0.here hx rfl (hb hby d13_34) k) ?_
  refine Go.retB X0 hlk hx (t := .boolean) hret (by simp) (hb hby d13_35) e0 ?_ (by decide) (by decide)
  show (some (.int (0 : Int32)) : Option Value) = some (.int (elI_1_2 x0 y0 y1)) ∧ _
  exact ⟨by rw [elI_1_2], N0, rfl⟩
def elI_2_0 (x0 : Int32) (x1 : Int32) : Int32 := (0 : Int32)
set_option maxRecDepth 65536 in
set_option maxHeartbeats 40000000 in
theorem el_2_0 (l : Launch) (Z : State) (a0 : Array Value) (hw : ∀ d ∈ tables_1, d.before a0 Z = true) (ws : List Jvm.Cond) (t1 : Addr) (k1 : ClassId) (t2 : Addr) (k2 : ClassId) (x0 : Int32) (x1 : Int32) (h0 : Heap) (n0 : Nat) (O0 : Old Z n0 h0) (V_t1 : Arv Z h0 t1 k1 .byte (2 : Int32) [(.int x0), (.int x1)] (.int 0)) (V_t2 : Arv Z h0 t2 k2 .byte (0 : Int32) [] (.int 0)) :
    Con l Z (⟨"java/lang/StringLatin1", "equals", "([B[B)Z"⟩ : MethodName) jdk_43_method_13_code 3 (some .boolean) ws ({ frames := 0, cells := 0, slots := 0, locals := 0 } : Room) #[(.ref t1), (.ref t2)] h0 (fun v h L => v = some (.int (elI_2_0 x0 x1)) ∧ Fr n0 L ∧ h = h0) := by
  refine own_body (plainFor_of_name pn_java_lang_StringLatin1) ?_
  intro p e s m below meth c s₁ hx hby hml hZ hown hnm hlk hret X0 e0
  have N0 := Fr.nil n0
  refine Go.st (T' := s₁) (f' := (mkF m 0 #[rv t1, rv t2, .unset] [])) (fun _ k => castTop (by first | (simp [entryFrame, mkF, argsToLocals, Value.category]; done) | rfl) k) ?_
  have lt_t1 := V_t1.lt
  have lt_t2 := V_t2.lt
  refine Go.st (f' := (mkF m 1 #[rv t1, rv t2, .unset] [(.ref t1)])) (fun _ k => XS.aloadN X0.here hx rfl (hb hby d13_0) rfl rfl k) ?_
  obtain ⟨cl1, Ar1, -, S1, Nx1, -, -⟩ := id V_t1
  refine Go.st (T' := s₁) (f' := (mkF m 2 #[rv t1, rv t2, .unset] [(.int 2)])) (fun _ k => X0.arraylength hx (by rw [e0]; exact Ar1.1) (State.isArrayOf_alike hZ.alike Ar1.2.1) (g := (mkF m 1 #[rv t1, rv t2, .unset] [(.ref t1)])) rfl rfl (hb hby d13_1) _ (by rw [len_of S1 Nx1]; exact k)) ?_
  refine Go.st (f' := (mkF m 3 #[rv t1, rv t2, .unset] [(.ref t2), (.int 2)])) (fun _ k => XS.aloadN X0.here hx rfl (hb hby d13_2) rfl rfl k) ?_
  obtain ⟨cl2, Ar2, -, S2, Nx2, -, -⟩ := id V_t2
  refine Go.st (T' := s₁) (f' := (mkF m 4 #[rv t1, rv t2, .unset] [(.int 0), (.int 2)])) (fun _ k => X0.arraylength hx (by rw [e0]; exact Ar2.1) (State.isArrayOf_alike hZ.alike Ar2.2.1) (g := (mkF m 3 #[rv t1, rv t2, .unset] [(.ref t2), (.int 2)])) rfl rfl (hb hby d13_3) _ (by rw [len_of S2 Nx2]; exact k)) ?_
  refine Go.st (f' := (mkF m 34 #[rv t1, rv t2, .unset] [])) (fun _ k => XS.icmpYes X0.here hx rfl (pc0 := 4) (pc' := 34) rfl (hb hby d13_4) rfl (by decide) (by decide) (by decide) k) ?_
  refine Go.st (f' := (mkF m 35 #[rv t1, rv t2, .unset] [(.int 0)])) (fun _ k => XS.iconst X0.here hx rfl (hb hby d13_34) k) ?_
  refine Go.retB X0 hlk hx (t := .boolean) hret (by simp) (hb hby d13_35) e0 ?_ (by decide) (by decide)
  show (some (.int (0 : Int32)) : Option Value) = some (.int (elI_2_0 x0 x1)) ∧ _
  exact ⟨by rw [elI_2_0], N0, rfl⟩
def elI_2_1 (x0 : Int32) (x1 : Int32) (y0 : Int32) : Int32 := (0 : Int32)
set_option maxRecDepth 65536 in
set_option maxHeartbeats 40000000 in
theorem el_2_1 (l : Launch) (Z : State) (a0 : Array Value) (hw : ∀ d ∈ tables_1, d.before a0 Z = true) (ws : List Jvm.Cond) (t1 : Addr) (k1 : ClassId) (t2 : Addr) (k2 : ClassId) (x0 : Int32) (x1 : Int32) (y0 : Int32) (h0 : Heap) (n0 : Nat) (O0 : Old Z n0 h0) (V_t1 : Arv Z h0 t1 k1 .byte (2 : Int32) [(.int x0), (.int x1)] (.int 0)) (V_t2 : Arv Z h0 t2 k2 .byte (1 : Int32) [(.int y0)] (.int 0)) :
    Con l Z (⟨"java/lang/StringLatin1", "equals", "([B[B)Z"⟩ : MethodName) jdk_43_method_13_code 3 (some .boolean) ws ({ frames := 0, cells := 0, slots := 0, locals := 0 } : Room) #[(.ref t1), (.ref t2)] h0 (fun v h L => v = some (.int (elI_2_1 x0 x1 y0)) ∧ Fr n0 L ∧ h = h0) := by
  refine own_body (plainFor_of_name pn_java_lang_StringLatin1) ?_
  intro p e s m below meth c s₁ hx hby hml hZ hown hnm hlk hret X0 e0
  have N0 := Fr.nil n0
  refine Go.st (T' := s₁) (f' := (mkF m 0 #[rv t1, rv t2, .unset] [])) (fun _ k => castTop (by first | (simp [entryFrame, mkF, argsToLocals, Value.category]; done) | rfl) k) ?_
  have lt_t1 := V_t1.lt
  have lt_t2 := V_t2.lt
  refine Go.st (f' := (mkF m 1 #[rv t1, rv t2, .unset] [(.ref t1)])) (fun _ k => XS.aloadN X0.here hx rfl (hb hby d13_0) rfl rfl k) ?_
  obtain ⟨cl1, Ar1, -, S1, Nx1, -, -⟩ := id V_t1
  refine Go.st (T' := s₁) (f' := (mkF m 2 #[rv t1, rv t2, .unset] [(.int 2)])) (fun _ k => X0.arraylength hx (by rw [e0]; exact Ar1.1) (State.isArrayOf_alike hZ.alike Ar1.2.1) (g := (mkF m 1 #[rv t1, rv t2, .unset] [(.ref t1)])) rfl rfl (hb hby d13_1) _ (by rw [len_of S1 Nx1]; exact k)) ?_
  refine Go.st (f' := (mkF m 3 #[rv t1, rv t2, .unset] [(.ref t2), (.int 2)])) (fun _ k => XS.aloadN X0.here hx rfl (hb hby d13_2) rfl rfl k) ?_
  obtain ⟨cl2, Ar2, -, S2, Nx2, -, -⟩ := id V_t2
  refine Go.st (T' := s₁) (f' := (mkF m 4 #[rv t1, rv t2, .unset] [(.int 1), (.int 2)])) (fun _ k => X0.arraylength hx (by rw [e0]; exact Ar2.1) (State.isArrayOf_alike hZ.alike Ar2.2.1) (g := (mkF m 3 #[rv t1, rv t2, .unset] [(.ref t2), (.int 2)])) rfl rfl (hb hby d13_3) _ (by rw [len_of S2 Nx2]; exact k)) ?_
  refine Go.st (f' := (mkF m 34 #[rv t1, rv t2, .unset] [])) (fun _ k => XS.icmpYes X0.here hx rfl (pc0 := 4) (pc' := 34) rfl (hb hby d13_4) rfl (by decide) (by decide) (by decide) k) ?_
  refine Go.st (f' := (mkF m 35 #[rv t1, rv t2, .unset] [(.int 0)])) (fun _ k => XS.iconst X0.here hx rfl (hb hby d13_34) k) ?_
  refine Go.retB X0 hlk hx (t := .boolean) hret (by simp) (hb hby d13_35) e0 ?_ (by decide) (by decide)
  show (some (.int (0 : Int32)) : Option Value) = some (.int (elI_2_1 x0 x1 y0)) ∧ _
  exact ⟨by rw [elI_2_1], N0, rfl⟩
def elI_2_2 (x0 : Int32) (x1 : Int32) (y0 : Int32) (y1 : Int32) : Int32 := (if x0 = y0 then (if x1 = y1 then (1 : Int32) else (0 : Int32)) else (0 : Int32))
set_option maxRecDepth 65536 in
set_option maxHeartbeats 40000000 in
theorem el_2_2 (l : Launch) (Z : State) (a0 : Array Value) (hw : ∀ d ∈ tables_1, d.before a0 Z = true) (ws : List Jvm.Cond) (t1 : Addr) (k1 : ClassId) (t2 : Addr) (k2 : ClassId) (x0 : Int32) (x1 : Int32) (y0 : Int32) (y1 : Int32) (h0 : Heap) (n0 : Nat) (O0 : Old Z n0 h0) (V_t1 : Arv Z h0 t1 k1 .byte (2 : Int32) [(.int x0), (.int x1)] (.int 0)) (V_t2 : Arv Z h0 t2 k2 .byte (2 : Int32) [(.int y0), (.int y1)] (.int 0)) :
    Con l Z (⟨"java/lang/StringLatin1", "equals", "([B[B)Z"⟩ : MethodName) jdk_43_method_13_code 3 (some .boolean) ws ({ frames := 0, cells := 0, slots := 0, locals := 0 } : Room) #[(.ref t1), (.ref t2)] h0 (fun v h L => v = some (.int (elI_2_2 x0 x1 y0 y1)) ∧ Fr n0 L ∧ h = h0) := by
  refine own_body (plainFor_of_name pn_java_lang_StringLatin1) ?_
  intro p e s m below meth c s₁ hx hby hml hZ hown hnm hlk hret X0 e0
  have N0 := Fr.nil n0
  refine Go.st (T' := s₁) (f' := (mkF m 0 #[rv t1, rv t2, .unset] [])) (fun _ k => castTop (by first | (simp [entryFrame, mkF, argsToLocals, Value.category]; done) | rfl) k) ?_
  have lt_t1 := V_t1.lt
  have lt_t2 := V_t2.lt
  refine Go.st (f' := (mkF m 1 #[rv t1, rv t2, .unset] [(.ref t1)])) (fun _ k => XS.aloadN X0.here hx rfl (hb hby d13_0) rfl rfl k) ?_
  obtain ⟨cl1, Ar1, -, S1, Nx1, -, -⟩ := id V_t1
  refine Go.st (T' := s₁) (f' := (mkF m 2 #[rv t1, rv t2, .unset] [(.int 2)])) (fun _ k => X0.arraylength hx (by rw [e0]; exact Ar1.1) (State.isArrayOf_alike hZ.alike Ar1.2.1) (g := (mkF m 1 #[rv t1, rv t2, .unset] [(.ref t1)])) rfl rfl (hb hby d13_1) _ (by rw [len_of S1 Nx1]; exact k)) ?_
  refine Go.st (f' := (mkF m 3 #[rv t1, rv t2, .unset] [(.ref t2), (.int 2)])) (fun _ k => XS.aloadN X0.here hx rfl (hb hby d13_2) rfl rfl k) ?_
  obtain ⟨cl2, Ar2, -, S2, Nx2, -, -⟩ := id V_t2
  refine Go.st (T' := s₁) (f' := (mkF m 4 #[rv t1, rv t2, .unset] [(.int 2), (.int 2)])) (fun _ k => X0.arraylength hx (by rw [e0]; exact Ar2.1) (State.isArrayOf_alike hZ.alike Ar2.2.1) (g := (mkF m 3 #[rv t1, rv t2, .unset] [(.ref t2), (.int 2)])) rfl rfl (hb hby d13_3) _ (by rw [len_of S2 Nx2]; exact k)) ?_
  refine Go.st (f' := (mkF m 7 #[rv t1, rv t2, .unset] [])) (fun _ k => XS.icmpNo X0.here hx rfl (hb hby d13_4) rfl (by decide) k) ?_
  refine Go.st (f' := (mkF m 8 #[rv t1, rv t2, .unset] [(.int 0)])) (fun _ k => XS.iconst X0.here hx rfl (hb hby d13_7) k) ?_
  refine Go.st (f' := (mkF m 9 #[rv t1, rv t2, iv 0] [])) (fun _ k => XS.istoreN X0.here hx rfl (hb hby d13_8) rfl (l' := #[rv t1, rv t2, iv 0]) rfl k) ?_
  refine Go.st (f' := (mkF m 10 #[rv t1, rv t2, iv 0] [(.int 0)])) (fun _ k => XS.iloadN X0.here hx rfl (hb hby d13_9) rfl k) ?_
  refine Go.st (f' := (mkF m 11 #[rv t1, rv t2, iv 0] [(.ref t1), (.int 0)])) (fun _ k => XS.aloadN X0.here hx rfl (hb hby d13_10) rfl rfl k) ?_
  obtain ⟨cl3, Ar3, -, S3, Nx3, -, -⟩ := id V_t1
  refine Go.st (T' := s₁) (f' := (mkF m 12 #[rv t1, rv t2, iv 0] [(.int 2), (.int 0)])) (fun _ k => X0.arraylength hx (by rw [e0]; exact Ar3.1) (State.isArrayOf_alike hZ.alike Ar3.2.1) (g := (mkF m 11 #[rv t1, rv t2, iv 0] [(.ref t1), (.int 0)])) rfl rfl (hb hby d13_11) _ (by rw [len_of S3 Nx3]; exact k)) ?_
  refine Go.st (f' := (mkF m 15 #[rv t1, rv t2, iv 0] [])) (fun _ k => XS.icmpNo X0.here hx rfl (hb hby d13_12) rfl (by decide) k) ?_
  refine Go.st (f' := (mkF m 16 #[rv t1, rv t2, iv 0] [(.ref t1)])) (fun _ k => XS.aloadN X0.here hx rfl (hb hby d13_15) rfl rfl k) ?_
  refine Go.st (f' := (mkF m 17 #[rv t1, rv t2, iv 0] [(.int 0), (.ref t1)])) (fun _ k => XS.iloadN X0.here hx rfl (hb hby d13_16) rfl k) ?_
  obtain ⟨cl4, Ar4, -, S4, -, H4, -⟩ := id V_t1
  have hin4 : ¬ ((0 : Int32) < 0 ∨ cl4.slots.size ≤ ((0 : Int32)).toNatClampNeg) := inb_of S4 ⟨by decide, by decide⟩
  have hat4 : cl4.slots[((0 : Int32)).toNatClampNeg]? = some (.int x0) := H4.at hin4 rfl
  refine Go.st (f' := (mkF m 18 #[rv t1, rv t2, iv 0] [(.int x0)])) (fun _ k => X0.baloadBytes hx (j := (0 : Int32)) (v := (.int x0)) (by rw [e0]; exact Ar4.1) (State.isArrayOf_alike hZ.alike Ar4.2.1) Ar4.2.2 hin4 hat4 (g := (mkF m 17 #[rv t1, rv t2, iv 0] [(.int 0), (.ref t1)])) rfl rfl (hb hby d13_17) _ k) ?_
  refine Go.st (f' := (mkF m 19 #[rv t1, rv t2, iv 0] [(.ref t2), (.int x0)])) (fun _ k => XS.aloadN X0.here hx rfl (hb hby d13_18) rfl rfl k) ?_
  refine Go.st (f' := (mkF m 20 #[rv t1, rv t2, iv 0] [(.int 0), (.ref t2), (.int x0)])) (fun _ k => XS.iloadN X0.here hx rfl (hb hby d13_19) rfl k) ?_
  obtain ⟨cl5, Ar5, -, S5, -, H5, -⟩ := id V_t2
  have hin5 : ¬ ((0 : Int32) < 0 ∨ cl5.slots.size ≤ ((0 : Int32)).toNatClampNeg) := inb_of S5 ⟨by decide, by decide⟩
  have hat5 : cl5.slots[((0 : Int32)).toNatClampNeg]? = some (.int y0) := H5.at hin5 rfl
  refine Go.st (f' := (mkF m 21 #[rv t1, rv t2, iv 0] [(.int y0), (.int x0)])) (fun _ k => X0.baloadBytes hx (j := (0 : Int32)) (v := (.int y0)) (by rw [e0]; exact Ar5.1) (State.isArrayOf_alike hZ.alike Ar5.2.1) Ar5.2.2 hin5 hat5 (g := (mkF m 20 #[rv t1, rv t2, iv 0] [(.int 0), (.ref t2), (.int x0)])) rfl rfl (hb hby d13_20) _ k) ?_
  by_cases cd6 : x0 = y0
  · refine Go.st (f' := (mkF m 26 #[rv t1, rv t2, iv 0] [])) (fun _ k => XS.icmpYes X0.here hx rfl (pc0 := 21) (pc' := 26) rfl (hb hby d13_21) rfl (teq cd6).1 (by decide) (by decide) k) ?_
    refine Go.st (f' := (mkF m 29 #[rv t1, rv t2, iv 1] [])) (fun _ k => XS.iinc X0.here hx rfl (hb hby d13_26) rfl (l' := #[rv t1, rv t2, iv 1]) rfl k) ?_
    refine Go.st (f' := (mkF m 9 #[rv t1, rv t2, iv 1] [])) (fun _ k => XS.goto X0.here hx rfl (pc0 := 29) (pc' := 9) rfl (hb hby d13_29) (by decide) (by decide) k) ?_
    refine Go.st (f' := (mkF m 10 #[rv t1, rv t2, iv 1] [(.int 1)])) (fun _ k => XS.iloadN X0.here hx rfl (hb hby d13_9) rfl k) ?_
    refine Go.st (f' := (mkF m 11 #[rv t1, rv t2, iv 1] [(.ref t1), (.int 1)])) (fun _ k => XS.aloadN X0.here hx rfl (hb hby d13_10) rfl rfl k) ?_
    obtain ⟨cl7, Ar7, -, S7, Nx7, -, -⟩ := id V_t1
    refine Go.st (T' := s₁) (f' := (mkF m 12 #[rv t1, rv t2, iv 1] [(.int 2), (.int 1)])) (fun _ k => X0.arraylength hx (by rw [e0]; exact Ar7.1) (State.isArrayOf_alike hZ.alike Ar7.2.1) (g := (mkF m 11 #[rv t1, rv t2, iv 1] [(.ref t1), (.int 1)])) rfl rfl (hb hby d13_11) _ (by rw [len_of S7 Nx7]; exact k)) ?_
    refine Go.st (f' := (mkF m 15 #[rv t1, rv t2, iv 1] [])) (fun _ k => XS.icmpNo X0.here hx rfl (hb hby d13_12) rfl (by decide) k) ?_
    refine Go.st (f' := (mkF m 16 #[rv t1, rv t2, iv 1] [(.ref t1)])) (fun _ k => XS.aloadN X0.here hx rfl (hb hby d13_15) rfl rfl k) ?_
    refine Go.st (f' := (mkF m 17 #[rv t1, rv t2, iv 1] [(.int 1), (.ref t1)])) (fun _ k => XS.iloadN X0.here hx rfl (hb hby d13_16) rfl k) ?_
    obtain ⟨cl8, Ar8, -, S8, -, H8, -⟩ := id V_t1
    have hin8 : ¬ ((1 : Int32) < 0 ∨ cl8.slots.size ≤ ((1 : Int32)).toNatClampNeg) := inb_of S8 ⟨by decide, by decide⟩
    have hat8 : cl8.slots[((1 : Int32)).toNatClampNeg]? = some (.int x1) := H8.at hin8 rfl
    refine Go.st (f' := (mkF m 18 #[rv t1, rv t2, iv 1] [(.int x1)])) (fun _ k => X0.baloadBytes hx (j := (1 : Int32)) (v := (.int x1)) (by rw [e0]; exact Ar8.1) (State.isArrayOf_alike hZ.alike Ar8.2.1) Ar8.2.2 hin8 hat8 (g := (mkF m 17 #[rv t1, rv t2, iv 1] [(.int 1), (.ref t1)])) rfl rfl (hb hby d13_17) _ k) ?_
    refine Go.st (f' := (mkF m 19 #[rv t1, rv t2, iv 1] [(.ref t2), (.int x1)])) (fun _ k => XS.aloadN X0.here hx rfl (hb hby d13_18) rfl rfl k) ?_
    refine Go.st (f' := (mkF m 20 #[rv t1, rv t2, iv 1] [(.int 1), (.ref t2), (.int x1)])) (fun _ k => XS.iloadN X0.here hx rfl (hb hby d13_19) rfl k) ?_
    obtain ⟨cl9, Ar9, -, S9, -, H9, -⟩ := id V_t2
    have hin9 : ¬ ((1 : Int32) < 0 ∨ cl9.slots.size ≤ ((1 : Int32)).toNatClampNeg) := inb_of S9 ⟨by decide, by decide⟩
    have hat9 : cl9.slots[((1 : Int32)).toNatClampNeg]? = some (.int y1) := H9.at hin9 rfl
    refine Go.st (f' := (mkF m 21 #[rv t1, rv t2, iv 1] [(.int y1), (.int x1)])) (fun _ k => X0.baloadBytes hx (j := (1 : Int32)) (v := (.int y1)) (by rw [e0]; exact Ar9.1) (State.isArrayOf_alike hZ.alike Ar9.2.1) Ar9.2.2 hin9 hat9 (g := (mkF m 20 #[rv t1, rv t2, iv 1] [(.int 1), (.ref t2), (.int x1)])) rfl rfl (hb hby d13_20) _ k) ?_
    by_cases cd10 : x1 = y1
    · refine Go.st (f' := (mkF m 26 #[rv t1, rv t2, iv 1] [])) (fun _ k => XS.icmpYes X0.here hx rfl (pc0 := 21) (pc' := 26) rfl (hb hby d13_21) rfl (teq cd10).1 (by decide) (by decide) k) ?_
      refine Go.st (f' := (mkF m 29 #[rv t1, rv t2, iv 2] [])) (fun _ k => XS.iinc X0.here hx rfl (hb hby d13_26) rfl (l' := #[rv t1, rv t2, iv 2]) rfl k) ?_
      refine Go.st (f' := (mkF m 9 #[rv t1, rv t2, iv 2] [])) (fun _ k => XS.goto X0.here hx rfl (pc0 := 29) (pc' := 9) rfl (hb hby d13_29) (by decide) (by decide) k) ?_
      refine Go.st (f' := (mkF m 10 #[rv t1, rv t2, iv 2] [(.int 2)])) (fun _ k => XS.iloadN X0.here hx rfl (hb hby d13_9) rfl k) ?_
      refine Go.st (f' := (mkF m 11 #[rv t1, rv t2, iv 2] [(.ref t1), (.int 2)])) (fun _ k => XS.aloadN X0.here hx rfl (hb hby d13_10) rfl rfl k) ?_
      obtain ⟨cl11, Ar11, -, S11, Nx11, -, -⟩ := id V_t1
      refine Go.st (T' := s₁) (f' := (mkF m 12 #[rv t1, rv t2, iv 2] [(.int 2), (.int 2)])) (fun _ k => X0.arraylength hx (by rw [e0]; exact Ar11.1) (State.isArrayOf_alike hZ.alike Ar11.2.1) (g := (mkF m 11 #[rv t1, rv t2, iv 2] [(.ref t1), (.int 2)])) rfl rfl (hb hby d13_11) _ (by rw [len_of S11 Nx11]; exact k)) ?_
      refine Go.st (f' := (mkF m 32 #[rv t1, rv t2, iv 2] [])) (fun _ k => XS.icmpYes X0.here hx rfl (pc0 := 12) (pc' := 32) rfl (hb hby d13_12) rfl (by decide) (by decide) (by decide) k) ?_
      refine Go.st (f' := (mkF m 33 #[rv t1, rv t2, iv 2] [(.int 1)])) (fun _ k => XS.iconst X0.here hx rfl (hb hby d13_32) k) ?_
      refine Go.retB X0 hlk hx (t := .boolean) hret (by simp) (hb hby d13_33) e0 ?_ (by decide) (by decide)
      show (some (.int (1 : Int32)) : Option Value) = some (.int (elI_2_2 x0 x1 y0 y1)) ∧ _
      exact ⟨by rw [elI_2_2, if_pos cd6, if_pos cd10], N0, rfl⟩
    · refine Go.st (f' := (mkF m 24 #[rv t1, rv t2, iv 1] [])) (fun _ k => XS.icmpNo X0.here hx rfl (hb hby d13_21) rfl (feq cd10).1 k) ?_
      refine Go.st (f' := (mkF m 25 #[rv t1, rv t2, iv 1] [(.int 0)])) (fun _ k => XS.iconst X0.here hx rfl (hb hby d13_24) k) ?_
      refine Go.retB X0 hlk hx (t := .boolean) hret (by simp) (hb hby d13_25) e0 ?_ (by decide) (by decide)
      show (some (.int (0 : Int32)) : Option Value) = some (.int (elI_2_2 x0 x1 y0 y1)) ∧ _
      exact ⟨by rw [elI_2_2, if_pos cd6, if_neg cd10], N0, rfl⟩
  · refine Go.st (f' := (mkF m 24 #[rv t1, rv t2, iv 0] [])) (fun _ k => XS.icmpNo X0.here hx rfl (hb hby d13_21) rfl (feq cd6).1 k) ?_
    refine Go.st (f' := (mkF m 25 #[rv t1, rv t2, iv 0] [(.int 0)])) (fun _ k => XS.iconst X0.here hx rfl (hb hby d13_24) k) ?_
    refine Go.retB X0 hlk hx (t := .boolean) hret (by simp) (hb hby d13_25) e0 ?_ (by decide) (by decide)
    show (some (.int (0 : Int32)) : Option Value) = some (.int (elI_2_2 x0 x1 y0 y1)) ∧ _
    exact ⟨by rw [elI_2_2, if_neg cd6], N0, rfl⟩
theorem d12_0 : decode jdk_42_method_66_code 0 = .ok (.aload_n 0, 1) := by decide +kernel
theorem d12_1 : decode jdk_42_method_66_code 1 = .ok (.aload_n 1, 1) := by decide +kernel
theorem d12_2 : decode jdk_42_method_66_code 2 = .ok (.if_acmp .ne 5, 3) := by decide +kernel
theorem d12_7 : decode jdk_42_method_66_code 7 = .ok (.aload_n 1, 1) := by decide +kernel
theorem d12_8 : decode jdk_42_method_66_code 8 = .ok (.instanceof 10, 3) := by decide +kernel
theorem d12_11 : decode jdk_42_method_66_code 11 = .ok (.ifCond .eq 43, 3) := by decide +kernel
theorem d12_14 : decode jdk_42_method_66_code 14 = .ok (.aload_n 1, 1) := by decide +kernel
theorem d12_15 : decode jdk_42_method_66_code 15 = .ok (.checkcast 10, 3) := by decide +kernel
theorem d12_18 : decode jdk_42_method_66_code 18 = .ok (.astore_n 2, 1) := by decide +kernel
theorem d12_19 : decode jdk_42_method_66_code 19 = .ok (.getstatic 38, 3) := by decide +kernel
theorem d12_22 : decode jdk_42_method_66_code 22 = .ok (.ifCond .eq 14, 3) := by decide +kernel
theorem d12_25 : decode jdk_42_method_66_code 25 = .ok (.aload_n 0, 1) := by decide +kernel
theorem d12_26 : decode jdk_42_method_66_code 26 = .ok (.getfield 15, 3) := by decide +kernel
theorem d12_29 : decode jdk_42_method_66_code 29 = .ok (.aload_n 2, 1) := by decide +kernel
theorem d12_30 : decode jdk_42_method_66_code 30 = .ok (.getfield 15, 3) := by decide +kernel
theorem d12_33 : decode jdk_42_method_66_code 33 = .ok (.if_icmp .ne 21, 3) := by decide +kernel
theorem d12_36 : decode jdk_42_method_66_code 36 = .ok (.aload_n 0, 1) := by decide +kernel
theorem d12_37 : decode jdk_42_method_66_code 37 = .ok (.getfield 9, 3) := by decide +kernel
theorem d12_40 : decode jdk_42_method_66_code 40 = .ok (.aload_n 2, 1) := by decide +kernel
theorem d12_41 : decode jdk_42_method_66_code 41 = .ok (.getfield 9, 3) := by decide +kernel
theorem d12_44 : decode jdk_42_method_66_code 44 = .ok (.invokestatic 541, 3) := by decide +kernel
theorem pd___B_B_Z : parseMethodDescriptor "([B[B)Z" = some ⟨[(.array .byte), (.array .byte)], some .boolean⟩ := by decide +kernel
theorem d12_47 : decode jdk_42_method_66_code 47 = .ok (.ifCond .eq 7, 3) := by decide +kernel
theorem d12_54 : decode jdk_42_method_66_code 54 = .ok (.iconst 0, 1) := by decide +kernel
theorem d12_55 : decode jdk_42_method_66_code 55 = .ok (.ireturn, 1) := by decide +kernel
theorem d12_50 : decode jdk_42_method_66_code 50 = .ok (.iconst 1, 1) := by decide +kernel
theorem d12_51 : decode jdk_42_method_66_code 51 = .ok (.goto 4, 3) := by decide +kernel
def eqI_0_0  : Int32 := (if (elI_0_0) = (0 : Int32) then (0 : Int32) else (1 : Int32))
set_option maxRecDepth 65536 in
set_option maxHeartbeats 40000000 in
theorem eq_0_0 (l : Launch) (Z : State) (a0 : Array Value) (hw : ∀ d ∈ tables_1, d.before a0 Z = true) (ws : List Jvm.Cond) (a1 : Addr) (a2 : Addr) (t1 : Addr) (k1 : ClassId) (t2 : Addr) (k2 : ClassId) (i_COMPACT_STRINGS : Int32) (v_SIOOBE_FORMATTER : Value) (h0 : Heap) (n0 : Nat) (O0 : Old Z n0 h0) (ne12 : a1 ≠ a2) (E_a1 : Exa Z h0 a1 "java/lang/String") (F_a1_coder : Fld Z h0 a1 "java/lang/String" "coder" "B" (.int 0)) (F_a1_value : Fld Z h0 a1 "java/lang/String" "value" "[B" (.ref t1)) (E_a2 : Exa Z h0 a2 "java/lang/String") (F_a2_coder : Fld Z h0 a2 "java/lang/String" "coder" "B" (.int 0)) (F_a2_value : Fld Z h0 a2 "java/lang/String" "value" "[B" (.ref t2)) (V_t1 : Arv Z h0 t1 k1 .byte (0 : Int32) [] (.int 0)) (V_t2 : Arv Z h0 t2 k2 .byte (0 : Int32) [] (.int 0)) (WW : World1 Z i_COMPACT_STRINGS v_SIOOBE_FORMATTER) :
    Con l Z (⟨"java/lang/String", "equals", "(Ljava/lang/Object;)Z"⟩ : MethodName) jdk_42_method_66_code 3 (some .boolean) ws ({ frames := 1, cells := 0, slots := 0, locals := 14 } : Room) #[(.ref a1), (.ref a2)] h0 (fun v h L => v = some (.int (eqI_0_0 )) ∧ Fr n0 L ∧ h = h0) := by
  refine own_body (plainFor_of_name pn_java_lang_String) ?_
  intro p e s m below meth c s₁ hx hby hml hZ hown hnm hlk hret X0 e0
  have N0 := Fr.nil n0
  refine Go.st (T' := s₁) (f' := (mkF m 0 #[rv a1, rv a2, .unset] [])) (fun _ k => castTop (by first | (simp [entryFrame, mkF, argsToLocals, Value.category]; done) | rfl) k) ?_
  have ⟨S_i_COMPACT_STRINGS, nz_i_COMPACT_STRINGS, S_v_SIOOBE_FORMATTER, r_v_SIOOBE_FORMATTER⟩ := WW
  have lt_a1 := E_a1.lt
  have lt_a2 := E_a2.lt
  have lt_t1 := V_t1.lt
  have lt_t2 := V_t2.lt
  refine Go.st (f' := (mkF m 1 #[rv a1, rv a2, .unset] [(.ref a1)])) (fun _ k => XS.aloadN X0.here hx rfl (hb hby d12_0) rfl rfl k) ?_
  refine Go.st (f' := (mkF m 2 #[rv a1, rv a2, .unset] [(.ref a2), (.ref a1)])) (fun _ k => XS.aloadN X0.here hx rfl (hb hby d12_1) rfl rfl k) ?_
  refine Go.st (f' := (mkF m 7 #[rv a1, rv a2, .unset] [])) (fun _ k => Jvm.RoadKit.acmp (g := (mkF m 2 #[rv a1, rv a2, .unset] [(.ref a2), (.ref a1)])) X0 hx rfl rfl rfl (pc0 := 2) (pc' := 7) (same := false) rfl (hb hby d12_2) rfl (decide_eq_false fun q => ne12 (Value.ref.inj q)) (by decide) (by decide) k) ?_
  refine Go.st (f' := (mkF m 8 #[rv a1, rv a2, .unset] [(.ref a2)])) (fun _ k => XS.aloadN X0.here hx rfl (hb hby d12_7) rfl rfl k) ?_
  obtain ⟨T1, X1, e1, st1⟩ := instY X0 hx hZ hown (hw _ (List.mem_of_getElem? (i := 70) rfl)) e0 (Ins.self E_a2) (g := (mkF m 8 #[rv a1, rv a2, .unset] [(.ref a2)])) rfl rfl (hb hby d12_8)
  refine Go.st (f' := (mkF m 11 #[rv a1, rv a2, .unset] [(.int 1)])) (fun _ k => st1 _ k) ?_
  refine Go.st (f' := (mkF m 14 #[rv a1, rv a2, .unset] [])) (fun _ k => XS.ifNo X1.here hx rfl (hb hby d12_11) rfl (by decide) k) ?_
  refine Go.st (f' := (mkF m 15 #[rv a1, rv a2, .unset] [(.ref a2)])) (fun _ k => XS.aloadN X1.here hx rfl (hb hby d12_14) rfl rfl k) ?_
  obtain ⟨T2, X2, e2, st2⟩ := castY X1 hx hZ hown (hw _ (List.mem_of_getElem? (i := 70) rfl)) e1 (Ins.self E_a2) (g := (mkF m 15 #[rv a1, rv a2, .unset] [(.ref a2)])) rfl rfl (hb hby d12_15)
  refine Go.st (f' := (mkF m 18 #[rv a1, rv a2, .unset] [(.ref a2)])) (fun _ k => st2 _ k) ?_
  refine Go.st (f' := (mkF m 19 #[rv a1, rv a2, rv a2] [])) (fun _ k => XS.astoreN X2.here hx rfl (hb hby d12_18) rfl rfl (l' := #[rv a1, rv a2, rv a2]) rfl k) ?_
  obtain ⟨T3, X3, e3, st3⟩ := getS2 X2 hx hZ hown (host := "") (Or.inl (hw _ (List.mem_of_getElem? (i := 47) rfl))) Via.refl e2 (S_i_COMPACT_STRINGS.ext O0.2) (g := (mkF m 19 #[rv a1, rv a2, rv a2] [])) rfl (hb hby d12_19)
  refine Go.st (f' := (mkF m 22 #[rv a1, rv a2, rv a2] [(.int i_COMPACT_STRINGS)])) (fun _ k => st3 _ k) ?_
  refine Go.st (f' := (mkF m 25 #[rv a1, rv a2, rv a2] [])) (fun _ k => XS.ifNo X3.here hx rfl (hb hby d12_22) rfl ((if0 _ _).trans (feq nz_i_COMPACT_STRINGS).1) k) ?_
  refine Go.st (f' := (mkF m 26 #[rv a1, rv a2, rv a2] [(.ref a1)])) (fun _ k => XS.aloadN X3.here hx rfl (hb hby d12_25) rfl rfl k) ?_
  obtain ⟨T4, X4, e4, st4⟩ := getF X3 hx hZ hown (host := "") (Or.inl (hw _ (List.mem_of_getElem? (i := 59) rfl))) Via.refl e3 F_a1_coder (g := (mkF m 26 #[rv a1, rv a2, rv a2] [(.ref a1)])) rfl rfl (hb hby d12_26)
  refine Go.st (f' := (mkF m 29 #[rv a1, rv a2, rv a2] [(.int 0)])) (fun _ k => st4 _ k) ?_
  refine Go.st (f' := (mkF m 30 #[rv a1, rv a2, rv a2] [(.ref a2), (.int 0)])) (fun _ k => XS.aloadN X4.here hx rfl (hb hby d12_29) rfl rfl k) ?_
  obtain ⟨T5, X5, e5, st5⟩ := getF X4 hx hZ hown (host := "") (Or.inl (hw _ (List.mem_of_getElem? (i := 59) rfl))) Via.refl e4 F_a2_coder (g := (mkF m 30 #[rv a1, rv a2, rv a2] [(.ref a2), (.int 0)])) rfl rfl (hb hby d12_30)
  refine Go.st (f' := (mkF m 33 #[rv a1, rv a2, rv a2] [(.int 0), (.int 0)])) (fun _ k => st5 _ k) ?_
  refine Go.st (f' := (mkF m 36 #[rv a1, rv a2, rv a2] [])) (fun _ k => XS.icmpNo X5.here hx rfl (hb hby d12_33) rfl (by decide) k) ?_
  refine Go.st (f' := (mkF m 37 #[rv a1, rv a2, rv a2] [(.ref a1)])) (fun _ k => XS.aloadN X5.here hx rfl (hb hby d12_36) rfl rfl k) ?_
  obtain ⟨T6, X6, e6, st6⟩ := getF X5 hx hZ hown (host := "") (Or.inl (hw _ (List.mem_of_getElem? (i := 61) rfl))) Via.refl e5 F_a1_value (g := (mkF m 37 #[rv a1, rv a2, rv a2] [(.ref a1)])) rfl rfl (hb hby d12_37)
  refine Go.st (f' := (mkF m 40 #[rv a1, rv a2, rv a2] [(.ref t1)])) (fun _ k => st6 _ k) ?_
  refine Go.st (f' := (mkF m 41 #[rv a1, rv a2, rv a2] [(.ref a2), (.ref t1)])) (fun _ k => XS.aloadN X6.here hx rfl (hb hby d12_40) rfl rfl k) ?_
  obtain ⟨T7, X7, e7, st7⟩ := getF X6 hx hZ hown (host := "") (Or.inl (hw _ (List.mem_of_getElem? (i := 61) rfl))) Via.refl e6 F_a2_value (g := (mkF m 41 #[rv a1, rv a2, rv a2] [(.ref a2), (.ref t1)])) rfl rfl (hb hby d12_41)
  refine Go.st (f' := (mkF m 44 #[rv a1, rv a2, rv a2] [(.ref t2), (.ref t1)])) (fun _ k => st7 _ k) ?_
  obtain ⟨_, _, ⟨T8, L8, kk8, nn8⟩, -, X8, ⟨Lc8, hQ8, lq8, yq8, zz8⟩, st8⟩ := Jvm.LawKit.callS X7 hx (y := (⟨"java/lang/StringLatin1", "equals", "([B[B)Z"⟩ : MethodName)) hown (mvT hZ (hw _ (List.mem_of_getElem? (i := 71) rfl))) (mvT hZ (hw _ (List.mem_of_getElem? (i := 72) rfl))) (mvT hZ (hw _ (List.mem_of_getElem? (i := 73) rfl))) (mvT hZ (hw _ (List.mem_of_getElem? (i := 74) rfl))) (by decide) (own_back (W := 0) (el_0_0 l Z a0 hw [] t1 k1 t2 k2  h0 n0 O0 V_t1 V_t2) hZ (hw _ (List.mem_of_getElem? (i := 74) rfl)) (hw _ (List.mem_of_getElem? (i := 73) rfl)) (by decide) (by decide)) (g := (mkF m 44 #[rv a1, rv a2, rv a2] [(.ref t2), (.ref t1)])) rfl (by rw [hml]; rfl) (argsL := [(.ref t1), (.ref t2)]) (rest := []) (lenOf pd___B_B_Z rfl) rfl (by show 2 * 0 + _ ≤ _; exact Nat.le_of_eq rfl) (hb hby d12_44) (fun _ _ => ⟨rfl, e7, (by decide : 0 + 0 ≤ _), (by decide : 0 + 0 ≤ _)⟩)
  dsimp only [Pt.U, Pt.locs, Pt.cells, Pt.slots] at X8 lq8 yq8 zz8 st8 hQ8
  subst lq8 yq8 zz8
  obtain ⟨rfl, Nq8, kq8⟩ := hQ8
  have N8 := Fr.app N0 Nq8
  refine Go.st (f' := (mkF m 47 #[rv a1, rv a2, rv a2] [(.int (elI_0_0))])) (fun _ k => st8 _ k) ?_
  by_cases cd9 : (elI_0_0) = (0 : Int32)
  · refine Go.st (f' := (mkF m 54 #[rv a1, rv a2, rv a2] [])) (fun _ k => XS.ifYes X8.here hx rfl (pc0 := 47) (pc' := 54) rfl (hb hby d12_47) rfl ((if0 _ _).trans (teq cd9).1) (by decide) (by decide) k) ?_
    refine Go.st (f' := (mkF m 55 #[rv a1, rv a2, rv a2] [(.int 0)])) (fun _ k => XS.iconst X8.here hx rfl (hb hby d12_54) k) ?_
    refine Go.retB X8 hlk hx (t := .boolean) hret (by simp) (hb hby d12_55) kq8 ?_ (by decide) (by decide)
    show (some (.int (0 : Int32)) : Option Value) = some (.int (eqI_0_0 )) ∧ _
    exact ⟨by rw [eqI_0_0, if_pos cd9], N8, rfl⟩
  · refine Go.st (f' := (mkF m 50 #[rv a1, rv a2, rv a2] [])) (fun _ k => XS.ifNo X8.here hx rfl (hb hby d12_47) rfl ((if0 _ _).trans (feq cd9).1) k) ?_
    refine Go.st (f' := (mkF m 51 #[rv a1, rv a2, rv a2] [(.int 1)])) (fun _ k => XS.iconst X8.here hx rfl (hb hby d12_50) k) ?_
    refine Go.st (f' := (mkF m 55 #[rv a1, rv a2, rv a2] [(.int 1)])) (fun _ k => XS.goto X8.here hx rfl (pc0 := 51) (pc' := 55) rfl (hb hby d12_51) (by decide) (by decide) k) ?_
    refine Go.retB X8 hlk hx (t := .boolean) hret (by simp) (hb hby d12_55) kq8 ?_ (by decide) (by decide)
    show (some (.int (1 : Int32)) : Option Value) = some (.int (eqI_0_0 )) ∧ _
    exact ⟨by rw [eqI_0_0, if_neg cd9], N8, rfl⟩
def eqI_0_1 (y0 : Int32) : Int32 := (if (elI_0_1 y0) = (0 : Int32) then (0 : Int32) else (1 : Int32))
set_option maxRecDepth 65536 in
set_option maxHeartbeats 40000000 in
theorem eq_0_1 (l : Launch) (Z : State) (a0 : Array Value) (hw : ∀ d ∈ tables_1, d.before a0 Z = true) (ws : List Jvm.Cond) (a1 : Addr) (a2 : Addr) (t1 : Addr) (k1 : ClassId) (t2 : Addr) (k2 : ClassId) (y0 : Int32) (i_COMPACT_STRINGS : Int32) (v_SIOOBE_FORMATTER : Value) (h0 : Heap) (n0 : Nat) (O0 : Old Z n0 h0) (ne12 : a1 ≠ a2) (E_a1 : Exa Z h0 a1 "java/lang/String") (F_a1_coder : Fld Z h0 a1 "java/lang/String" "coder" "B" (.int 0)) (F_a1_value : Fld Z h0 a1 "java/lang/String" "value" "[B" (.ref t1)) (E_a2 : Exa Z h0 a2 "java/lang/String") (F_a2_coder : Fld Z h0 a2 "java/lang/String" "coder" "B" (.int 0)) (F_a2_value : Fld Z h0 a2 "java/lang/String" "value" "[B" (.ref t2)) (V_t1 : Arv Z h0 t1 k1 .byte (0 : Int32) [] (.int 0)) (V_t2 : Arv Z h0 t2 k2 .byte (1 : Int32) [(.int y0)] (.int 0)) (WW : World1 Z i_COMPACT_STRINGS v_SIOOBE_FORMATTER) :
    Con l Z (⟨"java/lang/String", "equals", "(Ljava/lang/Object;)Z"⟩ : MethodName) jdk_42_method_66_code 3 (some .boolean) ws ({ frames := 1, cells := 0, slots := 0, locals := 14 } : Room) #[(.ref a1), (.ref a2)] h0 (fun v h L => v = some (.int (eqI_0_1 y0)) ∧ Fr n0 L ∧ h = h0) := by
  refine own_body (plainFor_of_name pn_java_lang_String) ?_
  intro p e s m below meth c s₁ hx hby hml hZ hown hnm hlk hret X0 e0
  have N0 := Fr.nil n0
  refine Go.st (T' := s₁) (f' := (mkF m 0 #[rv a1, rv a2, .unset] [])) (fun _ k => castTop (by first | (simp [entryFrame, mkF, argsToLocals, Value.category]; done) | rfl) k) ?_
  have ⟨S_i_COMPACT_STRINGS, nz_i_COMPACT_STRINGS, S_v_SIOOBE_FORMATTER, r_v_SIOOBE_FORMATTER⟩ := WW
  have lt_a1 := E_a1.lt
  have lt_a2 := E_a2.lt
  have lt_t1 := V_t1.lt
  have lt_t2 := V_t2.lt
  refine Go.st (f' := (mkF m 1 #[rv a1, rv a2, .unset] [(.ref a1)])) (fun _ k => XS.aloadN X0.here hx rfl (hb hby d12_0) rfl rfl k) ?_
  refine Go.st (f' := (mkF m 2 #[rv a1, rv a2, .unset] [(.ref a2), (.ref a1)])) (fun _ k => XS.aloadN X0.here hx rfl (hb hby d12_1) rfl rfl k) ?_
  refine Go.st (f' := (mkF m 7 #[rv a1, rv a2, .unset] [])) (fun _ k => Jvm.RoadKit.acmp (g := (mkF m 2 #[rv a1, rv a2, .unset] [(.ref a2), (.ref a1)])) X0 hx rfl rfl rfl (pc0 := 2) (pc' := 7) (same := false) rfl (hb hby d12_2) rfl (decide_eq_false fun q => ne12 (Value.ref.inj q)) (by decide) (by decide) k) ?_
  refine Go.st (f' := (mkF m 8 #[rv a1, rv a2, .unset] [(.ref a2)])) (fun _ k => XS.aloadN X0.here hx rfl (hb hby d12_7) rfl rfl k) ?_
  obtain ⟨T1, X1, e1, st1⟩ := instY X0 hx hZ hown (hw _ (List.mem_of_getElem? (i := 70) rfl)) e0 (Ins.self E_a2) (g := (mkF m 8 #[rv a1, rv a2, .unset] [(.ref a2)])) rfl rfl (hb hby d12_8)
  refine Go.st (f' := (mkF m 11 #[rv a1, rv a2, .unset] [(.int 1)])) (fun _ k => st1 _ k) ?_
  refine Go.st (f' := (mkF m 14 #[rv a1, rv a2, .unset] [])) (fun _ k => XS.ifNo X1.here hx rfl (hb hby d12_11) rfl (by decide) k) ?_
  refine Go.st (f' := (mkF m 15 #[rv a1, rv a2, .unset] [(.ref a2)])) (fun _ k => XS.aloadN X1.here hx rfl (hb hby d12_14) rfl rfl k) ?_
  obtain ⟨T2, X2, e2, st2⟩ := castY X1 hx hZ hown (hw _ (List.mem_of_getElem? (i := 70) rfl)) e1 (Ins.self E_a2) (g := (mkF m 15 #[rv a1, rv a2, .unset] [(.ref a2)])) rfl rfl (hb hby d12_15)
  refine Go.st (f' := (mkF m 18 #[rv a1, rv a2, .unset] [(.ref a2)])) (fun _ k => st2 _ k) ?_
  refine Go.st (f' := (mkF m 19 #[rv a1, rv a2, rv a2] [])) (fun _ k => XS.astoreN X2.here hx rfl (hb hby d12_18) rfl rfl (l' := #[rv a1, rv a2, rv a2]) rfl k) ?_
  obtain ⟨T3, X3, e3, st3⟩ := getS2 X2 hx hZ hown (host := "") (Or.inl (hw _ (List.mem_of_getElem? (i := 47) rfl))) Via.refl e2 (S_i_COMPACT_STRINGS.ext O0.2) (g := (mkF m 19 #[rv a1, rv a2, rv a2] [])) rfl (hb hby d12_19)
  refine Go.st (f' := (mkF m 22 #[rv a1, rv a2, rv a2] [(.int i_COMPACT_STRINGS)])) (fun _ k => st3 _ k) ?_
  refine Go.st (f' := (mkF m 25 #[rv a1, rv a2, rv a2] [])) (fun _ k => XS.ifNo X3.here hx rfl (hb hby d12_22) rfl ((if0 _ _).trans (feq nz_i_COMPACT_STRINGS).1) k) ?_
  refine Go.st (f' := (mkF m 26 #[rv a1, rv a2, rv a2] [(.ref a1)])) (fun _ k => XS.aloadN X3.here hx rfl (hb hby d12_25) rfl rfl k) ?_
  obtain ⟨T4, X4, e4, st4⟩ := getF X3 hx hZ hown (host := "") (Or.inl (hw _ (List.mem_of_getElem? (i := 59) rfl))) Via.refl e3 F_a1_coder (g := (mkF m 26 #[rv a1, rv a2, rv a2] [(.ref a1)])) rfl rfl (hb hby d12_26)
  refine Go.st (f' := (mkF m 29 #[rv a1, rv a2, rv a2] [(.int 0)])) (fun _ k => st4 _ k) ?_
  refine Go.st (f' := (mkF m 30 #[rv a1, rv a2, rv a2] [(.ref a2), (.int 0)])) (fun _ k => XS.aloadN X4.here hx rfl (hb hby d12_29) rfl rfl k) ?_
  obtain ⟨T5, X5, e5, st5⟩ := getF X4 hx hZ hown (host := "") (Or.inl (hw _ (List.mem_of_getElem? (i := 59) rfl))) Via.refl e4 F_a2_coder (g := (mkF m 30 #[rv a1, rv a2, rv a2] [(.ref a2), (.int 0)])) rfl rfl (hb hby d12_30)
  refine Go.st (f' := (mkF m 33 #[rv a1, rv a2, rv a2] [(.int 0), (.int 0)])) (fun _ k => st5 _ k) ?_
  refine Go.st (f' := (mkF m 36 #[rv a1, rv a2, rv a2] [])) (fun _ k => XS.icmpNo X5.here hx rfl (hb hby d12_33) rfl (by decide) k) ?_
  refine Go.st (f' := (mkF m 37 #[rv a1, rv a2, rv a2] [(.ref a1)])) (fun _ k => XS.aloadN X5.here hx rfl (hb hby d12_36) rfl rfl k) ?_
  obtain ⟨T6, X6, e6, st6⟩ := getF X5 hx hZ hown (host := "") (Or.inl (hw _ (List.mem_of_getElem? (i := 61) rfl))) Via.refl e5 F_a1_value (g := (mkF m 37 #[rv a1, rv a2, rv a2] [(.ref a1)])) rfl rfl (hb hby d12_37)
  refine Go.st (f' := (mkF m 40 #[rv a1, rv a2, rv a2] [(.ref t1)])) (fun _ k => st6 _ k) ?_
  refine Go.st (f' := (mkF m 41 #[rv a1, rv a2, rv a2] [(.ref a2), (.ref t1)])) (fun _ k => XS.aloadN X6.here hx rfl (hb hby d12_40) rfl rfl k) ?_
  obtain ⟨T7, X7, e7, st7⟩ := getF X6 hx hZ hown (host := "") (Or.inl (hw _ (List.mem_of_getElem? (i := 61) rfl))) Via.refl e6 F_a2_value (g := (mkF m 41 #[rv a1, rv a2, rv a2] [(.ref a2), (.ref t1)])) rfl rfl (hb hby d12_41)
  refine Go.st (f' := (mkF m 44 #[rv a1, rv a2, rv a2] [(.ref t2), (.ref t1)])) (fun _ k => st7 _ k) ?_
  obtain ⟨_, _, ⟨T8, L8, kk8, nn8⟩, -, X8, ⟨Lc8, hQ8, lq8, yq8, zz8⟩, st8⟩ := Jvm.LawKit.callS X7 hx (y := (⟨"java/lang/StringLatin1", "equals", "([B[B)Z"⟩ : MethodName)) hown (mvT hZ (hw _ (List.mem_of_getElem? (i := 71) rfl))) (mvT hZ (hw _ (List.mem_of_getElem? (i := 72) rfl))) (mvT hZ (hw _ (List.mem_of_getElem? (i := 73) rfl))) (mvT hZ (hw _ (List.mem_of_getElem? (i := 74) rfl))) (by decide) (own_back (W := 0) (el_0_1 l Z a0 hw [] t1 k1 t2 k2 y0 h0 n0 O0 V_t1 V_t2) hZ (hw _ (List.mem_of_getElem? (i := 74) rfl)) (hw _ (List.mem_of_getElem? (i := 73) rfl)) (by decide) (by decide)) (g := (mkF m 44 #[rv a1, rv a2, rv a2] [(.ref t2), (.ref t1)])) rfl (by rw [hml]; rfl) (argsL := [(.ref t1), (.ref t2)]) (rest := []) (lenOf pd___B_B_Z rfl) rfl (by show 2 * 0 + _ ≤ _; exact Nat.le_of_eq rfl) (hb hby d12_44) (fun _ _ => ⟨rfl, e7, (by decide : 0 + 0 ≤ _), (by decide : 0 + 0 ≤ _)⟩)
  dsimp only [Pt.U, Pt.locs, Pt.cells, Pt.slots] at X8 lq8 yq8 zz8 st8 hQ8
  subst lq8 yq8 zz8
  obtain ⟨rfl, Nq8, kq8⟩ := hQ8
  have N8 := Fr.app N0 Nq8
  refine Go.st (f' := (mkF m 47 #[rv a1, rv a2, rv a2] [(.int (elI_0_1 y0))])) (fun _ k => st8 _ k) ?_
  by_cases cd9 : (elI_0_1 y0) = (0 : Int32)
  · refine Go.st (f' := (mkF m 54 #[rv a1, rv a2, rv a2] [])) (fun _ k => XS.ifYes X8.here hx rfl (pc0 := 47) (pc' := 54) rfl (hb hby d12_47) rfl ((if0 _ _).trans (teq cd9).1) (by decide) (by decide) k) ?_
    refine Go.st (f' := (mkF m 55 #[rv a1, rv a2, rv a2] [(.int 0)])) (fun _ k => XS.iconst X8.here hx rfl (hb hby d12_54) k) ?_
    refine Go.retB X8 hlk hx (t := .boolean) hret (by simp) (hb hby d12_55) kq8 ?_ (by decide) (by decide)
    show (some (.int (0 : Int32)) : Option Value) = some (.int (eqI_0_1 y0)) ∧ _
    exact ⟨by rw [eqI_0_1, if_pos cd9], N8, rfl⟩
  · refine Go.st (f' := (mkF m 50 #[rv a1, rv a2, rv a2] [])) (fun _ k => XS.ifNo X8.here hx rfl (hb hby d12_47) rfl ((if0 _ _).trans (feq cd9).1) k) ?_
    refine Go.st (f' := (mkF m 51 #[rv a1, rv a2, rv a2] [(.int 1)])) (fun _ k => XS.iconst X8.here hx rfl (hb hby d12_50) k) ?_
    refine Go.st (f' := (mkF m 55 #[rv a1, rv a2, rv a2] [(.int 1)])) (fun _ k => XS.goto X8.here hx rfl (pc0 := 51) (pc' := 55) rfl (hb hby d12_51) (by decide) (by decide) k) ?_
    refine Go.retB X8 hlk hx (t := .boolean) hret (by simp) (hb hby d12_55) kq8 ?_ (by decide) (by decide)
    show (some (.int (1 : Int32)) : Option Value) = some (.int (eqI_0_1 y0)) ∧ _
    exact ⟨by rw [eqI_0_1, if_neg cd9], N8, rfl⟩
def eqI_0_2 (y0 : Int32) (y1 : Int32) : Int32 := (if (elI_0_2 y0 y1) = (0 : Int32) then (0 : Int32) else (1 : Int32))
set_option maxRecDepth 65536 in
set_option maxHeartbeats 40000000 in
theorem eq_0_2 (l : Launch) (Z : State) (a0 : Array Value) (hw : ∀ d ∈ tables_1, d.before a0 Z = true) (ws : List Jvm.Cond) (a1 : Addr) (a2 : Addr) (t1 : Addr) (k1 : ClassId) (t2 : Addr) (k2 : ClassId) (y0 : Int32) (y1 : Int32) (i_COMPACT_STRINGS : Int32) (v_SIOOBE_FORMATTER : Value) (h0 : Heap) (n0 : Nat) (O0 : Old Z n0 h0) (ne12 : a1 ≠ a2) (E_a1 : Exa Z h0 a1 "java/lang/String") (F_a1_coder : Fld Z h0 a1 "java/lang/String" "coder" "B" (.int 0)) (F_a1_value : Fld Z h0 a1 "java/lang/String" "value" "[B" (.ref t1)) (E_a2 : Exa Z h0 a2 "java/lang/String") (F_a2_coder : Fld Z h0 a2 "java/lang/String" "coder" "B" (.int 0)) (F_a2_value : Fld Z h0 a2 "java/lang/String" "value" "[B" (.ref t2)) (V_t1 : Arv Z h0 t1 k1 .byte (0 : Int32) [] (.int 0)) (V_t2 : Arv Z h0 t2 k2 .byte (2 : Int32) [(.int y0), (.int y1)] (.int 0)) (WW : World1 Z i_COMPACT_STRINGS v_SIOOBE_FORMATTER) :
    Con l Z (⟨"java/lang/String", "equals", "(Ljava/lang/Object;)Z"⟩ : MethodName) jdk_42_method_66_code 3 (some .boolean) ws ({ frames := 1, cells := 0, slots := 0, locals := 14 } : Room) #[(.ref a1), (.ref a2)] h0 (fun v h L => v = some (.int (eqI_0_2 y0 y1)) ∧ Fr n0 L ∧ h = h0) := by
  refine own_body (plainFor_of_name pn_java_lang_String) ?_
  intro p e s m below meth c s₁ hx hby hml hZ hown hnm hlk hret X0 e0
  have N0 := Fr.nil n0
  refine Go.st (T' := s₁) (f' := (mkF m 0 #[rv a1, rv a2, .unset] [])) (fun _ k => castTop (by first | (simp [entryFrame, mkF, argsToLocals, Value.category]; done) | rfl) k) ?_
  have ⟨S_i_COMPACT_STRINGS, nz_i_COMPACT_STRINGS, S_v_SIOOBE_FORMATTER, r_v_SIOOBE_FORMATTER⟩ := WW
  have lt_a1 := E_a1.lt
  have lt_a2 := E_a2.lt
  have lt_t1 := V_t1.lt
  have lt_t2 := V_t2.lt
  refine Go.st (f' := (mkF m 1 #[rv a1, rv a2, .unset] [(.ref a1)])) (fun _ k => XS.aloadN X0.here hx rfl (hb hby d12_0) rfl rfl k) ?_
  refine Go.st (f' := (mkF m 2 #[rv a1, rv a2, .unset] [(.ref a2), (.ref a1)])) (fun _ k => XS.aloadN X0.here hx rfl (hb hby d12_1) rfl rfl k) ?_
  refine Go.st (f' := (mkF m 7 #[rv a1, rv a2, .unset] [])) (fun _ k => Jvm.RoadKit.acmp (g := (mkF m 2 #[rv a1, rv a2, .unset] [(.ref a2), (.ref a1)])) X0 hx rfl rfl rfl (pc0 := 2) (pc' := 7) (same := false) rfl (hb hby d12_2) rfl (decide_eq_false fun q => ne12 (Value.ref.inj q)) (by decide) (by decide) k) ?_
  refine Go.st (f' := (mkF m 8 #[rv a1, rv a2, .unset] [(.ref a2)])) (fun _ k => XS.aloadN X0.here hx rfl (hb hby d12_7) rfl rfl k) ?_
  obtain ⟨T1, X1, e1, st1⟩ := instY X0 hx hZ hown (hw _ (List.mem_of_getElem? (i := 70) rfl)) e0 (Ins.self E_a2) (g := (mkF m 8 #[rv a1, rv a2, .unset] [(.ref a2)])) rfl rfl (hb hby d12_8)
  refine Go.st (f' := (mkF m 11 #[rv a1, rv a2, .unset] [(.int 1)])) (fun _ k => st1 _ k) ?_
  refine Go.st (f' := (mkF m 14 #[rv a1, rv a2, .unset] [])) (fun _ k => XS.ifNo X1.here hx rfl (hb hby d12_11) rfl (by decide) k) ?_
  refine Go.st (f' := (mkF m 15 #[rv a1, rv a2, .unset] [(.ref a2)])) (fun _ k => XS.aloadN X1.here hx rfl (hb hby d12_14) rfl rfl k) ?_
  obtain ⟨T2, X2, e2, st2⟩ := castY X1 hx hZ hown (hw _ (List.mem_of_getElem? (i := 70) rfl)) e1 (Ins.self E_a2) (g := (mkF m 15 #[rv a1, rv a2, .unset] [(.ref a2)])) rfl rfl (hb hby d12_15)
  refine Go.st (f' := (mkF m 18 #[rv a1, rv a2, .unset] [(.ref a2)])) (fun _ k => st2 _ k) ?_
  refine Go.st (f' := (mkF m 19 #[rv a1, rv a2, rv a2] [])) (fun _ k => XS.astoreN X2.here hx rfl (hb hby d12_18) rfl rfl (l' := #[rv a1, rv a2, rv a2]) rfl k) ?_
  obtain ⟨T3, X3, e3, st3⟩ := getS2 X2 hx hZ hown (host := "") (Or.inl (hw _ (List.mem_of_getElem? (i := 47) rfl))) Via.refl e2 (S_i_COMPACT_STRINGS.ext O0.2) (g := (mkF m 19 #[rv a1, rv a2, rv a2] [])) rfl (hb hby d12_19)
  refine Go.st (f' := (mkF m 22 #[rv a1, rv a2, rv a2] [(.int i_COMPACT_STRINGS)])) (fun _ k => st3 _ k) ?_
  refine Go.st (f' := (mkF m 25 #[rv a1, rv a2, rv a2] [])) (fun _ k => XS.ifNo X3.here hx rfl (hb hby d12_22) rfl ((if0 _ _).trans (feq nz_i_COMPACT_STRINGS).1) k) ?_
  refine Go.st (f' := (mkF m 26 #[rv a1, rv a2, rv a2] [(.ref a1)])) (fun _ k => XS.aloadN X3.here hx rfl (hb hby d12_25) rfl rfl k) ?_
  obtain ⟨T4, X4, e4, st4⟩ := getF X3 hx hZ hown (host := "") (Or.inl (hw _ (List.mem_of_getElem? (i := 59) rfl))) Via.refl e3 F_a1_coder (g := (mkF m 26 #[rv a1, rv a2, rv a2] [(.ref a1)])) rfl rfl (hb hby d12_26)
  refine Go.st (f' := (mkF m 29 #[rv a1, rv a2, rv a2] [(.int 0)])) (fun _ k => st4 _ k) ?_
  refine Go.st (f' := (mkF m 30 #[rv a1, rv a2, rv a2] [(.ref a2), (.int 0)])) (fun _ k => XS.aloadN X4.here hx rfl (hb hby d12_29) rfl rfl k) ?_
  obtain ⟨T5, X5, e5, st5⟩ := getF X4 hx hZ hown (host := "") (Or.inl (hw _ (List.mem_of_getElem? (i := 59) rfl))) Via.refl e4 F_a2_coder (g := (mkF m 30 #[rv a1, rv a2, rv a2] [(.ref a2), (.int 0)])) rfl rfl (hb hby d12_30)
  refine Go.st (f' := (mkF m 33 #[rv a1, rv a2, rv a2] [(.int 0), (.int 0)])) (fun _ k => st5 _ k) ?_
  refine Go.st (f' := (mkF m 36 #[rv a1, rv a2, rv a2] [])) (fun _ k => XS.icmpNo X5.here hx rfl (hb hby d12_33) rfl (by decide) k) ?_
  refine Go.st (f' := (mkF m 37 #[rv a1, rv a2, rv a2] [(.ref a1)])) (fun _ k => XS.aloadN X5.here hx rfl (hb hby d12_36) rfl rfl k) ?_
  obtain ⟨T6, X6, e6, st6⟩ := getF X5 hx hZ hown (host := "") (Or.inl (hw _ (List.mem_of_getElem? (i := 61) rfl))) Via.refl e5 F_a1_value (g := (mkF m 37 #[rv a1, rv a2, rv a2] [(.ref a1)])) rfl rfl (hb hby d12_37)
  refine Go.st (f' := (mkF m 40 #[rv a1, rv a2, rv a2] [(.ref t1)])) (fun _ k => st6 _ k) ?_
  refine Go.st (f' := (mkF m 41 #[rv a1, rv a2, rv a2] [(.ref a2), (.ref t1)])) (fun _ k => XS.aloadN X6.here hx rfl (hb hby d12_40) rfl rfl k) ?_
  obtain ⟨T7, X7, e7, st7⟩ := getF X6 hx hZ hown (host := "") (Or.inl (hw _ (List.mem_of_getElem? (i := 61) rfl))) Via.refl e6 F_a2_value (g := (mkF m 41 #[rv a1, rv a2, rv a2] [(.ref a2), (.ref t1)])) rfl rfl (hb hby d12_41)
  refine Go.st (f' := (mkF m 44 #[rv a1, rv a2, rv a2] [(.ref t2), (.ref t1)])) (fun _ k => st7 _ k) ?_
  obtain ⟨_, _, ⟨T8, L8, kk8, nn8⟩, -, X8, ⟨Lc8, hQ8, lq8, yq8, zz8⟩, st8⟩ := Jvm.LawKit.callS X7 hx (y := (⟨"java/lang/StringLatin1", "equals", "([B[B)Z"⟩ : MethodName)) hown (mvT hZ (hw _ (List.mem_of_getElem? (i := 71) rfl))) (mvT hZ (hw _ (List.mem_of_getElem? (i := 72) rfl))) (mvT hZ (hw _ (List.mem_of_getElem? (i := 73) rfl))) (mvT hZ (hw _ (List.mem_of_getElem? (i := 74) rfl))) (by decide) (own_back (W := 0) (el_0_2 l Z a0 hw [] t1 k1 t2 k2 y0 y1 h0 n0 O0 V_t1 V_t2) hZ (hw _ (List.mem_of_getElem? (i := 74) rfl)) (hw _ (List.mem_of_getElem? (i := 73) rfl)) (by decide) (by decide)) (g := (mkF m 44 #[rv a1, rv a2, rv a2] [(.ref t2), (.ref t1)])) rfl (by rw [hml]; rfl) (argsL := [(.ref t1), (.ref t2)]) (rest := []) (lenOf pd___B_B_Z rfl) rfl (by show 2 * 0 + _ ≤ _; exact Nat.le_of_eq rfl) (hb hby d12_44) (fun _ _ => ⟨rfl, e7, (by decide : 0 + 0 ≤ _), (by decide : 0 + 0 ≤ _)⟩)
  dsimp only [Pt.U, Pt.locs, Pt.cells, Pt.slots] at X8 lq8 yq8 zz8 st8 hQ8
  subst lq8 yq8 zz8
  obtain ⟨rfl, Nq8, kq8⟩ := hQ8
  have N8 := Fr.app N0 Nq8
  refine Go.st (f' := (mkF m 47 #[rv a1, rv a2, rv a2] [(.int (elI_0_2 y0 y1))])) (fun _ k => st8 _ k) ?_
  by_cases cd9 : (elI_0_2 y0 y1) = (0 : Int32)
  · refine Go.st (f' := (mkF m 54 #[rv a1, rv a2, rv a2] [])) (fun _ k => XS.ifYes X8.here hx rfl (pc0 := 47) (pc' := 54) rfl (hb hby d12_47) rfl ((if0 _ _).trans (teq cd9).1) (by decide) (by decide) k) ?_
    refine Go.st (f' := (mkF m 55 #[rv a1, rv a2, rv a2] [(.int 0)])) (fun _ k => XS.iconst X8.here hx rfl (hb hby d12_54) k) ?_
    refine Go.retB X8 hlk hx (t := .boolean) hret (by simp) (hb hby d12_55) kq8 ?_ (by decide) (by decide)
    show (some (.int (0 : Int32)) : Option Value) = some (.int (eqI_0_2 y0 y1)) ∧ _
    exact ⟨by rw [eqI_0_2, if_pos cd9], N8, rfl⟩
  · refine Go.st (f' := (mkF m 50 #[rv a1, rv a2, rv a2] [])) (fun _ k => XS.ifNo X8.here hx rfl (hb hby d12_47) rfl ((if0 _ _).trans (feq cd9).1) k) ?_
    refine Go.st (f' := (mkF m 51 #[rv a1, rv a2, rv a2] [(.int 1)])) (fun _ k => XS.iconst X8.here hx rfl (hb hby d12_50) k) ?_
    refine Go.st (f' := (mkF m 55 #[rv a1, rv a2, rv a2] [(.int 1)])) (fun _ k => XS.goto X8.here hx rfl (pc0 := 51) (pc' := 55) rfl (hb hby d12_51) (by decide) (by decide) k) ?_
    refine Go.retB X8 hlk hx (t := .boolean) hret (by simp) (hb hby d12_55) kq8 ?_ (by decide) (by decide)
    show (some (.int (1 : Int32)) : Option Value) = some (.int (eqI_0_2 y0 y1)) ∧ _
    exact ⟨by rw [eqI_0_2, if_neg cd9], N8, rfl⟩
def eqI_1_0 (x0 : Int32) : Int32 := (if (elI_1_0 x0) = (0 : Int32) then (0 : Int32) else (1 : Int32))
set_option maxRecDepth 65536 in
set_option maxHeartbeats 40000000 in
theorem eq_1_0 (l : Launch) (Z : State) (a0 : Array Value) (hw : ∀ d ∈ tables_1, d.before a0 Z = true) (ws : List Jvm.Cond) (a1 : Addr) (a2 : Addr) (t1 : Addr) (k1 : ClassId) (t2 : Addr) (k2 : ClassId) (x0 : Int32) (i_COMPACT_STRINGS : Int32) (v_SIOOBE_FORMATTER : Value) (h0 : Heap) (n0 : Nat) (O0 : Old Z n0 h0) (ne12 : a1 ≠ a2) (E_a1 : Exa Z h0 a1 "java/lang/String") (F_a1_coder : Fld Z h0 a1 "java/lang/String" "coder" "B" (.int 0)) (F_a1_value : Fld Z h0 a1 "java/lang/String" "value" "[B" (.ref t1)) (E_a2 : Exa Z h0 a2 "java/lang/String") (F_a2_coder : Fld Z h0 a2 "java/lang/String" "coder" "B" (.int 0)) (F_a2_value : Fld Z h0 a2 "java/lang/String" "value" "[B" (.ref t2)) (V_t1 : Arv Z h0 t1 k1 .byte (1 : Int32) [(.int x0)] (.int 0)) (V_t2 : Arv Z h0 t2 k2 .byte (0 : Int32) [] (.int 0)) (WW : World1 Z i_COMPACT_STRINGS v_SIOOBE_FORMATTER) :
    Con l Z (⟨"java/lang/String", "equals", "(Ljava/lang/Object;)Z"⟩ : MethodName) jdk_42_method_66_code 3 (some .boolean) ws ({ frames := 1, cells := 0, slots := 0, locals := 14 } : Room) #[(.ref a1), (.ref a2)] h0 (fun v h L => v = some (.int (eqI_1_0 x0)) ∧ Fr n0 L ∧ h = h0) := by
  refine own_body (plainFor_of_name pn_java_lang_String) ?_
  intro p e s m below meth c s₁ hx hby hml hZ hown hnm hlk hret X0 e0
  have N0 := Fr.nil n0
  refine Go.st (T' := s₁) (f' := (mkF m 0 #[rv a1, rv a2, .unset] [])) (fun _ k => castTop (by first | (simp [entryFrame, mkF, argsToLocals, Value.category]; done) | rfl) k) ?_
  have ⟨S_i_COMPACT_STRINGS, nz_i_COMPACT_STRINGS, S_v_SIOOBE_FORMATTER, r_v_SIOOBE_FORMATTER⟩ := WW
  have lt_a1 := E_a1.lt
  have lt_a2 := E_a2.lt
  have lt_t1 := V_t1.lt
  have lt_t2 := V_t2.lt
  refine Go.st (f' := (mkF m 1 #[rv a1, rv a2, .unset] [(.ref a1)])) (fun _ k => XS.aloadN X0.here hx rfl (hb hby d12_0) rfl rfl k) ?_
  refine Go.st (f' := (mkF m 2 #[rv a1, rv a2, .unset] [(.ref a2), (.ref a1)])) (fun _ k => XS.aloadN X0.here hx rfl (hb hby d12_1) rfl rfl k) ?_
  refine Go.st (f' := (mkF m 7 #[rv a1, rv a2, .unset] [])) (fun _ k => Jvm.RoadKit.acmp (g := (mkF m 2 #[rv a1, rv a2, .unset] [(.ref a2), (.ref a1)])) X0 hx rfl rfl rfl (pc0 := 2) (pc' := 7) (same := false) rfl (hb hby d12_2) rfl (decide_eq_false fun q => ne12 (Value.ref.inj q)) (by decide) (by decide) k) ?_
  refine Go.st (f' := (mkF m 8 #[rv a1, rv a2, .unset] [(.ref a2)])) (fun _ k => XS.aloadN X0.here hx rfl (hb hby d12_7) rfl rfl k) ?_
  obtain ⟨T1, X1, e1, st1⟩ := instY X0 hx hZ hown (hw _ (List.mem_of_getElem? (i := 70) rfl)) e0 (Ins.self E_a2) (g := (mkF m 8 #[rv a1, rv a2, .unset] [(.ref a2)])) rfl rfl (hb hby d12_8)
  refine Go.st (f' := (mkF m 11 #[rv a1, rv a2, .unset] [(.int 1)])) (fun _ k => st1 _ k) ?_
  refine Go.st (f' := (mkF m 14 #[rv a1, rv a2, .unset] [])) (fun _ k => XS.ifNo X1.here hx rfl (hb hby d12_11) rfl (by decide) k) ?_
  refine Go.st (f' := (mkF m 15 #[rv a1, rv a2, .unset] [(.ref a2)])) (fun _ k => XS.aloadN X1.here hx rfl (hb hby d12_14) rfl rfl k) ?_
  obtain ⟨T2, X2, e2, st2⟩ := castY X1 hx hZ hown (hw _ (List.mem_of_getElem? (i := 70) rfl)) e1 (Ins.self E_a2) (g := (mkF m 15 #[rv a1, rv a2, .unset] [(.ref a2)])) rfl rfl (hb hby d12_15)
  refine Go.st (f' := (mkF m 18 #[rv a1, rv a2, .unset] [(.ref a2)])) (fun _ k => st2 _ k) ?_
  refine Go.st (f' := (mkF m 19 #[rv a1, rv a2, rv a2] [])) (fun _ k => XS.astoreN X2.here hx rfl (hb hby d12_18) rfl rfl (l' := #[rv a1, rv a2, rv a2]) rfl k) ?_
  obtain ⟨T3, X3, e3, st3⟩ := getS2 X2 hx hZ hown (host := "") (Or.inl (hw _ (List.mem_of_getElem? (i := 47) rfl))) Via.refl e2 (S_i_COMPACT_STRINGS.ext O0.2) (g := (mkF m 19 #[rv a1, rv a2, rv a2] [])) rfl (hb hby d12_19)
  refine Go.st (f' := (mkF m 22 #[rv a1, rv a2, rv a2] [(.int i_COMPACT_STRINGS)])) (fun _ k => st3 _ k) ?_
  refine Go.st (f' := (mkF m 25 #[rv a1, rv a2, rv a2] [])) (fun _ k => XS.ifNo X3.here hx rfl (hb hby d12_22) rfl ((if0 _ _).trans (feq nz_i_COMPACT_STRINGS).1) k) ?_
  refine Go.st (f' := (mkF m 26 #[rv a1, rv a2, rv a2] [(.ref a1)])) (fun _ k => XS.aloadN X3.here hx rfl (hb hby d12_25) rfl rfl k) ?_
  obtain ⟨T4, X4, e4, st4⟩ := getF X3 hx hZ hown (host := "") (Or.inl (hw _ (List.mem_of_getElem? (i := 59) rfl))) Via.refl e3 F_a1_coder (g := (mkF m 26 #[rv a1, rv a2, rv a2] [(.ref a1)])) rfl rfl (hb hby d12_26)
  refine Go.st (f' := (mkF m 29 #[rv a1, rv a2, rv a2] [(.int 0)])) (fun _ k => st4 _ k) ?_
  refine Go.st (f' := (mkF m 30 #[rv a1, rv a2, rv a2] [(.ref a2), (.int 0)])) (fun _ k => XS.aloadN X4.here hx rfl (hb hby d12_29) rfl rfl k) ?_
  obtain ⟨T5, X5, e5, st5⟩ := getF X4 hx hZ hown (host := "") (Or.inl (hw _ (List.mem_of_getElem? (i := 59) rfl))) Via.refl e4 F_a2_coder (g := (mkF m 30 #[rv a1, rv a2, rv a2] [(.ref a2), (.int 0)])) rfl rfl (hb hby d12_30)
  refine Go.st (f' := (mkF m 33 #[rv a1, rv a2, rv a2] [(.int 0), (.int 0)])) (fun _ k => st5 _ k) ?_
  refine Go.st (f' := (mkF m 36 #[rv a1, rv a2, rv a2] [])) (fun _ k => XS.icmpNo X5.here hx rfl (hb hby d12_33) rfl (by decide) k) ?_
  refine Go.st (f' := (mkF m 37 #[rv a1, rv a2, rv a2] [(.ref a1)])) (fun _ k => XS.aloadN X5.here hx rfl (hb hby d12_36) rfl rfl k) ?_
  obtain ⟨T6, X6, e6, st6⟩ := getF X5 hx hZ hown (host := "") (Or.inl (hw _ (List.mem_of_getElem? (i := 61) rfl))) Via.refl e5 F_a1_value (g := (mkF m 37 #[rv a1, rv a2, rv a2] [(.ref a1)])) rfl rfl (hb hby d12_37)
  refine Go.st (f' := (mkF m 40 #[rv a1, rv a2, rv a2] [(.ref t1)])) (fun _ k => st6 _ k) ?_
  refine Go.st (f' := (mkF m 41 #[rv a1, rv a2, rv a2] [(.ref a2), (.ref t1)])) (fun _ k => XS.aloadN X6.here hx rfl (hb hby d12_40) rfl rfl k) ?_
  obtain ⟨T7, X7, e7, st7⟩ := getF X6 hx hZ hown (host := "") (Or.inl (hw _ (List.mem_of_getElem? (i := 61) rfl))) Via.refl e6 F_a2_value (g := (mkF m 41 #[rv a1, rv a2, rv a2] [(.ref a2), (.ref t1)])) rfl rfl (hb hby d12_41)
  refine Go.st (f' := (mkF m 44 #[rv a1, rv a2, rv a2] [(.ref t2), (.ref t1)])) (fun _ k => st7 _ k) ?_
  obtain ⟨_, _, ⟨T8, L8, kk8, nn8⟩, -, X8, ⟨Lc8, hQ8, lq8, yq8, zz8⟩, st8⟩ := Jvm.LawKit.callS X7 hx (y := (⟨"java/lang/StringLatin1", "equals", "([B[B)Z"⟩ : MethodName)) hown (mvT hZ (hw _ (List.mem_of_getElem? (i := 71) rfl))) (mvT hZ (hw _ (List.mem_of_getElem? (i := 72) rfl))) (mvT hZ (hw _ (List.mem_of_getElem? (i := 73) rfl))) (mvT hZ (hw _ (List.mem_of_getElem? (i := 74) rfl))) (by decide) (own_back (W := 0) (el_1_0 l Z a0 hw [] t1 k1 t2 k2 x0 h0 n0 O0 V_t1 V_t2) hZ (hw _ (List.mem_of_getElem? (i := 74) rfl)) (hw _ (List.mem_of_getElem? (i := 73) rfl)) (by decide) (by decide)) (g := (mkF m 44 #[rv a1, rv a2, rv a2] [(.ref t2), (.ref t1)])) rfl (by rw [hml]; rfl) (argsL := [(.ref t1), (.ref t2)]) (rest := []) (lenOf pd___B_B_Z rfl) rfl (by show 2 * 0 + _ ≤ _; exact Nat.le_of_eq rfl) (hb hby d12_44) (fun _ _ => ⟨rfl, e7, (by decide : 0 + 0 ≤ _), (by decide : 0 + 0 ≤ _)⟩)
  dsimp only [Pt.U, Pt.locs, Pt.cells, Pt.slots] at X8 lq8 yq8 zz8 st8 hQ8
  subst lq8 yq8 zz8
  obtain ⟨rfl, Nq8, kq8⟩ := hQ8
  have N8 := Fr.app N0 Nq8
  refine Go.st (f' := (mkF m 47 #[rv a1, rv a2, rv a2] [(.int (elI_1_0 x0))])) (fun _ k => st8 _ k) ?_
  by_cases cd9 : (elI_1_0 x0) = (0 : Int32)
  · refine Go.st (f' := (mkF m 54 #[rv a1, rv a2, rv a2] [])) (fun _ k => XS.ifYes X8.here hx rfl (pc0 := 47) (pc' := 54) rfl (hb hby d12_47) rfl ((if0 _ _).trans (teq cd9).1) (by decide) (by decide) k) ?_
    refine Go.st (f' := (mkF m 55 #[rv a1, rv a2, rv a2] [(.int 0)])) (fun _ k => XS.iconst X8.here hx rfl (hb hby d12_54) k) ?_
    refine Go.retB X8 hlk hx (t := .boolean) hret (by simp) (hb hby d12_55) kq8 ?_ (by decide) (by decide)
    show (some (.int (0 : Int32)) : Option Value) = some (.int (eqI_1_0 x0)) ∧ _
    exact ⟨by rw [eqI_1_0, if_pos cd9], N8, rfl⟩
  · refine Go.st (f' := (mkF m 50 #[rv a1, rv a2, rv a2] [])) (fun _ k => XS.ifNo X8.here hx rfl (hb hby d12_47) rfl ((if0 _ _).trans (feq cd9).1) k) ?_
    refine Go.st (f' := (mkF m 51 #[rv a1, rv a2, rv a2] [(.int 1)])) (fun _ k => XS.iconst X8.here hx rfl (hb hby d12_50) k) ?_
    refine Go.st (f' := (mkF m 55 #[rv a1, rv a2, rv a2] [(.int 1)])) (fun _ k => XS.goto X8.here hx rfl (pc0 := 51) (pc' := 55) rfl (hb hby d12_51) (by decide) (by decide) k) ?_
    refine Go.retB X8 hlk hx (t := .boolean) hret (by simp) (hb hby d12_55) kq8 ?_ (by decide) (by decide)
    show (some (.int (1 : Int32)) : Option Value) = some (.int (eqI_1_0 x0)) ∧ _
    exact ⟨by rw [eqI_1_0, if_neg cd9], N8, rfl⟩
def eqI_1_1 (x0 : Int32) (y0 : Int32) : Int32 := (if (elI_1_1 x0 y0) = (0 : Int32) then (0 : Int32) else (1 : Int32))
set_option maxRecDepth 65536 in
set_option maxHeartbeats 40000000 in
theorem eq_1_1 (l : Launch) (Z : State) (a0 : Array Value) (hw : ∀ d ∈ tables_1, d.before a0 Z = true) (ws : List Jvm.Cond) (a1 : Addr) (a2 : Addr) (t1 : Addr) (k1 : ClassId) (t2 : Addr) (k2 : ClassId) (x0 : Int32) (y0 : Int32) (i_COMPACT_STRINGS : Int32) (v_SIOOBE_FORMATTER : Value) (h0 : Heap) (n0 : Nat) (O0 : Old Z n0 h0) (ne12 : a1 ≠ a2) (E_a1 : Exa Z h0 a1 "java/lang/String") (F_a1_coder : Fld Z h0 a1 "java/lang/String" "coder" "B" (.int 0)) (F_a1_value : Fld Z h0 a1 "java/lang/String" "value" "[B" (.ref t1)) (E_a2 : Exa Z h0 a2 "java/lang/String") (F_a2_coder : Fld Z h0 a2 "java/lang/String" "coder" "B" (.int 0)) (F_a2_value : Fld Z h0 a2 "java/lang/String" "value" "[B" (.ref t2)) (V_t1 : Arv Z h0 t1 k1 .byte (1 : Int32) [(.int x0)] (.int 0)) (V_t2 : Arv Z h0 t2 k2 .byte (1 : Int32) [(.int y0)] (.int 0)) (WW : World1 Z i_COMPACT_STRINGS v_SIOOBE_FORMATTER) :
    Con l Z (⟨"java/lang/String", "equals", "(Ljava/lang/Object;)Z"⟩ : MethodName) jdk_42_method_66_code 3 (some .boolean) ws ({ frames := 1, cells := 0, slots := 0, locals := 14 } : Room) #[(.ref a1), (.ref a2)] h0 (fun v h L => v = some (.int (eqI_1_1 x0 y0)) ∧ Fr n0 L ∧ h = h0) := by
  refine own_body (plainFor_of_name pn_java_lang_String) ?_
  intro p e s m below meth c s₁ hx hby hml hZ hown hnm hlk hret X0 e0
  have N0 := Fr.nil n0
  refine Go.st (T' := s₁) (f' := (mkF m 0 #[rv a1, rv a2, .unset] [])) (fun _ k => castTop (by first | (simp [entryFrame, mkF, argsToLocals, Value.category]; done) | rfl) k) ?_
  have ⟨S_i_COMPACT_STRINGS, nz_i_COMPACT_STRINGS, S_v_SIOOBE_FORMATTER, r_v_SIOOBE_FORMATTER⟩ := WW
  have lt_a1 := E_a1.lt
  have lt_a2 := E_a2.lt
  have lt_t1 := V_t1.lt
  have lt_t2 := V_t2.lt
  refine Go.st (f' := (mkF m 1 #[rv a1, rv a2, .unset] [(.ref a1)])) (fun _ k => XS.aloadN X0.here hx rfl (hb hby d12_0) rfl rfl k) ?_
  refine Go.st (f' := (mkF m 2 #[rv a1, rv a2, .unset] [(.ref a2), (.ref a1)])) (fun _ k => XS.aloadN X0.here hx rfl (hb hby d12_1) rfl rfl k) ?_
  refine Go.st (f' := (mkF m 7 #[rv a1, rv a2, .unset] [])) (fun _ k => Jvm.RoadKit.acmp (g := (mkF m 2 #[rv a1, rv a2, .unset] [(.ref a2), (.ref a1)])) X0 hx rfl rfl rfl (pc0 := 2) (pc' := 7) (same := false) rfl (hb hby d12_2) rfl (decide_eq_false fun q => ne12 (Value.ref.inj q)) (by decide) (by decide) k) ?_
  refine Go.st (f' := (mkF m 8 #[rv a1, rv a2, .unset] [(.ref a2)])) (fun _ k => XS.aloadN X0.here hx rfl (hb hby d12_7) rfl rfl k) ?_
  obtain ⟨T1, X1, e1, st1⟩ := instY X0 hx hZ hown (hw _ (List.mem_of_getElem? (i := 70) rfl)) e0 (Ins.self E_a2) (g := (mkF m 8 #[rv a1, rv a2, .unset] [(.ref a2)])) rfl rfl (hb hby d12_8)
  refine Go.st (f' := (mkF m 11 #[rv a1, rv a2, .unset] [(.int 1)])) (fun _ k => st1 _ k) ?_
  refine Go.st (f' := (mkF m 14 #[rv a1, rv a2, .unset] [])) (fun _ k => XS.ifNo X1.here hx rfl (hb hby d12_11) rfl (by decide) k) ?_
  refine Go.st (f' := (mkF m 15 #[rv a1, rv a2, .unset] [(.ref a2)])) (fun _ k => XS.aloadN X1.here hx rfl (hb hby d12_14) rfl rfl k) ?_
  obtain ⟨T2, X2, e2, st2⟩ := castY X1 hx hZ hown (hw _ (List.mem_of_getElem? (i := 70) rfl)) e1 (Ins.self E_a2) (g := (mkF m 15 #[rv a1, rv a2, .unset] [(.ref a2)])) rfl rfl (hb hby d12_15)
  refine Go.st (f' := (mkF m 18 #[rv a1, rv a2, .unset] [(.ref a2)])) (fun _ k => st2 _ k) ?_
  refine Go.st (f' := (mkF m 19 #[rv a1, rv a2, rv a2] [])) (fun _ k => XS.astoreN X2.here hx rfl (hb hby d12_18) rfl rfl (l' := #[rv a1, rv a2, rv a2]) rfl k) ?_
  obtain ⟨T3, X3, e3, st3⟩ := getS2 X2 hx hZ hown (host := "") (Or.inl (hw _ (List.mem_of_getElem? (i := 47) rfl))) Via.refl e2 (S_i_COMPACT_STRINGS.ext O0.2) (g := (mkF m 19 #[rv a1, rv a2, rv a2] [])) rfl (hb hby d12_19)
  refine Go.st (f' := (mkF m 22 #[rv a1, rv a2, rv a2] [(.int i_COMPACT_STRINGS)])) (fun _ k => st3 _ k) ?_
  refine Go.st (f' := (mkF m 25 #[rv a1, rv a2, rv a2] [])) (fun _ k => XS.ifNo X3.here hx rfl (hb hby d12_22) rfl ((if0 _ _).trans (feq nz_i_COMPACT_STRINGS).1) k) ?_
  refine Go.st (f' := (mkF m 26 #[rv a1, rv a2, rv a2] [(.ref a1)])) (fun _ k => XS.aloadN X3.here hx rfl (hb hby d12_25) rfl rfl k) ?_
  obtain ⟨T4, X4, e4, st4⟩ := getF X3 hx hZ hown (host := "") (Or.inl (hw _ (List.mem_of_getElem? (i := 59) rfl))) Via.refl e3 F_a1_coder (g := (mkF m 26 #[rv a1, rv a2, rv a2] [(.ref a1)])) rfl rfl (hb hby d12_26)
  refine Go.st (f' := (mkF m 29 #[rv a1, rv a2, rv a2] [(.int 0)])) (fun _ k => st4 _ k) ?_
  refine Go.st (f' := (mkF m 30 #[rv a1, rv a2, rv a2] [(.ref a2), (.int 0)])) (fun _ k => XS.aloadN X4.here hx rfl (hb hby d12_29) rfl rfl k) ?_
  obtain ⟨T5, X5, e5, st5⟩ := getF X4 hx hZ hown (host := "") (Or.inl (hw _ (List.mem_of_getElem? (i := 59) rfl))) Via.refl e4 F_a2_coder (g := (mkF m 30 #[rv a1, rv a2, rv a2] [(.ref a2), (.int 0)])) rfl rfl (hb hby d12_30)
  refine Go.st (f' := (mkF m 33 #[rv a1, rv a2, rv a2] [(.int 0), (.int 0)])) (fun _ k => st5 _ k) ?_
  refine Go.st (f' := (mkF m 36 #[rv a1, rv a2, rv a2] [])) (fun _ k => XS.icmpNo X5.here hx rfl (hb hby d12_33) rfl (by decide) k) ?_
  refine Go.st (f' := (mkF m 37 #[rv a1, rv a2, rv a2] [(.ref a1)])) (fun _ k => XS.aloadN X5.here hx rfl (hb hby d12_36) rfl rfl k) ?_
  obtain ⟨T6, X6, e6, st6⟩ := getF X5 hx hZ hown (host := "") (Or.inl (hw _ (List.mem_of_getElem? (i := 61) rfl))) Via.refl e5 F_a1_value (g := (mkF m 37 #[rv a1, rv a2, rv a2] [(.ref a1)])) rfl rfl (hb hby d12_37)
  refine Go.st (f' := (mkF m 40 #[rv a1, rv a2, rv a2] [(.ref t1)])) (fun _ k => st6 _ k) ?_
  refine Go.st (f' := (mkF m 41 #[rv a1, rv a2, rv a2] [(.ref a2), (.ref t1)])) (fun _ k => XS.aloadN X6.here hx rfl (hb hby d12_40) rfl rfl k) ?_
  obtain ⟨T7, X7, e7, st7⟩ := getF X6 hx hZ hown (host := "") (Or.inl (hw _ (List.mem_of_getElem? (i := 61) rfl))) Via.refl e6 F_a2_value (g := (mkF m 41 #[rv a1, rv a2, rv a2] [(.ref a2), (.ref t1)])) rfl rfl (hb hby d12_41)
  refine Go.st (f' := (mkF m 44 #[rv a1, rv a2, rv a2] [(.ref t2), (.ref t1)])) (fun _ k => st7 _ k) ?_
  obtain ⟨_, _, ⟨T8, L8, kk8, nn8⟩, -, X8, ⟨Lc8, hQ8, lq8, yq8, zz8⟩, st8⟩ := Jvm.LawKit.callS X7 hx (y := (⟨"java/lang/StringLatin1", "equals", "([B[B)Z"⟩ : MethodName)) hown (mvT hZ (hw _ (List.mem_of_getElem? (i := 71) rfl))) (mvT hZ (hw _ (List.mem_of_getElem? (i := 72) rfl))) (mvT hZ (hw _ (List.mem_of_getElem? (i := 73) rfl))) (mvT hZ (hw _ (List.mem_of_getElem? (i := 74) rfl))) (by decide) (own_back (W := 0) (el_1_1 l Z a0 hw [] t1 k1 t2 k2 x0 y0 h0 n0 O0 V_t1 V_t2) hZ (hw _ (List.mem_of_getElem? (i := 74) rfl)) (hw _ (List.mem_of_getElem? (i := 73) rfl)) (by decide) (by decide)) (g := (mkF m 44 #[rv a1, rv a2, rv a2] [(.ref t2), (.ref t1)])) rfl (by rw [hml]; rfl) (argsL := [(.ref t1), (.ref t2)]) (rest := []) (lenOf pd___B_B_Z rfl) rfl (by show 2 * 0 + _ ≤ _; exact Nat.le_of_eq rfl) (hb hby d12_44) (fun _ _ => ⟨rfl, e7, (by decide : 0 + 0 ≤ _), (by decide : 0 + 0 ≤ _)⟩)
  dsimp only [Pt.U, Pt.locs, Pt.cells, Pt.slots] at X8 lq8 yq8 zz8 st8 hQ8
  subst lq8 yq8 zz8
  obtain ⟨rfl, Nq8, kq8⟩ := hQ8
  have N8 := Fr.app N0 Nq8
  refine Go.st (f' := (mkF m 47 #[rv a1, rv a2, rv a2] [(.int (elI_1_1 x0 y0))])) (fun _ k => st8 _ k) ?_
  by_cases cd9 : (elI_1_1 x0 y0) = (0 : Int32)
  · refine Go.st (f' := (mkF m 54 #[rv a1, rv a2, rv a2] [])) (fun _ k => XS.ifYes X8.here hx rfl (pc0 := 47) (pc' := 54) rfl (hb hby d12_47) rfl ((if0 _ _).trans (teq cd9).1) (by decide) (by decide) k) ?_
    refine Go.st (f' := (mkF m 55 #[rv a1, rv a2, rv a2] [(.int 0)])) (fun _ k => XS.iconst X8.here hx rfl (hb hby d12_54) k) ?_
    refine Go.retB X8 hlk hx (t := .boolean) hret (by simp) (hb hby d12_55) kq8 ?_ (by decide) (by decide)
    show (some (.int (0 : Int32)) : Option Value) = some (.int (eqI_1_1 x0 y0)) ∧ _
    exact ⟨by rw [eqI_1_1, if_pos cd9], N8, rfl⟩
  · refine Go.st (f' := (mkF m 50 #[rv a1, rv a2, rv a2] [])) (fun _ k => XS.ifNo X8.here hx rfl (hb hby d12_47) rfl ((if0 _ _).trans (feq cd9).1) k) ?_
    refine Go.st (f' := (mkF m 51 #[rv a1, rv a2, rv a2] [(.int 1)])) (fun _ k => XS.iconst X8.here hx rfl (hb hby d12_50) k) ?_
    refine Go.st (f' := (mkF m 55 #[rv a1, rv a2, rv a2] [(.int 1)])) (fun _ k => XS.goto X8.here hx rfl (pc0 := 51) (pc' := 55) rfl (hb hby d12_51) (by decide) (by decide) k) ?_
    refine Go.retB X8 hlk hx (t := .boolean) hret (by simp) (hb hby d12_55) kq8 ?_ (by decide) (by decide)
    show (some (.int (1 : Int32)) : Option Value) = some (.int (eqI_1_1 x0 y0)) ∧ _
    exact ⟨by rw [eqI_1_1, if_neg cd9], N8, rfl⟩
def eqI_1_2 (x0 : Int32) (y0 : Int32) (y1 : Int32) : Int32 := (if (elI_1_2 x0 y0 y1) = (0 : Int32) then (0 : Int32) else (1 : Int32))
set_option maxRecDepth 65536 in
set_option maxHeartbeats 40000000 in
theorem eq_1_2 (l : Launch) (Z : State) (a0 : Array Value) (hw : ∀ d ∈ tables_1, d.before a0 Z = true) (ws : List Jvm.Cond) (a1 : Addr) (a2 : Addr) (t1 : Addr) (k1 : ClassId) (t2 : Addr) (k2 : ClassId) (x0 : Int32) (y0 : Int32) (y1 : Int32) (i_COMPACT_STRINGS : Int32) (v_SIOOBE_FORMATTER : Value) (h0 : Heap) (n0 : Nat) (O0 : Old Z n0 h0) (ne12 : a1 ≠ a2) (E_a1 : Exa Z h0 a1 "java/lang/String") (F_a1_coder : Fld Z h0 a1 "java/lang/String" "coder" "B" (.int 0)) (F_a1_value : Fld Z h0 a1 "java/lang/String" "value" "[B" (.ref t1)) (E_a2 : Exa Z h0 a2 "java/lang/String") (F_a2_coder : Fld Z h0 a2 "java/lang/String" "coder" "B" (.int 0)) (F_a2_value : Fld Z h0 a2 "java/lang/String" "value" "[B" (.ref t2)) (V_t1 : Arv Z h0 t1 k1 .byte (1 : Int32) [(.int x0)] (.int 0)) (V_t2 : Arv Z h0 t2 k2 .byte (2 : Int32) [(.int y0), (.int y1)] (.int 0)) (WW : World1 Z i_COMPACT_STRINGS v_SIOOBE_FORMATTER) :
    Con l Z (⟨"java/lang/String", "equals", "(Ljava/lang/Object;)Z"⟩ : MethodName) jdk_42_method_66_code 3 (some .boolean) ws ({ frames := 1, cells := 0, slots := 0, locals := 14 } : Room) #[(.ref a1), (.ref a2)] h0 (fun v h L => v = some (.int (eqI_1_2 x0 y0 y1)) ∧ Fr n0 L ∧ h = h0) := by
  refine own_body (plainFor_of_name pn_java_lang_String) ?_
  intro p e s m below meth c s₁ hx hby hml hZ hown hnm hlk hret X0 e0
  have N0 := Fr.nil n0
  refine Go.st (T' := s₁) (f' := (mkF m 0 #[rv a1, rv a2, .unset] [])) (fun _ k => castTop (by first | (simp [entryFrame, mkF, argsToLocals, Value.category]; done) | rfl) k) ?_
  have ⟨S_i_COMPACT_STRINGS, nz_i_COMPACT_STRINGS, S_v_SIOOBE_FORMATTER, r_v_SIOOBE_FORMATTER⟩ := WW
  have lt_a1 := E_a1.lt
  have lt_a2 := E_a2.lt
  have lt_t1 := V_t1.lt
  have lt_t2 := V_t2.lt
  refine Go.st (f' := (mkF m 1 #[rv a1, rv a2, .unset] [(.ref a1)])) (fun _ k => XS.aloadN X0.here hx rfl (hb hby d12_0) rfl rfl k) ?_
  refine Go.st (f' := (mkF m 2 #[rv a1, rv a2, .unset] [(.ref a2), (.ref a1)])) (fun _ k => XS.aloadN X0.here hx rfl (hb hby d12_1) rfl rfl k) ?_
  refine Go.st (f' := (mkF m 7 #[rv a1, rv a2, .unset] [])) (fun _ k => Jvm.RoadKit.acmp (g := (mkF m 2 #[rv a1, rv a2, .unset] [(.ref a2), (.ref a1)])) X0 hx rfl rfl rfl (pc0 := 2) (pc' := 7) (same := false) rfl (hb hby d12_2) rfl (decide_eq_false fun q => ne12 (Value.ref.inj q)) (by decide) (by decide) k) ?_
  refine Go.st (f' := (mkF m 8 #[rv a1, rv a2, .unset] [(.ref a2)])) (fun _ k => XS.aloadN X0.here hx rfl (hb hby d12_7) rfl rfl k) ?_
  obtain ⟨T1, X1, e1, st1⟩ := instY X0 hx hZ hown (hw _ (List.mem_of_getElem? (i := 70) rfl)) e0 (Ins.self E_a2) (g := (mkF m 8 #[rv a1, rv a2, .unset] [(.ref a2)])) rfl rfl (hb hby d12_8)
  refine Go.st (f' := (mkF m 11 #[rv a1, rv a2, .unset] [(.int 1)])) (fun _ k => st1 _ k) ?_
  refine Go.st (f' := (mkF m 14 #[rv a1, rv a2, .unset] [])) (fun _ k => XS.ifNo X1.here hx rfl (hb hby d12_11) rfl (by decide) k) ?_
  refine Go.st (f' := (mkF m 15 #[rv a1, rv a2, .unset] [(.ref a2)])) (fun _ k => XS.aloadN X1.here hx rfl (hb hby d12_14) rfl rfl k) ?_
  obtain ⟨T2, X2, e2, st2⟩ := castY X1 hx hZ hown (hw _ (List.mem_of_getElem? (i := 70) rfl)) e1 (Ins.self E_a2) (g := (mkF m 15 #[rv a1, rv a2, .unset] [(.ref a2)])) rfl rfl (hb hby d12_15)
  refine Go.st (f' := (mkF m 18 #[rv a1, rv a2, .unset] [(.ref a2)])) (fun _ k => st2 _ k) ?_
  refine Go.st (f' := (mkF m 19 #[rv a1, rv a2, rv a2] [])) (fun _ k => XS.astoreN X2.here hx rfl (hb hby d12_18) rfl rfl (l' := #[rv a1, rv a2, rv a2]) rfl k) ?_
  obtain ⟨T3, X3, e3, st3⟩ := getS2 X2 hx hZ hown (host := "") (Or.inl (hw _ (List.mem_of_getElem? (i := 47) rfl))) Via.refl e2 (S_i_COMPACT_STRINGS.ext O0.2) (g := (mkF m 19 #[rv a1, rv a2, rv a2] [])) rfl (hb hby d12_19)
  refine Go.st (f' := (mkF m 22 #[rv a1, rv a2, rv a2] [(.int i_COMPACT_STRINGS)])) (fun _ k => st3 _ k) ?_
  refine Go.st (f' := (mkF m 25 #[rv a1, rv a2, rv a2] [])) (fun _ k => XS.ifNo X3.here hx rfl (hb hby d12_22) rfl ((if0 _ _).trans (feq nz_i_COMPACT_STRINGS).1) k) ?_
  refine Go.st (f' := (mkF m 26 #[rv a1, rv a2, rv a2] [(.ref a1)])) (fun _ k => XS.aloadN X3.here hx rfl (hb hby d12_25) rfl rfl k) ?_
  obtain ⟨T4, X4, e4, st4⟩ := getF X3 hx hZ hown (host := "") (Or.inl (hw _ (List.mem_of_getElem? (i := 59) rfl))) Via.refl e3 F_a1_coder (g := (mkF m 26 #[rv a1, rv a2, rv a2] [(.ref a1)])) rfl rfl (hb hby d12_26)
  refine Go.st (f' := (mkF m 29 #[rv a1, rv a2, rv a2] [(.int 0)])) (fun _ k => st4 _ k) ?_
  refine Go.st (f' := (mkF m 30 #[rv a1, rv a2, rv a2] [(.ref a2), (.int 0)])) (fun _ k => XS.aloadN X4.here hx rfl (hb hby d12_29) rfl rfl k) ?_
  obtain ⟨T5, X5, e5, st5⟩ := getF X4 hx hZ hown (host := "") (Or.inl (hw _ (List.mem_of_getElem? (i := 59) rfl))) Via.refl e4 F_a2_coder (g := (mkF m 30 #[rv a1, rv a2, rv a2] [(.ref a2), (.int 0)])) rfl rfl (hb hby d12_30)
  refine Go.st (f' := (mkF m 33 #[rv a1, rv a2, rv a2] [(.int 0), (.int 0)])) (fun _ k => st5 _ k) ?_
  refine Go.st (f' := (mkF m 36 #[rv a1, rv a2, rv a2] [])) (fun _ k => XS.icmpNo X5.here hx rfl (hb hby d12_33) rfl (by decide) k) ?_
  refine Go.st (f' := (mkF m 37 #[rv a1, rv a2, rv a2] [(.ref a1)])) (fun _ k => XS.aloadN X5.here hx rfl (hb hby d12_36) rfl rfl k) ?_
  obtain ⟨T6, X6, e6, st6⟩ := getF X5 hx hZ hown (host := "") (Or.inl (hw _ (List.mem_of_getElem? (i := 61) rfl))) Via.refl e5 F_a1_value (g := (mkF m 37 #[rv a1, rv a2, rv a2] [(.ref a1)])) rfl rfl (hb hby d12_37)
  refine Go.st (f' := (mkF m 40 #[rv a1, rv a2, rv a2] [(.ref t1)])) (fun _ k => st6 _ k) ?_
  refine Go.st (f' := (mkF m 41 #[rv a1, rv a2, rv a2] [(.ref a2), (.ref t1)])) (fun _ k => XS.aloadN X6.here hx rfl (hb hby d12_40) rfl rfl k) ?_
  obtain ⟨T7, X7, e7, st7⟩ := getF X6 hx hZ hown (host := "") (Or.inl (hw _ (List.mem_of_getElem? (i := 61) rfl))) Via.refl e6 F_a2_value (g := (mkF m 41 #[rv a1, rv a2, rv a2] [(.ref a2), (.ref t1)])) rfl rfl (hb hby d12_41)
  refine Go.st (f' := (mkF m 44 #[rv a1, rv a2, rv a2] [(.ref t2), (.ref t1)])) (fun _ k => st7 _ k) ?_
  obtain ⟨_, _, ⟨T8, L8, kk8, nn8⟩, -, X8, ⟨Lc8, hQ8, lq8, yq8, zz8⟩, st8⟩ := Jvm.LawKit.callS X7 hx (y := (⟨"java/lang/StringLatin1", "equals", "([B[B)Z"⟩ : MethodName)) hown (mvT hZ (hw _ (List.mem_of_getElem? (i := 71) rfl))) (mvT hZ (hw _ (List.mem_of_getElem? (i := 72) rfl))) (mvT hZ (hw _ (List.mem_of_getElem? (i := 73) rfl))) (mvT hZ (hw _ (List.mem_of_getElem? (i := 74) rfl))) (by decide) (own_back (W := 0) (el_1_2 l Z a0 hw [] t1 k1 t2 k2 x0 y0 y1 h0 n0 O0 V_t1 V_t2) hZ (hw _ (List.mem_of_getElem? (i := 74) rfl)) (hw _ (List.mem_of_getElem? (i := 73) rfl)) (by decide) (by decide)) (g := (mkF m 44 #[rv a1, rv a2, rv a2] [(.ref t2), (.ref t1)])) rfl (by rw [hml]; rfl) (argsL := [(.ref t1), (.ref t2)]) (rest := []) (lenOf pd___B_B_Z rfl) rfl (by show 2 * 0 + _ ≤ _; exact Nat.le_of_eq rfl) (hb hby d12_44) (fun _ _ => ⟨rfl, e7, (by decide : 0 + 0 ≤ _), (by decide : 0 + 0 ≤ _)⟩)
  dsimp only [Pt.U, Pt.locs, Pt.cells, Pt.slots] at X8 lq8 yq8 zz8 st8 hQ8
  subst lq8 yq8 zz8
  obtain ⟨rfl, Nq8, kq8⟩ := hQ8
  have N8 := Fr.app N0 Nq8
  refine Go.st (f' := (mkF m 47 #[rv a1, rv a2, rv a2] [(.int (elI_1_2 x0 y0 y1))])) (fun _ k => st8 _ k) ?_
  by_cases cd9 : (elI_1_2 x0 y0 y1) = (0 : Int32)
  · refine Go.st (f' := (mkF m 54 #[rv a1, rv a2, rv a2] [])) (fun _ k => XS.ifYes X8.here hx rfl (pc0 := 47) (pc' := 54) rfl (hb hby d12_47) rfl ((if0 _ _).trans (teq cd9).1) (by decide) (by decide) k) ?_
    refine Go.st (f' := (mkF m 55 #[rv a1, rv a2, rv a2] [(.int 0)])) (fun _ k => XS.iconst X8.here hx rfl (hb hby d12_54) k) ?_
    refine Go.retB X8 hlk hx (t := .boolean) hret (by simp) (hb hby d12_55) kq8 ?_ (by decide) (by decide)
    show (some (.int (0 : Int32)) : Option Value) = some (.int (eqI_1_2 x0 y0 y1)) ∧ _
    exact ⟨by rw [eqI_1_2, if_pos cd9], N8, rfl⟩
  · refine Go.st (f' := (mkF m 50 #[rv a1, rv a2, rv a2] [])) (fun _ k => XS.ifNo X8.here hx rfl (hb hby d12_47) rfl ((if0 _ _).trans (feq cd9).1) k) ?_
    refine Go.st (f' := (mkF m 51 #[rv a1, rv a2, rv a2] [(.int 1)])) (fun _ k => XS.iconst X8.here hx rfl (hb hby d12_50) k) ?_
    refine Go.st (f' := (mkF m 55 #[rv a1, rv a2, rv a2] [(.int 1)])) (fun _ k => XS.goto X8.here hx rfl (pc0 := 51) (pc' := 55) rfl (hb hby d12_51) (by decide) (by decide) k) ?_
    refine Go.retB X8 hlk hx (t := .boolean) hret (by simp) (hb hby d12_55) kq8 ?_ (by decide) (by decide)
    show (some (.int (1 : Int32)) : Option Value) = some (.int (eqI_1_2 x0 y0 y1)) ∧ _
    exact ⟨by rw [eqI_1_2, if_neg cd9], N8, rfl⟩
def eqI_2_0 (x0 : Int32) (x1 : Int32) : Int32 := (if (elI_2_0 x0 x1) = (0 : Int32) then (0 : Int32) else (1 : Int32))
set_option maxRecDepth 65536 in
set_option maxHeartbeats 40000000 in
theorem eq_2_0 (l : Launch) (Z : State) (a0 : Array Value) (hw : ∀ d ∈ tables_1, d.before a0 Z = true) (ws : List Jvm.Cond) (a1 : Addr) (a2 : Addr) (t1 : Addr) (k1 : ClassId) (t2 : Addr) (k2 : ClassId) (x0 : Int32) (x1 : Int32) (i_COMPACT_STRINGS : Int32) (v_SIOOBE_FORMATTER : Value) (h0 : Heap) (n0 : Nat) (O0 : Old Z n0 h0) (ne12 : a1 ≠ a2) (E_a1 : Exa Z h0 a1 "java/lang/String") (F_a1_coder : Fld Z h0 a1 "java/lang/String" "coder" "B" (.int 0)) (F_a1_value : Fld Z h0 a1 "java/lang/String" "value" "[B" (.ref t1)) (E_a2 : Exa Z h0 a2 "java/lang/String") (F_a2_coder : Fld Z h0 a2 "java/lang/String" "coder" "B" (.int 0)) (F_a2_value : Fld Z h0 a2 "java/lang/String" "value" "[B" (.ref t2)) (V_t1 : Arv Z h0 t1 k1 .byte (2 : Int32) [(.int x0), (.int x1)] (.int 0)) (V_t2 : Arv Z h0 t2 k2 .byte (0 : Int32) [] (.int 0)) (WW : World1 Z i_COMPACT_STRINGS v_SIOOBE_FORMATTER) :
    Con l Z (⟨"java/lang/String", "equals", "(Ljava/lang/Object;)Z"⟩ : MethodName) jdk_42_method_66_code 3 (some .boolean) ws ({ frames := 1, cells := 0, slots := 0, locals := 14 } : Room) #[(.ref a1), (.ref a2)] h0 (fun v h L => v = some (.int (eqI_2_0 x0 x1)) ∧ Fr n0 L ∧ h = h0) := by
  refine own_body (plainFor_of_name pn_java_lang_String) ?_
  intro p e s m below meth c s₁ hx hby hml hZ hown hnm hlk hret X0 e0
  have N0 := Fr.nil n0
  refine Go.st (T' := s₁) (f' := (mkF m 0 #[rv a1, rv a2, .unset] [])) (fun _ k => castTop (by first | (simp [entryFrame, mkF, argsToLocals, Value.category]; done) | rfl) k) ?_
  have ⟨S_i_COMPACT_STRINGS, nz_i_COMPACT_STRINGS, S_v_SIOOBE_FORMATTER, r_v_SIOOBE_FORMATTER⟩ := WW
  have lt_a1 := E_a1.lt
  have lt_a2 := E_a2.lt
  have lt_t1 := V_t1.lt
  have lt_t2 := V_t2.lt
  refine Go.st (f' := (mkF m 1 #[rv a1, rv a2, .unset] [(.ref a1)])) (fun _ k => XS.aloadN X0.here hx rfl (hb hby d12_0) rfl rfl k) ?_
  refine Go.st (f' := (mkF m 2 #[rv a1, rv a2, .unset] [(.ref a2), (.ref a1)])) (fun _ k => XS.aloadN X0.here hx rfl (hb hby d12_1) rfl rfl k) ?_
  refine Go.st (f' := (mkF m 7 #[rv a1, rv a2, .unset] [])) (fun _ k => Jvm.RoadKit.acmp (g := (mkF m 2 #[rv a1, rv a2, .unset] [(.ref a2), (.ref a1)])) X0 hx rfl rfl rfl (pc0 := 2) (pc' := 7) (same := false) rfl (hb hby d12_2) rfl (decide_eq_false fun q => ne12 (Value.ref.inj q)) (by decide) (by decide) k) ?_
  refine Go.st (f' := (mkF m 8 #[rv a1, rv a2, .unset] [(.ref a2)])) (fun _ k => XS.aloadN X0.here hx rfl (hb hby d12_7) rfl rfl k) ?_
  obtain ⟨T1, X1, e1, st1⟩ := instY X0 hx hZ hown (hw _ (List.mem_of_getElem? (i := 70) rfl)) e0 (Ins.self E_a2) (g := (mkF m 8 #[rv a1, rv a2, .unset] [(.ref a2)])) rfl rfl (hb hby d12_8)
  refine Go.st (f' := (mkF m 11 #[rv a1, rv a2, .unset] [(.int 1)])) (fun _ k => st1 _ k) ?_
  refine Go.st (f' := (mkF m 14 #[rv a1, rv a2, .unset] [])) (fun _ k => XS.ifNo X1.here hx rfl (hb hby d12_11) rfl (by decide) k) ?_
  refine Go.st (f' := (mkF m 15 #[rv a1, rv a2, .unset] [(.ref a2)])) (fun _ k => XS.aloadN X1.here hx rfl (hb hby d12_14) rfl rfl k) ?_
  obtain ⟨T2, X2, e2, st2⟩ := castY X1 hx hZ hown (hw _ (List.mem_of_getElem? (i := 70) rfl)) e1 (Ins.self E_a2) (g := (mkF m 15 #[rv a1, rv a2, .unset] [(.ref a2)])) rfl rfl (hb hby d12_15)
  refine Go.st (f' := (mkF m 18 #[rv a1, rv a2, .unset] [(.ref a2)])) (fun _ k => st2 _ k) ?_
  refine Go.st (f' := (mkF m 19 #[rv a1, rv a2, rv a2] [])) (fun _ k => XS.astoreN X2.here hx rfl (hb hby d12_18) rfl rfl (l' := #[rv a1, rv a2, rv a2]) rfl k) ?_
  obtain ⟨T3, X3, e3, st3⟩ := getS2 X2 hx hZ hown (host := "") (Or.inl (hw _ (List.mem_of_getElem? (i := 47) rfl))) Via.refl e2 (S_i_COMPACT_STRINGS.ext O0.2) (g := (mkF m 19 #[rv a1, rv a2, rv a2] [])) rfl (hb hby d12_19)
  refine Go.st (f' := (mkF m 22 #[rv a1, rv a2, rv a2] [(.int i_COMPACT_STRINGS)])) (fun _ k => st3 _ k) ?_
  refine Go.st (f' := (mkF m 25 #[rv a1, rv a2, rv a2] [])) (fun _ k => XS.ifNo X3.here hx rfl (hb hby d12_22) rfl ((if0 _ _).trans (feq nz_i_COMPACT_STRINGS).1) k) ?_
  refine Go.st (f' := (mkF m 26 #[rv a1, rv a2, rv a2] [(.ref a1)])) (fun _ k => XS.aloadN X3.here hx rfl (hb hby d12_25) rfl rfl k) ?_
  obtain ⟨T4, X4, e4, st4⟩ := getF X3 hx hZ hown (host := "") (Or.inl (hw _ (List.mem_of_getElem? (i := 59) rfl))) Via.refl e3 F_a1_coder (g := (mkF m 26 #[rv a1, rv a2, rv a2] [(.ref a1)])) rfl rfl (hb hby d12_26)
  refine Go.st (f' := (mkF m 29 #[rv a1, rv a2, rv a2] [(.int 0)])) (fun _ k => st4 _ k) ?_
  refine Go.st (f' := (mkF m 30 #[rv a1, rv a2, rv a2] [(.ref a2), (.int 0)])) (fun _ k => XS.aloadN X4.here hx rfl (hb hby d12_29) rfl rfl k) ?_
  obtain ⟨T5, X5, e5, st5⟩ := getF X4 hx hZ hown (host := "") (Or.inl (hw _ (List.mem_of_getElem? (i := 59) rfl))) Via.refl e4 F_a2_coder (g := (mkF m 30 #[rv a1, rv a2, rv a2] [(.ref a2), (.int 0)])) rfl rfl (hb hby d12_30)
  refine Go.st (f' := (mkF m 33 #[rv a1, rv a2, rv a2] [(.int 0), (.int 0)])) (fun _ k => st5 _ k) ?_
  refine Go.st (f' := (mkF m 36 #[rv a1, rv a2, rv a2] [])) (fun _ k => XS.icmpNo X5.here hx rfl (hb hby d12_33) rfl (by decide) k) ?_
  refine Go.st (f' := (mkF m 37 #[rv a1, rv a2, rv a2] [(.ref a1)])) (fun _ k => XS.aloadN X5.here hx rfl (hb hby d12_36) rfl rfl k) ?_
  obtain ⟨T6, X6, e6, st6⟩ := getF X5 hx hZ hown (host := "") (Or.inl (hw _ (List.mem_of_getElem? (i := 61) rfl))) Via.refl e5 F_a1_value (g := (mkF m 37 #[rv a1, rv a2, rv a2] [(.ref a1)])) rfl rfl (hb hby d12_37)
  refine Go.st (f' := (mkF m 40 #[rv a1, rv a2, rv a2] [(.ref t1)])) (fun _ k => st6 _ k) ?_
  refine Go.st (f' := (mkF m 41 #[rv a1, rv a2, rv a2] [(.ref a2), (.ref t1)])) (fun _ k => XS.aloadN X6.here hx rfl (hb hby d12_40) rfl rfl k) ?_
  obtain ⟨T7, X7, e7, st7⟩ := getF X6 hx hZ hown (host := "") (Or.inl (hw _ (List.mem_of_getElem? (i := 61) rfl))) Via.refl e6 F_a2_value (g := (mkF m 41 #[rv a1, rv a2, rv a2] [(.ref a2), (.ref t1)])) rfl rfl (hb hby d12_41)
  refine Go.st (f' := (mkF m 44 #[rv a1, rv a2, rv a2] [(.ref t2), (.ref t1)])) (fun _ k => st7 _ k) ?_
  obtain ⟨_, _, ⟨T8, L8, kk8, nn8⟩, -, X8, ⟨Lc8, hQ8, lq8, yq8, zz8⟩, st8⟩ := Jvm.LawKit.callS X7 hx (y := (⟨"java/lang/StringLatin1", "equals", "([B[B)Z"⟩ : MethodName)) hown (mvT hZ (hw _ (List.mem_of_getElem? (i := 71) rfl))) (mvT hZ (hw _ (List.mem_of_getElem? (i := 72) rfl))) (mvT hZ (hw _ (List.mem_of_getElem? (i := 73) rfl))) (mvT hZ (hw _ (List.mem_of_getElem? (i := 74) rfl))) (by decide) (own_back (W := 0) (el_2_0 l Z a0 hw [] t1 k1 t2 k2 x0 x1 h0 n0 O0 V_t1 V_t2) hZ (hw _ (List.mem_of_getElem? (i := 74) rfl)) (hw _ (List.mem_of_getElem? (i := 73) rfl)) (by decide) (by decide)) (g := (mkF m 44 #[rv a1, rv a2, rv a2] [(.ref t2), (.ref t1)])) rfl (by rw [hml]; rfl) (argsL := [(.ref t1), (.ref t2)]) (rest := []) (lenOf pd___B_B_Z rfl) rfl (by show 2 * 0 + _ ≤ _; exact Nat.le_of_eq rfl) (hb hby d12_44) (fun _ _ => ⟨rfl, e7, (by decide : 0 + 0 ≤ _), (by decide : 0 + 0 ≤ _)⟩)
  dsimp only [Pt.U, Pt.locs, Pt.cells, Pt.slots] at X8 lq8 yq8 zz8 st8 hQ8
  subst lq8 yq8 zz8
  obtain ⟨rfl, Nq8, kq8⟩ := hQ8
  have N8 := Fr.app N0 Nq8
  refine Go.st (f' := (mkF m 47 #[rv a1, rv a2, rv a2] [(.int (elI_2_0 x0 x1))])) (fun _ k => st8 _ k) ?_
  by_cases cd9 : (elI_2_0 x0 x1) = (0 : Int32)
  · refine Go.st (f' := (mkF m 54 #[rv a1, rv a2, rv a2] [])) (fun _ k => XS.ifYes X8.here hx rfl (pc0 := 47) (pc' := 54) rfl (hb hby d12_47) rfl ((if0 _ _).trans (teq cd9).1) (by decide) (by decide) k) ?_
    refine Go.st (f' := (mkF m 55 #[rv a1, rv a2, rv a2] [(.int 0)])) (fun _ k => XS.iconst X8.here hx rfl (hb hby d12_54) k) ?_
    refine Go.retB X8 hlk hx (t := .boolean) hret (by simp) (hb hby d12_55) kq8 ?_ (by decide) (by decide)
    show (some (.int (0 : Int32)) : Option Value) = some (.int (eqI_2_0 x0 x1)) ∧ _
    exact ⟨by rw [eqI_2_0, if_pos cd9], N8, rfl⟩
  · refine Go.st (f' := (mkF m 50 #[rv a1, rv a2, rv a2] [])) (fun _ k => XS.ifNo X8.here hx rfl (hb hby d12_47) rfl ((if0 _ _).trans (feq cd9).1) k) ?_
    refine Go.st (f' := (mkF m 51 #[rv a1, rv a2, rv a2] [(.int 1)])) (fun _ k => XS.iconst X8.here hx rfl (hb hby d12_50) k) ?_
    refine Go.st (f' := (mkF m 55 #[rv a1, rv a2, rv a2] [(.int 1)])) (fun _ k => XS.goto X8.here hx rfl (pc0 := 51) (pc' := 55) rfl (hb hby d12_51) (by decide) (by decide) k) ?_
    refine Go.retB X8 hlk hx (t := .boolean) hret (by simp) (hb hby d12_55) kq8 ?_ (by decide) (by decide)
    show (some (.int (1 : Int32)) : Option Value) = some (.int (eqI_2_0 x0 x1)) ∧ _
    exact ⟨by rw [eqI_2_0, if_neg cd9], N8, rfl⟩
def eqI_2_1 (x0 : Int32) (x1 : Int32) (y0 : Int32) : Int32 := (if (elI_2_1 x0 x1 y0) = (0 : Int32) then (0 : Int32) else (1 : Int32))
set_option maxRecDepth 65536 in
set_option maxHeartbeats 40000000 in
theorem eq_2_1 (l : Launch) (Z : State) (a0 : Array Value) (hw : ∀ d ∈ tables_1, d.before a0 Z = true) (ws : List Jvm.Cond) (a1 : Addr) (a2 : Addr) (t1 : Addr) (k1 : ClassId) (t2 : Addr) (k2 : ClassId) (x0 : Int32) (x1 : Int32) (y0 : Int32) (i_COMPACT_STRINGS : Int32) (v_SIOOBE_FORMATTER : Value) (h0 : Heap) (n0 : Nat) (O0 : Old Z n0 h0) (ne12 : a1 ≠ a2) (E_a1 : Exa Z h0 a1 "java/lang/String") (F_a1_coder : Fld Z h0 a1 "java/lang/String" "coder" "B" (.int 0)) (F_a1_value : Fld Z h0 a1 "java/lang/String" "value" "[B" (.ref t1)) (E_a2 : Exa Z h0 a2 "java/lang/String") (F_a2_coder : Fld Z h0 a2 "java/lang/String" "coder" "B" (.int 0)) (F_a2_value : Fld Z h0 a2 "java/lang/String" "value" "[B" (.ref t2)) (V_t1 : Arv Z h0 t1 k1 .byte (2 : Int32) [(.int x0), (.int x1)] (.int 0)) (V_t2 : Arv Z h0 t2 k2 .byte (1 : Int32) [(.int y0)] (.int 0)) (WW : World1 Z i_COMPACT_STRINGS v_SIOOBE_FORMATTER) :
    Con l Z (⟨"java/lang/String", "equals", "(Ljava/lang/Object;)Z"⟩ : MethodName) jdk_42_method_66_code 3 (some .boolean) ws ({ frames := 1, cells := 0, slots := 0, locals := 14 } : Room) #[(.ref a1), (.ref a2)] h0 (fun v h L => v = some (.int (eqI_2_1 x0 x1 y0)) ∧ Fr n0 L ∧ h = h0) := by
  refine own_body (plainFor_of_name pn_java_lang_String) ?_
  intro p e s m below meth c s₁ hx hby hml hZ hown hnm hlk hret X0 e0
  have N0 := Fr.nil n0
  refine Go.st (T' := s₁) (f' := (mkF m 0 #[rv a1, rv a2, .unset] [])) (fun _ k => castTop (by first | (simp [entryFrame, mkF, argsToLocals, Value.category]; done) | rfl) k) ?_
  have ⟨S_i_COMPACT_STRINGS, nz_i_COMPACT_STRINGS, S_v_SIOOBE_FORMATTER, r_v_SIOOBE_FORMATTER⟩ := WW
  have lt_a1 := E_a1.lt
  have lt_a2 := E_a2.lt
  have lt_t1 := V_t1.lt
  have lt_t2 := V_t2.lt
  refine Go.st (f' := (mkF m 1 #[rv a1, rv a2, .unset] [(.ref a1)])) (fun _ k => XS.aloadN X0.here hx rfl (hb hby d12_0) rfl rfl k) ?_
  refine Go.st (f' := (mkF m 2 #[rv a1, rv a2, .unset] [(.ref a2), (.ref a1)])) (fun _ k => XS.aloadN X0.here hx rfl (hb hby d12_1) rfl rfl k) ?_
  refine Go.st (f' := (mkF m 7 #[rv a1, rv a2, .unset] [])) (fun _ k => Jvm.RoadKit.acmp (g := (mkF m 2 #[rv a1, rv a2, .unset] [(.ref a2), (.ref a1)])) X0 hx rfl rfl rfl (pc0 := 2) (pc' := 7) (same := false) rfl (hb hby d12_2) rfl (decide_eq_false fun q => ne12 (Value.ref.inj q)) (by decide) (by decide) k) ?_
  refine Go.st (f' := (mkF m 8 #[rv a1, rv a2, .unset] [(.ref a2)])) (fun _ k => XS.aloadN X0.here hx rfl (hb hby d12_7) rfl rfl k) ?_
  obtain ⟨T1, X1, e1, st1⟩ := instY X0 hx hZ hown (hw _ (List.mem_of_getElem? (i := 70) rfl)) e0 (Ins.self E_a2) (g := (mkF m 8 #[rv a1, rv a2, .unset] [(.ref a2)])) rfl rfl (hb hby d12_8)
  refine Go.st (f' := (mkF m 11 #[rv a1, rv a2, .unset] [(.int 1)])) (fun _ k => st1 _ k) ?_
  refine Go.st (f' := (mkF m 14 #[rv a1, rv a2, .unset] [])) (fun _ k => XS.ifNo X1.here hx rfl (hb hby d12_11) rfl (by decide) k) ?_
  refine Go.st (f' := (mkF m 15 #[rv a1, rv a2, .unset] [(.ref a2)])) (fun _ k => XS.aloadN X1.here hx rfl (hb hby d12_14) rfl rfl k) ?_
  obtain ⟨T2, X2, e2, st2⟩ := castY X1 hx hZ hown (hw _ (List.mem_of_getElem? (i := 70) rfl)) e1 (Ins.self E_a2) (g := (mkF m 15 #[rv a1, rv a2, .unset] [(.ref a2)])) rfl rfl (hb hby d12_15)
  refine Go.st (f' := (mkF m 18 #[rv a1, rv a2, .unset] [(.ref a2)])) (fun _ k => st2 _ k) ?_
  refine Go.st (f' := (mkF m 19 #[rv a1, rv a2, rv a2] [])) (fun _ k => XS.astoreN X2.here hx rfl (hb hby d12_18) rfl rfl (l' := #[rv a1, rv a2, rv a2]) rfl k) ?_
  obtain ⟨T3, X3, e3, st3⟩ := getS2 X2 hx hZ hown (host := "") (Or.inl (hw _ (List.mem_of_getElem? (i := 47) rfl))) Via.refl e2 (S_i_COMPACT_STRINGS.ext O0.2) (g := (mkF m 19 #[rv a1, rv a2, rv a2] [])) rfl (hb hby d12_19)
  refine Go.st (f' := (mkF m 22 #[rv a1, rv a2, rv a2] [(.int i_COMPACT_STRINGS)])) (fun _ k => st3 _ k) ?_
  refine Go.st (f' := (mkF m 25 #[rv a1, rv a2, rv a2] [])) (fun _ k => XS.ifNo X3.here hx rfl (hb hby d12_22) rfl ((if0 _ _).trans (feq nz_i_COMPACT_STRINGS).1) k) ?_
  refine Go.st (f' := (mkF m 26 #[rv a1, rv a2, rv a2] [(.ref a1)])) (fun _ k => XS.aloadN X3.here hx rfl (hb hby d12_25) rfl rfl k) ?_
  obtain ⟨T4, X4, e4, st4⟩ := getF X3 hx hZ hown (host := "") (Or.inl (hw _ (List.mem_of_getElem? (i := 59) rfl))) Via.refl e3 F_a1_coder (g := (mkF m 26 #[rv a1, rv a2, rv a2] [(.ref a1)])) rfl rfl (hb hby d12_26)
  refine Go.st (f' := (mkF m 29 #[rv a1, rv a2, rv a2] [(.int 0)])) (fun _ k => st4 _ k) ?_
  refine Go.st (f' := (mkF m 30 #[rv a1, rv a2, rv a2] [(.ref a2), (.int 0)])) (fun _ k => XS.aloadN X4.here hx rfl (hb hby d12_29) rfl rfl k) ?_
  obtain ⟨T5, X5, e5, st5⟩ := getF X4 hx hZ hown (host := "") (Or.inl (hw _ (List.mem_of_getElem? (i := 59) rfl))) Via.refl e4 F_a2_coder (g := (mkF m 30 #[rv a1, rv a2, rv a2] [(.ref a2), (.int 0)])) rfl rfl (hb hby d12_30)
  refine Go.st (f' := (mkF m 33 #[rv a1, rv a2, rv a2] [(.int 0), (.int 0)])) (fun _ k => st5 _ k) ?_
  refine Go.st (f' := (mkF m 36 #[rv a1, rv a2, rv a2] [])) (fun _ k => XS.icmpNo X5.here hx rfl (hb hby d12_33) rfl (by decide) k) ?_
  refine Go.st (f' := (mkF m 37 #[rv a1, rv a2, rv a2] [(.ref a1)])) (fun _ k => XS.aloadN X5.here hx rfl (hb hby d12_36) rfl rfl k) ?_
  obtain ⟨T6, X6, e6, st6⟩ := getF X5 hx hZ hown (host := "") (Or.inl (hw _ (List.mem_of_getElem? (i := 61) rfl))) Via.refl e5 F_a1_value (g := (mkF m 37 #[rv a1, rv a2, rv a2] [(.ref a1)])) rfl rfl (hb hby d12_37)
  refine Go.st (f' := (mkF m 40 #[rv a1, rv a2, rv a2] [(.ref t1)])) (fun _ k => st6 _ k) ?_
  refine Go.st (f' := (mkF m 41 #[rv a1, rv a2, rv a2] [(.ref a2), (.ref t1)])) (fun _ k => XS.aloadN X6.here hx rfl (hb hby d12_40) rfl rfl k) ?_
  obtain ⟨T7, X7, e7, st7⟩ := getF X6 hx hZ hown (host := "") (Or.inl (hw _ (List.mem_of_getElem? (i := 61) rfl))) Via.refl e6 F_a2_value (g := (mkF m 41 #[rv a1, rv a2, rv a2] [(.ref a2), (.ref t1)])) rfl rfl (hb hby d12_41)
  refine Go.st (f' := (mkF m 44 #[rv a1, rv a2, rv a2] [(.ref t2), (.ref t1)])) (fun _ k => st7 _ k) ?_
  obtain ⟨_, _, ⟨T8, L8, kk8, nn8⟩, -, X8, ⟨Lc8, hQ8, lq8, yq8, zz8⟩, st8⟩ := Jvm.LawKit.callS X7 hx (y := (⟨"java/lang/StringLatin1", "equals", "([B[B)Z"⟩ : MethodName)) hown (mvT hZ (hw _ (List.mem_of_getElem? (i := 71) rfl))) (mvT hZ (hw _ (List.mem_of_getElem? (i := 72) rfl))) (mvT hZ (hw _ (List.mem_of_getElem? (i := 73) rfl))) (mvT hZ (hw _ (List.mem_of_getElem? (i := 74) rfl))) (by decide) (own_back (W := 0) (el_2_1 l Z a0 hw [] t1 k1 t2 k2 x0 x1 y0 h0 n0 O0 V_t1 V_t2) hZ (hw _ (List.mem_of_getElem? (i := 74) rfl)) (hw _ (List.mem_of_getElem? (i := 73) rfl)) (by decide) (by decide)) (g := (mkF m 44 #[rv a1, rv a2, rv a2] [(.ref t2), (.ref t1)])) rfl (by rw [hml]; rfl) (argsL := [(.ref t1), (.ref t2)]) (rest := []) (lenOf pd___B_B_Z rfl) rfl (by show 2 * 0 + _ ≤ _; exact Nat.le_of_eq rfl) (hb hby d12_44) (fun _ _ => ⟨rfl, e7, (by decide : 0 + 0 ≤ _), (by decide : 0 + 0 ≤ _)⟩)
  dsimp only [Pt.U, Pt.locs, Pt.cells, Pt.slots] at X8 lq8 yq8 zz8 st8 hQ8
  subst lq8 yq8 zz8
  obtain ⟨rfl, Nq8, kq8⟩ := hQ8
  have N8 := Fr.app N0 Nq8
  refine Go.st (f' := (mkF m 47 #[rv a1, rv a2, rv a2] [(.int (elI_2_1 x0 x1 y0))])) (fun _ k => st8 _ k) ?_
  by_cases cd9 : (elI_2_1 x0 x1 y0) = (0 : Int32)
  · refine Go.st (f' := (mkF m 54 #[rv a1, rv a2, rv a2] [])) (fun _ k => XS.ifYes X8.here hx rfl (pc0 := 47) (pc' := 54) rfl (hb hby d12_47) rfl ((if0 _ _).trans (teq cd9).1) (by decide) (by decide) k) ?_
    refine Go.st (f' := (mkF m 55 #[rv a1, rv a2, rv a2] [(.int 0)])) (fun _ k => XS.iconst X8.here hx rfl (hb hby d12_54) k) ?_
    refine Go.retB X8 hlk hx (t := .boolean) hret (by simp) (hb hby d12_55) kq8 ?_ (by decide) (by decide)
    show (some (.int (0 : Int32)) : Option Value) = some (.int (eqI_2_1 x0 x1 y0)) ∧ _
    exact ⟨by rw [eqI_2_1, if_pos cd9], N8, rfl⟩
  · refine Go.st (f' := (mkF m 50 #[rv a1, rv a2, rv a2] [])) (fun _ k => XS.ifNo X8.here hx rfl (hb hby d12_47) rfl ((if0 _ _).trans (feq cd9).1) k) ?_
    refine Go.st (f' := (mkF m 51 #[rv a1, rv a2, rv a2] [(.int 1)])) (fun _ k => XS.iconst X8.here hx rfl (hb hby d12_50) k) ?_
    refine Go.st (f' := (mkF m 55 #[rv a1, rv a2, rv a2] [(.int 1)])) (fun _ k => XS.goto X8.here hx rfl (pc0 := 51) (pc' := 55) rfl (hb hby d12_51) (by decide) (by decide) k) ?_
    refine Go.retB X8 hlk hx (t := .boolean) hret (by simp) (hb hby d12_55) kq8 ?_ (by decide) (by decide)
    show (some (.int (1 : Int32)) : Option Value) = some (.int (eqI_2_1 x0 x1 y0)) ∧ _
    exact ⟨by rw [eqI_2_1, if_neg cd9], N8, rfl⟩
def eqI_2_2 (x0 : Int32) (x1 : Int32) (y0 : Int32) (y1 : Int32) : Int32 := (if (elI_2_2 x0 x1 y0 y1) = (0 : Int32) then (0 : Int32) else (1 : Int32))
set_option maxRecDepth 65536 in
set_option maxHeartbeats 40000000 in
theorem eq_2_2 (l : Launch) (Z : State) (a0 : Array Value) (hw : ∀ d ∈ tables_1, d.before a0 Z = true) (ws : List Jvm.Cond) (a1 : Addr) (a2 : Addr) (t1 : Addr) (k1 : ClassId) (t2 : Addr) (k2 : ClassId) (x0 : Int32) (x1 : Int32) (y0 : Int32) (y1 : Int32) (i_COMPACT_STRINGS : Int32) (v_SIOOBE_FORMATTER : Value) (h0 : Heap) (n0 : Nat) (O0 : Old Z n0 h0) (ne12 : a1 ≠ a2) (E_a1 : Exa Z h0 a1 "java/lang/String") (F_a1_coder : Fld Z h0 a1 "java/lang/String" "coder" "B" (.int 0)) (F_a1_value : Fld Z h0 a1 "java/lang/String" "value" "[B" (.ref t1)) (E_a2 : Exa Z h0 a2 "java/lang/String") (F_a2_coder : Fld Z h0 a2 "java/lang/String" "coder" "B" (.int 0)) (F_a2_value : Fld Z h0 a2 "java/lang/String" "value" "[B" (.ref t2)) (V_t1 : Arv Z h0 t1 k1 .byte (2 : Int32) [(.int x0), (.int x1)] (.int 0)) (V_t2 : Arv Z h0 t2 k2 .byte (2 : Int32) [(.int y0), (.int y1)] (.int 0)) (WW : World1 Z i_COMPACT_STRINGS v_SIOOBE_FORMATTER) :
    Con l Z (⟨"java/lang/String", "equals", "(Ljava/lang/Object;)Z"⟩ : MethodName) jdk_42_method_66_code 3 (some .boolean) ws ({ frames := 1, cells := 0, slots := 0, locals := 14 } : Room) #[(.ref a1), (.ref a2)] h0 (fun v h L => v = some (.int (eqI_2_2 x0 x1 y0 y1)) ∧ Fr n0 L ∧ h = h0) := by
  refine own_body (plainFor_of_name pn_java_lang_String) ?_
  intro p e s m below meth c s₁ hx hby hml hZ hown hnm hlk hret X0 e0
  have N0 := Fr.nil n0
  refine Go.st (T' := s₁) (f' := (mkF m 0 #[rv a1, rv a2, .unset] [])) (fun _ k => castTop (by first | (simp [entryFrame, mkF, argsToLocals, Value.category]; done) | rfl) k) ?_
  have ⟨S_i_COMPACT_STRINGS, nz_i_COMPACT_STRINGS, S_v_SIOOBE_FORMATTER, r_v_SIOOBE_FORMATTER⟩ := WW
  have lt_a1 := E_a1.lt
  have lt_a2 := E_a2.lt
  have lt_t1 := V_t1.lt
  have lt_t2 := V_t2.lt
  refine Go.st (f' := (mkF m 1 #[rv a1, rv a2, .unset] [(.ref a1)])) (fun _ k => XS.aloadN X0.here hx rfl (hb hby d12_0) rfl rfl k) ?_
  refine Go.st (f' := (mkF m 2 #[rv a1, rv a2, .unset] [(.ref a2), (.ref a1)])) (fun _ k => XS.aloadN X0.here hx rfl (hb hby d12_1) rfl rfl k) ?_
  refine Go.st (f' := (mkF m 7 #[rv a1, rv a2, .unset] [])) (fun _ k => Jvm.RoadKit.acmp (g := (mkF m 2 #[rv a1, rv a2, .unset] [(.ref a2), (.ref a1)])) X0 hx rfl rfl rfl (pc0 := 2) (pc' := 7) (same := false) rfl (hb hby d12_2) rfl (decide_eq_false fun q => ne12 (Value.ref.inj q)) (by decide) (by decide) k) ?_
  refine Go.st (f' := (mkF m 8 #[rv a1, rv a2, .unset] [(.ref a2)])) (fun _ k => XS.aloadN X0.here hx rfl (hb hby d12_7) rfl rfl k) ?_
  obtain ⟨T1, X1, e1, st1⟩ := instY X0 hx hZ hown (hw _ (List.mem_of_getElem? (i := 70) rfl)) e0 (Ins.self E_a2) (g := (mkF m 8 #[rv a1, rv a2, .unset] [(.ref a2)])) rfl rfl (hb hby d12_8)
  refine Go.st (f' := (mkF m 11 #[rv a1, rv a2, .unset] [(.int 1)])) (fun _ k => st1 _ k) ?_
  refine Go.st (f' := (mkF m 14 #[rv a1, rv a2, .unset] [])) (fun _ k => XS.ifNo X1.here hx rfl (hb hby d12_11) rfl (by decide) k) ?_
  refine Go.st (f' := (mkF m 15 #[rv a1, rv a2, .unset] [(.ref a2)])) (fun _ k => XS.aloadN X1.here hx rfl (hb hby d12_14) rfl rfl k) ?_
  obtain ⟨T2, X2, e2, st2⟩ := castY X1 hx hZ hown (hw _ (List.mem_of_getElem? (i := 70) rfl)) e1 (Ins.self E_a2) (g := (mkF m 15 #[rv a1, rv a2, .unset] [(.ref a2)])) rfl rfl (hb hby d12_15)
  refine Go.st (f' := (mkF m 18 #[rv a1, rv a2, .unset] [(.ref a2)])) (fun _ k => st2 _ k) ?_
  refine Go.st (f' := (mkF m 19 #[rv a1, rv a2, rv a2] [])) (fun _ k => XS.astoreN X2.here hx rfl (hb hby d12_18) rfl rfl (l' := #[rv a1, rv a2, rv a2]) rfl k) ?_
  obtain ⟨T3, X3, e3, st3⟩ := getS2 X2 hx hZ hown (host := "") (Or.inl (hw _ (List.mem_of_getElem? (i := 47) rfl))) Via.refl e2 (S_i_COMPACT_STRINGS.ext O0.2) (g := (mkF m 19 #[rv a1, rv a2, rv a2] [])) rfl (hb hby d12_19)
  refine Go.st (f' := (mkF m 22 #[rv a1, rv a2, rv a2] [(.int i_COMPACT_STRINGS)])) (fun _ k => st3 _ k) ?_
  refine Go.st (f' := (mkF m 25 #[rv a1, rv a2, rv a2] [])) (fun _ k => XS.ifNo X3.here hx rfl (hb hby d12_22) rfl ((if0 _ _).trans (feq nz_i_COMPACT_STRINGS).1) k) ?_
  refine Go.st (f' := (mkF m 26 #[rv a1, rv a2, rv a2] [(.ref a1)])) (fun _ k => XS.aloadN X3.here hx rfl (hb hby d12_25) rfl rfl k) ?_
  obtain ⟨T4, X4, e4, st4⟩ := getF X3 hx hZ hown (host := "") (Or.inl (hw _ (List.mem_of_getElem? (i := 59) rfl))) Via.refl e3 F_a1_coder (g := (mkF m 26 #[rv a1, rv a2, rv a2] [(.ref a1)])) rfl rfl (hb hby d12_26)
  refine Go.st (f' := (mkF m 29 #[rv a1, rv a2, rv a2] [(.int 0)])) (fun _ k => st4 _ k) ?_
  refine Go.st (f' := (mkF m 30 #[rv a1, rv a2, rv a2] [(.ref a2), (.int 0)])) (fun _ k => XS.aloadN X4.here hx rfl (hb hby d12_29) rfl rfl k) ?_
  obtain ⟨T5, X5, e5, st5⟩ := getF X4 hx hZ hown (host := "") (Or.inl (hw _ (List.mem_of_getElem? (i := 59) rfl))) Via.refl e4 F_a2_coder (g := (mkF m 30 #[rv a1, rv a2, rv a2] [(.ref a2), (.int 0)])) rfl rfl (hb hby d12_30)
  refine Go.st (f' := (mkF m 33 #[rv a1, rv a2, rv a2] [(.int 0), (.int 0)])) (fun _ k => st5 _ k) ?_
  refine Go.st (f' := (mkF m 36 #[rv a1, rv a2, rv a2] [])) (fun _ k => XS.icmpNo X5.here hx rfl (hb hby d12_33) rfl (by decide) k) ?_
  refine Go.st (f' := (mkF m 37 #[rv a1, rv a2, rv a2] [(.ref a1)])) (fun _ k => XS.aloadN X5.here hx rfl (hb hby d12_36) rfl rfl k) ?_
  obtain ⟨T6, X6, e6, st6⟩ := getF X5 hx hZ hown (host := "") (Or.inl (hw _ (List.mem_of_getElem? (i := 61) rfl))) Via.refl e5 F_a1_value (g := (mkF m 37 #[rv a1, rv a2, rv a2] [(.ref a1)])) rfl rfl (hb hby d12_37)
  refine Go.st (f' := (mkF m 40 #[rv a1, rv a2, rv a2] [(.ref t1)])) (fun _ k => st6 _ k) ?_
  refine Go.st (f' := (mkF m 41 #[rv a1, rv a2, rv a2] [(.ref a2), (.ref t1)])) (fun _ k => XS.aloadN X6.here hx rfl (hb hby d12_40) rfl rfl k) ?_
  obtain ⟨T7, X7, e7, st7⟩ := getF X6 hx hZ hown (host := "") (Or.inl (hw _ (List.mem_of_getElem? (i := 61) rfl))) Via.refl e6 F_a2_value (g := (mkF m 41 #[rv a1, rv a2, rv a2] [(.ref a2), (.ref t1)])) rfl rfl (hb hby d12_41)
  refine Go.st (f' := (mkF m 44 #[rv a1, rv a2, rv a2] [(.ref t2), (.ref t1)])) (fun _ k => st7 _ k) ?_
  obtain ⟨_, _, ⟨T8, L8, kk8, nn8⟩, -, X8, ⟨Lc8, hQ8, lq8, yq8, zz8⟩, st8⟩ := Jvm.LawKit.callS X7 hx (y := (⟨"java/lang/StringLatin1", "equals", "([B[B)Z"⟩ : MethodName)) hown (mvT hZ (hw _ (List.mem_of_getElem? (i := 71) rfl))) (mvT hZ (hw _ (List.mem_of_getElem? (i := 72) rfl))) (mvT hZ (hw _ (List.mem_of_getElem? (i := 73) rfl))) (mvT hZ (hw _ (List.mem_of_getElem? (i := 74) rfl))) (by decide) (own_back (W := 0) (el_2_2 l Z a0 hw [] t1 k1 t2 k2 x0 x1 y0 y1 h0 n0 O0 V_t1 V_t2) hZ (hw _ (List.mem_of_getElem? (i := 74) rfl)) (hw _ (List.mem_of_getElem? (i := 73) rfl)) (by decide) (by decide)) (g := (mkF m 44 #[rv a1, rv a2, rv a2] [(.ref t2), (.ref t1)])) rfl (by rw [hml]; rfl) (argsL := [(.ref t1), (.ref t2)]) (rest := []) (lenOf pd___B_B_Z rfl) rfl (by show 2 * 0 + _ ≤ _; exact Nat.le_of_eq rfl) (hb hby d12_44) (fun _ _ => ⟨rfl, e7, (by decide : 0 + 0 ≤ _), (by decide : 0 + 0 ≤ _)⟩)
  dsimp only [Pt.U, Pt.locs, Pt.cells, Pt.slots] at X8 lq8 yq8 zz8 st8 hQ8
  subst lq8 yq8 zz8
  obtain ⟨rfl, Nq8, kq8⟩ := hQ8
  have N8 := Fr.app N0 Nq8
  refine Go.st (f' := (mkF m 47 #[rv a1, rv a2, rv a2] [(.int (elI_2_2 x0 x1 y0 y1))])) (fun _ k => st8 _ k) ?_
  by_cases cd9 : (elI_2_2 x0 x1 y0 y1) = (0 : Int32)
  · refine Go.st (f' := (mkF m 54 #[rv a1, rv a2, rv a2] [])) (fun _ k => XS.ifYes X8.here hx rfl (pc0 := 47) (pc' := 54) rfl (hb hby d12_47) rfl ((if0 _ _).trans (teq cd9).1) (by decide) (by decide) k) ?_
    refine Go.st (f' := (mkF m 55 #[rv a1, rv a2, rv a2] [(.int 0)])) (fun _ k => XS.iconst X8.here hx rfl (hb hby d12_54) k) ?_
    refine Go.retB X8 hlk hx (t := .boolean) hret (by simp) (hb hby d12_55) kq8 ?_ (by decide) (by decide)
    show (some (.int (0 : Int32)) : Option Value) = some (.int (eqI_2_2 x0 x1 y0 y1)) ∧ _
    exact ⟨by rw [eqI_2_2, if_pos cd9], N8, rfl⟩
  · refine Go.st (f' := (mkF m 50 #[rv a1, rv a2, rv a2] [])) (fun _ k => XS.ifNo X8.here hx rfl (hb hby d12_47) rfl ((if0 _ _).trans (feq cd9).1) k) ?_
    refine Go.st (f' := (mkF m 51 #[rv a1, rv a2, rv a2] [(.int 1)])) (fun _ k => XS.iconst X8.here hx rfl (hb hby d12_50) k) ?_
    refine Go.st (f' := (mkF m 55 #[rv a1, rv a2, rv a2] [(.int 1)])) (fun _ k => XS.goto X8.here hx rfl (pc0 := 51) (pc' := 55) rfl (hb hby d12_51) (by decide) (by decide) k) ?_
    refine Go.retB X8 hlk hx (t := .boolean) hret (by simp) (hb hby d12_55) kq8 ?_ (by decide) (by decide)
    show (some (.int (1 : Int32)) : Option Value) = some (.int (eqI_2_2 x0 x1 y0 y1)) ∧ _
    exact ⟨by rw [eqI_2_2, if_neg cd9], N8, rfl⟩
set_option maxRecDepth 65536 in
set_option maxHeartbeats 40000000 in
theorem eq_0_N (l : Launch) (Z : State) (a0 : Array Value) (hw : ∀ d ∈ tables_1, d.before a0 Z = true) (ws : List Jvm.Cond) (a1 : Addr) (i_COMPACT_STRINGS : Int32) (v_SIOOBE_FORMATTER : Value) (h0 : Heap) (n0 : Nat) (O0 : Old Z n0 h0) (WW : World1 Z i_COMPACT_STRINGS v_SIOOBE_FORMATTER) :
    Con l Z (⟨"java/lang/String", "equals", "(Ljava/lang/Object;)Z"⟩ : MethodName) jdk_42_method_66_code 3 (some .boolean) ws ({ frames := 0, cells := 0, slots := 0, locals := 0 } : Room) #[(.ref a1), .null] h0 (fun v h L => v = some (.int 0) ∧ Fr n0 L ∧ h = h0) := by
  refine own_body (plainFor_of_name pn_java_lang_String) ?_
  intro p e s m below meth c s₁ hx hby hml hZ hown hnm hlk hret X0 e0
  have N0 := Fr.nil n0
  refine Go.st (T' := s₁) (f' := (mkF m 0 #[rv a1, .val .null, .unset] [])) (fun _ k => castTop (by first | (simp [entryFrame, mkF, argsToLocals, Value.category]; done) | rfl) k) ?_
  have ⟨S_i_COMPACT_STRINGS, nz_i_COMPACT_STRINGS, S_v_SIOOBE_FORMATTER, r_v_SIOOBE_FORMATTER⟩ := WW
  refine Go.st (f' := (mkF m 1 #[rv a1, .val .null, .unset] [(.ref a1)])) (fun _ k => XS.aloadN X0.here hx rfl (hb hby d12_0) rfl rfl k) ?_
  refine Go.st (f' := (mkF m 2 #[rv a1, .val .null, .unset] [.null, (.ref a1)])) (fun _ k => XS.aloadN X0.here hx rfl (hb hby d12_1) rfl rfl k) ?_
  refine Go.st (f' := (mkF m 7 #[rv a1, .val .null, .unset] [])) (fun _ k => Jvm.RoadKit.acmp (g := (mkF m 2 #[rv a1, .val .null, .unset] [.null, (.ref a1)])) X0 hx rfl rfl rfl (pc0 := 2) (pc' := 7) (same := false) rfl (hb hby d12_2) rfl (decide_eq_false nofun) (by decide) (by decide) k) ?_
  refine Go.st (f' := (mkF m 8 #[rv a1, .val .null, .unset] [.null])) (fun _ k => XS.aloadN X0.here hx rfl (hb hby d12_7) rfl rfl k) ?_
  refine Go.st (f' := (mkF m 11 #[rv a1, .val .null, .unset] [(.int 0)])) (fun _ k => X0.instanceofNull hx (g := (mkF m 8 #[rv a1, .val .null, .unset] [.null])) rfl rfl (hb hby d12_8) _ k) ?_
  refine Go.st (f' := (mkF m 54 #[rv a1, .val .null, .unset] [])) (fun _ k => XS.ifYes X0.here hx rfl (pc0 := 11) (pc' := 54) rfl (hb hby d12_11) rfl (by decide) (by decide) (by decide) k) ?_
  refine Go.st (f' := (mkF m 55 #[rv a1, .val .null, .unset] [(.int 0)])) (fun _ k => XS.iconst X0.here hx rfl (hb hby d12_54) k) ?_
  refine Go.retB X0 hlk hx (t := .boolean) hret (by simp) (hb hby d12_55) e0 ?_ (by decide) (by decide)
  exact ⟨rfl, N0, rfl⟩
set_option maxRecDepth 65536 in
set_option maxHeartbeats 40000000 in
theorem eq_1_N (l : Launch) (Z : State) (a0 : Array Value) (hw : ∀ d ∈ tables_1, d.before a0 Z = true) (ws : List Jvm.Cond) (a1 : Addr) (i_COMPACT_STRINGS : Int32) (v_SIOOBE_FORMATTER : Value) (h0 : Heap) (n0 : Nat) (O0 : Old Z n0 h0) (WW : World1 Z i_COMPACT_STRINGS v_SIOOBE_FORMATTER) :
    Con l Z (⟨"java/lang/String", "equals", "(Ljava/lang/Object;)Z"⟩ : MethodName) jdk_42_method_66_code 3 (some .boolean) ws ({ frames := 0, cells := 0, slots := 0, locals := 0 } : Room) #[(.ref a1), .null] h0 (fun v h L => v = some (.int 0) ∧ Fr n0 L ∧ h = h0) := by
  refine own_body (plainFor_of_name pn_java_lang_String) ?_
  intro p e s m below meth c s₁ hx hby hml hZ hown hnm hlk hret X0 e0
  have N0 := Fr.nil n0
  refine Go.st (T' := s₁) (f' := (mkF m 0 #[rv a1, .val .null, .unset] [])) (fun _ k => castTop (by first | (simp [entryFrame, mkF, argsToLocals, Value.category]; done) | rfl) k) ?_
  have ⟨S_i_COMPACT_STRINGS, nz_i_COMPACT_STRINGS, S_v_SIOOBE_FORMATTER, r_v_SIOOBE_FORMATTER⟩ := WW
  refine Go.st (f' := (mkF m 1 #[rv a1, .val .null, .unset] [(.ref a1)])) (fun _ k => XS.aloadN X0.here hx rfl (hb hby d12_0) rfl rfl k) ?_
  refine Go.st (f' := (mkF m 2 #[rv a1, .val .null, .unset] [.null, (.ref a1)])) (fun _ k => XS.aloadN X0.here hx rfl (hb hby d12_1) rfl rfl k) ?_
  refine Go.st (f' := (mkF m 7 #[rv a1, .val .null, .unset] [])) (fun _ k => Jvm.RoadKit.acmp (g := (mkF m 2 #[rv a1, .val .null, .unset] [.null, (.ref a1)])) X0 hx rfl rfl rfl (pc0 := 2) (pc' := 7) (same := false) rfl (hb hby d12_2) rfl (decide_eq_false nofun) (by decide) (by decide) k) ?_
  refine Go.st (f' := (mkF m 8 #[rv a1, .val .null, .unset] [.null])) (fun _ k => XS.aloadN X0.here hx rfl (hb hby d12_7) rfl rfl k) ?_
  refine Go.st (f' := (mkF m 11 #[rv a1, .val .null, .unset] [(.int 0)])) (fun _ k => X0.instanceofNull hx (g := (mkF m 8 #[rv a1, .val .null, .unset] [.null])) rfl rfl (hb hby d12_8) _ k) ?_
  refine Go.st (f' := (mkF m 54 #[rv a1, .val .null, .unset] [])) (fun _ k => XS.ifYes X0.here hx rfl (pc0 := 11) (pc' := 54) rfl (hb hby d12_11) rfl (by decide) (by decide) (by decide) k) ?_
  refine Go.st (f' := (mkF m 55 #[rv a1, .val .null, .unset] [(.int 0)])) (fun _ k => XS.iconst X0.here hx rfl (hb hby d12_54) k) ?_
  refine Go.retB X0 hlk hx (t := .boolean) hret (by simp) (hb hby d12_55) e0 ?_ (by decide) (by decide)
  exact ⟨rfl, N0, rfl⟩
set_option maxRecDepth 65536 in
set_option maxHeartbeats 40000000 in
theorem eq_2_N (l : Launch) (Z : State) (a0 : Array Value) (hw : ∀ d ∈ tables_1, d.before a0 Z = true) (ws : List Jvm.Cond) (a1 : Addr) (i_COMPACT_STRINGS : Int32) (v_SIOOBE_FORMATTER : Value) (h0 : Heap) (n0 : Nat) (O0 : Old Z n0 h0) (WW : World1 Z i_COMPACT_STRINGS v_SIOOBE_FORMATTER) :
    Con l Z (⟨"java/lang/String", "equals", "(Ljava/lang/Object;)Z"⟩ : MethodName) jdk_42_method_66_code 3 (some .boolean) ws ({ frames := 0, cells := 0, slots := 0, locals := 0 } : Room) #[(.ref a1), .null] h0 (fun v h L => v = some (.int 0) ∧ Fr n0 L ∧ h = h0) := by
  refine own_body (plainFor_of_name pn_java_lang_String) ?_
  intro p e s m below meth c s₁ hx hby hml hZ hown hnm hlk hret X0 e0
  have N0 := Fr.nil n0
  refine Go.st (T' := s₁) (f' := (mkF m 0 #[rv a1, .val .null, .unset] [])) (fun _ k => castTop (by first | (simp [entryFrame, mkF, argsToLocals, Value.category]; done) | rfl) k) ?_
  have ⟨S_i_COMPACT_STRINGS, nz_i_COMPACT_STRINGS, S_v_SIOOBE_FORMATTER, r_v_SIOOBE_FORMATTER⟩ := WW
  refine Go.st (f' := (mkF m 1 #[rv a1, .val .null, .unset] [(.ref a1)])) (fun _ k => XS.aloadN X0.here hx rfl (hb hby d12_0) rfl rfl k) ?_
  refine Go.st (f' := (mkF m 2 #[rv a1, .val .null, .unset] [.null, (.ref a1)])) (fun _ k => XS.aloadN X0.here hx rfl (hb hby d12_1) rfl rfl k) ?_
  refine Go.st (f' := (mkF m 7 #[rv a1, .val .null, .unset] [])) (fun _ k => Jvm.RoadKit.acmp (g := (mkF m 2 #[rv a1, .val .null, .unset] [.null, (.ref a1)])) X0 hx rfl rfl rfl (pc0 := 2) (pc' := 7) (same := false) rfl (hb hby d12_2) rfl (decide_eq_false nofun) (by decide) (by decide) k) ?_
  refine Go.st (f' := (mkF m 8 #[rv a1, .val .null, .unset] [.null])) (fun _ k => XS.aloadN X0.here hx rfl (hb hby d12_7) rfl rfl k) ?_
  refine Go.st (f' := (mkF m 11 #[rv a1, .val .null, .unset] [(.int 0)])) (fun _ k => X0.instanceofNull hx (g := (mkF m 8 #[rv a1, .val .null, .unset] [.null])) rfl rfl (hb hby d12_8) _ k) ?_
  refine Go.st (f' := (mkF m 54 #[rv a1, .val .null, .unset] [])) (fun _ k => XS.ifYes X0.here hx rfl (pc0 := 11) (pc' := 54) rfl (hb hby d12_11) rfl (by decide) (by decide) (by decide) k) ?_
  refine Go.st (f' := (mkF m 55 #[rv a1, .val .null, .unset] [(.int 0)])) (fun _ k => XS.iconst X0.here hx rfl (hb hby d12_54) k) ?_
  refine Go.retB X0 hlk hx (t := .boolean) hret (by simp) (hb hby d12_55) e0 ?_ (by decide) (by decide)
  exact ⟨rfl, N0, rfl⟩
def Sp (Z : State) (h : Heap) (a : Addr) (n : Int32) (es : List Value) : Prop :=
  Exa Z h a "java/lang/String" ∧ Fld Z h a "java/lang/String" "coder" "B" (.int (0 : Int32)) ∧ ∃ (t : Addr) (kt : ClassId), Fld Z h a "java/lang/String" "value" "[B" (.ref t) ∧ Arv Z h t kt .byte n es (.int (0 : Int32))
/-- what the law's name(md, x, y) hands back -/
def Nm (Z : State) (h : Heap) (v : Value) (md x y : Int32) : Prop :=
  (md = (0 : Int32) ∧ v = .null) ∨ (md = (1 : Int32) ∧ ∃ a, v = .ref a ∧ Sp Z h a (0 : Int32) []) ∨ (md = (2 : Int32) ∧ ∃ a, v = .ref a ∧ Sp Z h a (1 : Int32) [(.int (nar .byte ((nar .char x).toInt8.toInt32)))]) ∨ (md = (3 : Int32) ∧ ∃ a, v = .ref a ∧ Sp Z h a (2 : Int32) [(.int (nar .byte ((nar .char x).toInt8.toInt32))), (.int (nar .byte ((nar .char y).toInt8.toInt32)))])
theorem Nm.map {Z : State} {h h' : Heap} {v : Value} {md x y : Int32} (N : Nm Z h v md x y) (f : ∀ a n es, v = .ref a → Sp Z h a n es → Sp Z h' a n es) : Nm Z h' v md x y := by
  rcases N with q | ⟨q, a, r, s⟩ | ⟨q, a, r, s⟩ | ⟨q, a, r, s⟩
  · exact Or.inl q
  · exact Or.inr (Or.inl ⟨q, a, r, f _ _ _ r s⟩)
  · exact Or.inr (Or.inr (Or.inl ⟨q, a, r, f _ _ _ r s⟩))
  · exact Or.inr (Or.inr (Or.inr ⟨q, a, r, f _ _ _ r s⟩))
theorem Nm.ext {Z : State} {h h' : Heap} {v : Value} {md x y : Int32} (N : Nm Z h v md x y) (E : Ext h h') : Nm Z h' v md x y :=
  N.map fun _ _ _ _ ⟨e, c, t, kt, f, w⟩ => ⟨e.ext E, c.ext E, t, kt, f.ext E, w.ext E⟩
theorem Nm.keep0 {Z : State} {h h' : Heap} {v : Value} {md x y : Int32} (N : Nm Z h v md x y) (K : Keep h h' []) : Nm Z h' v md x y :=
  N.map fun _ _ _ _ ⟨e, c, t, kt, f, w⟩ => ⟨e.keep K, c.keep K nin0, t, kt, f.keep K nin0, w.keep K nin0⟩
theorem Nm.keep1 {Z : State} {h h' : Heap} {v : Value} {md x y : Int32} {b : Addr} {C : String} {n : Nat} {a0 : Array Value} (N : Nm Z h v md x y) (K : Keep h h' [b]) (B : Exa Z h b C) (hC : C ≠ "java/lang/String") (wi : (Cond.instantiable C n).before a0 Z = true) : Nm Z h' v md x y :=
  N.map fun a _ _ _ ⟨e, c, t, kt, f, w⟩ => by
    have na : a ≠ b := Exa.ne e B (Ne.symm hC)
    have nt : t ≠ b := Ne.symm (Exa.neArv B w wi)
    exact ⟨e.keep K, c.keep K (ninS na nin0), t, kt, f.keep K (ninS na nin0), w.keep K (ninS nt nin0)⟩
theorem Nm.lt {Z : State} {h : Heap} {v : Value} {md x y : Int32} {a : Addr} (N : Nm Z h v md x y) (r : v = .ref a) : a < h.size := by
  rcases N with ⟨-, q⟩ | ⟨-, b, q, s⟩ | ⟨-, b, q, s⟩ | ⟨-, b, q, s⟩ <;> cases q.symm.trans r <;> exact s.1.lt
theorem Nm.isRef {Z : State} {h : Heap} {v : Value} {md x y : Int32} (N : Nm Z h v md x y) : v.isRef = true := by
  rcases N with ⟨-, q⟩ | ⟨-, b, q, s⟩ | ⟨-, b, q, s⟩ | ⟨-, b, q, s⟩ <;> subst q <;> rfl
theorem Nm.two {Z : State} {h : Heap} {v : Value} {x y : Int32} (N : Nm Z h v (2 : Int32) x y) : ∃ a, v = .ref a ∧ Exa Z h a "java/lang/String" := by
  rcases N with ⟨q, -⟩ | ⟨q, -⟩ | ⟨-, b, q, s⟩ | ⟨q, -⟩
  · exact absurd q (by decide)
  · exact absurd q (by decide)
  · exact ⟨b, q, s.1⟩
  · exact absurd q (by decide)
def Nw (h0 : Heap) (v : Value) : Prop := ∀ a, v = .ref a → h0.size ≤ a
def Dn (u v : Value) : Prop := ∀ a b, u = .ref a → v = .ref b → a ≠ b
theorem Dn.symm {u v : Value} (h : Dn u v) : Dn v u := fun a b q r e => h b a r q e.symm
theorem own_no {Z : State} {a0 : Array Value} {C O K : String} {n : Nat} (w : (Cond.superclass C O).before a0 Z = true) (w0 : (Cond.noSuperclass O).before a0 Z = true) (wk : (Cond.instantiable K n).before a0 Z = true) (h1 : C ≠ K) (h2 : O ≠ K) : ∃ c t, Z.vm.findClass C = some c ∧ Z.vm.findClass K = some t ∧ Z.vm.assignable c t = false := by
  obtain ⟨c, f1⟩ := found_sup w
  obtain ⟨p, k, kp, g1, g2, g3, g4, g5, -, g6⟩ := Cond.superclass_spec f1 w
  obtain ⟨o, ko, o1, o2, o3, -, -⟩ := Cond.noSuperclass_spec w0
  cases g1.symm.trans o1
  obtain ⟨t, kt, t1, t2, t3, t4, -, -⟩ := Cond.instantiable_spec wk
  have n1 := ids_ne f1 t1 h1
  have n2 := ids_ne o1 t1 h2
  have t5 : kt.isInterface = false := by
    cases q : kt.isInterface with
    | false => rfl
    | true => rw [q] at t4; simp at t4
  refine ⟨c, t, f1, t1, ?_⟩
  have s1 : ∀ fuel, Z.vm.isSubclassAux fuel p t = false := fun fuel => by
    cases fuel with
    | zero => rfl
    | succ f => simp [Vm.isSubclassAux, n2, o2, o3]
  have s2 : ∀ fuel, Z.vm.isSubclassAux fuel c t = false := fun fuel => by
    cases fuel with
    | zero => rfl
    | succ f => simp [Vm.isSubclassAux, n1, g2, g4, s1]
  show Z.vm.assignableAux (255 + 1) c t = false
  simp [Vm.assignableAux, n1, g2, t2, g5, t3, t5, Vm.isSubclass, s2]
def ueI (i j m n a b c d : Int32) : Int32 := if i = j ∧ m = n ∧ (m < (2 : Int32) ∨ a = c) ∧ (m < (3 : Int32) ∨ b = d) then (1 : Int32) else (0 : Int32)
theorem ueI_comm (i j m n a b c d : Int32) : ueI i j m n a b c d = ueI j i n m c d a b := by
  have e : (i = j ∧ m = n ∧ (m < (2 : Int32) ∨ a = c) ∧ (m < (3 : Int32) ∨ b = d)) ↔ (j = i ∧ n = m ∧ (n < (2 : Int32) ∨ c = a) ∧ (n < (3 : Int32) ∨ d = b)) := by
    constructor
    · rintro ⟨rfl, rfl, h1, h2⟩; exact ⟨rfl, rfl, h1.imp id Eq.symm, h2.imp id Eq.symm⟩
    · rintro ⟨rfl, rfl, h1, h2⟩; exact ⟨rfl, rfl, h1.imp id Eq.symm, h2.imp id Eq.symm⟩
  unfold ueI
  by_cases q : (i = j ∧ m = n ∧ (m < (2 : Int32) ∨ a = c) ∧ (m < (3 : Int32) ∨ b = d))
  · rw [if_pos q, if_pos (e.mp q)]
  · rw [if_neg q, if_neg (fun z => q (e.mpr z))]
theorem own_r3 (x : Int32) : 0 ≤ (x &&& (3 : Int32)).toInt ∧ (x &&& (3 : Int32)).toInt ≤ 3 := by
  have h := c_and x 3 (by decide)
  have e : (3 : Int32).toInt = 3 := by decide
  omega
theorem own_md3 {m : Int32} (h : 0 ≤ m.toInt ∧ m.toInt ≤ 3) (h0 : ¬ m = (0 : Int32)) (h1 : ¬ m = (1 : Int32)) (h2 : ¬ m = (2 : Int32)) : m = (3 : Int32) := by
  rw [← Int32.toInt_inj] at h0 h1 h2 ⊢
  have e0 : (0 : Int32).toInt = 0 := by decide
  have e1 : (1 : Int32).toInt = 1 := by decide
  have e2 : (2 : Int32).toInt = 2 := by decide
  have e3 : (3 : Int32).toInt = 3 := by decide
  omega
theorem own_nc {c : Int32} (h : ¬ (255 : Int32) < c) (h0 : 0 ≤ c.toInt) : ¬ (255 : Int32) < nar .char c := by
  have q := c_i2c c
  show ¬ (255 : Int32) < c.toUInt32.toUInt16.toUInt32.toInt32
  have e : (255 : Int32).toInt = 255 := by decide
  rw [Int32.lt_iff_toInt_lt] at h ⊢
  omega
theorem own_b (x : Int32) : ¬ (255 : Int32) < (x &&& (255 : Int32)).toUInt32.toUInt16.toUInt32.toInt32 ∧ 0 ≤ ((x &&& (255 : Int32)).toUInt32.toUInt16.toUInt32.toInt32).toInt := by
  rw [i2c_mask]
  have h := c_and x 255 (by decide)
  refine ⟨?_, h.1⟩
  rw [Int32.lt_iff_toInt_lt]
  omega
theorem own_lb {c d : Int32} (h1 : ¬ (255 : Int32) < c ∧ 0 ≤ c.toInt) (h2 : ¬ (255 : Int32) < d ∧ 0 ≤ d.toInt) : (nar .byte ((nar .char c).toInt8.toInt32)) = (nar .byte ((nar .char d).toInt8.toInt32)) ↔ c = d := by
  constructor
  · intro e
    have e : ((c.toUInt32.toUInt16.toUInt32.toInt32).toInt8.toInt32).toInt8.toInt32 = ((d.toUInt32.toUInt16.toUInt32.toInt32).toInt8.toInt32).toInt8.toInt32 := e
    have a1 := c_i2c c
    have a2 := c_i2c d
    generalize c.toUInt32.toUInt16.toUInt32.toInt32 = c1 at *
    generalize d.toUInt32.toUInt16.toUInt32.toInt32 = d1 at *
    have b1 := c_i2b c1
    have b2 := c_i2b d1
    generalize c1.toInt8.toInt32 = c2 at *
    generalize d1.toInt8.toInt32 = d2 at *
    have g1 := c_i2b c2
    have g2 := c_i2b d2
    rw [e] at g1
    have e255 : (255 : Int32).toInt = 255 := by decide
    have l1 := h1.1
    have l2 := h2.1
    rw [Int32.lt_iff_toInt_lt] at l1 l2
    rw [← Int32.toInt_inj]
    omega
  · rintro rfl; rfl
theorem pn_com_example_wirecall_wirecall_demo_UserEqualsPinLaw : plainName "com/example/wirecall/wirecall/demo/UserEqualsPinLaw" = true := by first | (simp [plainName, overriddenIn]; done) | decide +kernel
theorem d3_0 : decode method_2_code 0 = .ok (.iload_n 0, 1) := by decide +kernel
theorem d3_1 : decode method_2_code 1 = .ok (.ifCond .ne 5, 3) := by decide +kernel
theorem d3_4 : decode method_2_code 4 = .ok (.aconst_null, 1) := by decide +kernel
theorem d3_5 : decode method_2_code 5 = .ok (.areturn, 1) := by decide +kernel
theorem d3_6 : decode method_2_code 6 = .ok (.iload_n 0, 1) := by decide +kernel
theorem d3_7 : decode method_2_code 7 = .ok (.iconst 1, 1) := by decide +kernel
theorem d3_8 : decode method_2_code 8 = .ok (.if_icmp .ne 14, 3) := by decide +kernel
theorem d3_11 : decode method_2_code 11 = .ok (.new 7, 3) := by decide +kernel
theorem d3_14 : decode method_2_code 14 = .ok (.dup, 1) := by decide +kernel
theorem d3_15 : decode method_2_code 15 = .ok (.iconst 0, 1) := by decide +kernel
theorem d3_16 : decode method_2_code 16 = .ok (.newarray .char, 2) := by decide +kernel
theorem d3_18 : decode method_2_code 18 = .ok (.invokespecial 9, 3) := by decide +kernel
theorem pd___C_V : parseMethodDescriptor "([C)V" = some ⟨[(.array .char)], none⟩ := by decide +kernel
theorem d3_21 : decode method_2_code 21 = .ok (.areturn, 1) := by decide +kernel
theorem d3_22 : decode method_2_code 22 = .ok (.iload_n 0, 1) := by decide +kernel
theorem d3_23 : decode method_2_code 23 = .ok (.iconst 2, 1) := by decide +kernel
theorem d3_24 : decode method_2_code 24 = .ok (.if_icmp .ne 18, 3) := by decide +kernel
theorem d3_27 : decode method_2_code 27 = .ok (.new 7, 3) := by decide +kernel
theorem d3_30 : decode method_2_code 30 = .ok (.dup, 1) := by decide +kernel
theorem d3_31 : decode method_2_code 31 = .ok (.iconst 1, 1) := by decide +kernel
theorem d3_32 : decode method_2_code 32 = .ok (.newarray .char, 2) := by decide +kernel
theorem d3_34 : decode method_2_code 34 = .ok (.dup, 1) := by decide +kernel
theorem d3_35 : decode method_2_code 35 = .ok (.iconst 0, 1) := by decide +kernel
theorem d3_36 : decode method_2_code 36 = .ok (.iload_n 1, 1) := by decide +kernel
theorem d3_37 : decode method_2_code 37 = .ok (.castore, 1) := by decide +kernel
theorem d3_38 : decode method_2_code 38 = .ok (.invokespecial 9, 3) := by decide +kernel
theorem d3_41 : decode method_2_code 41 = .ok (.areturn, 1) := by decide +kernel
theorem d3_42 : decode method_2_code 42 = .ok (.new 7, 3) := by decide +kernel
theorem d3_45 : decode method_2_code 45 = .ok (.dup, 1) := by decide +kernel
theorem d3_46 : decode method_2_code 46 = .ok (.iconst 2, 1) := by decide +kernel
theorem d3_47 : decode method_2_code 47 = .ok (.newarray .char, 2) := by decide +kernel
theorem d3_49 : decode method_2_code 49 = .ok (.dup, 1) := by decide +kernel
theorem d3_50 : decode method_2_code 50 = .ok (.iconst 0, 1) := by decide +kernel
theorem d3_51 : decode method_2_code 51 = .ok (.iload_n 1, 1) := by decide +kernel
theorem d3_52 : decode method_2_code 52 = .ok (.castore, 1) := by decide +kernel
theorem d3_53 : decode method_2_code 53 = .ok (.dup, 1) := by decide +kernel
theorem d3_54 : decode method_2_code 54 = .ok (.iconst 1, 1) := by decide +kernel
theorem d3_55 : decode method_2_code 55 = .ok (.iload_n 2, 1) := by decide +kernel
theorem d3_56 : decode method_2_code 56 = .ok (.castore, 1) := by decide +kernel
theorem d3_57 : decode method_2_code 57 = .ok (.invokespecial 9, 3) := by decide +kernel
theorem d3_60 : decode method_2_code 60 = .ok (.areturn, 1) := by decide +kernel
set_option maxRecDepth 65536 in
set_option maxHeartbeats 40000000 in
theorem rmN (l : Launch) (Z : State) (a0 : Array Value) (hw : ∀ d ∈ tables_1, d.before a0 Z = true) (ws : List Jvm.Cond) (md : Int32) (c0 : Int32) (c1 : Int32) (i_COMPACT_STRINGS : Int32) (v_SIOOBE_FORMATTER : Value) (h0 : Heap) (n0 : Nat) (O0 : Old Z n0 h0) (hmd : 0 ≤ md.toInt ∧ md.toInt ≤ 3) (hc0 : ¬ (255 : Int32) < c0 ∧ 0 ≤ c0.toInt) (hc1 : ¬ (255 : Int32) < c1 ∧ 0 ≤ c1.toInt) (WW : World1 Z i_COMPACT_STRINGS v_SIOOBE_FORMATTER) :
    ConW l Z EL (⟨"com/example/wirecall/wirecall/demo/UserEqualsPinLaw", "name", "(ICC)Ljava/lang/String;"⟩ : MethodName) method_2_code 3 (some (.object "java/lang/String")) ws ({ frames := 4, cells := 6, slots := 12, locals := 66 } : Room) #[(.int md), (.int c0), (.int c1)] h0 (fun v h L => ∃ nv : Value, v = some nv ∧ Fr n0 L ∧ Keep h0 h [] ∧ Nm Z h nv md c0 c1 ∧ Nw h0 nv) := by
  refine own_bodyW (plainFor_of_name pn_com_example_wirecall_wirecall_demo_UserEqualsPinLaw) ?_
  intro p e s m below meth c s₁ hx hby hml hZ hown hnm hlk hret X0 e0 hh hS CR0
  have hEL := own_EL hw
  have wS := own_wS hw
  have N0 := Fr.nil n0
  have K0 : Keep h0 h0 [] := Keep.refl _ _
  refine Go.st (T' := s₁) (f' := (mkF m 0 #[iv md, iv c0, iv c1] [])) (fun _ k => castTop (by first | (simp [entryFrame, mkF, argsToLocals, Value.category]; done) | rfl) k) ?_
  have ⟨S_i_COMPACT_STRINGS, nz_i_COMPACT_STRINGS, S_v_SIOOBE_FORMATTER, r_v_SIOOBE_FORMATTER⟩ := WW
  refine Go.st (f' := (mkF m 1 #[iv md, iv c0, iv c1] [(.int md)])) (fun _ k => XS.iloadN X0.here hx rfl (hb hby d3_0) rfl k) ?_
  by_cases cd1 : md = (0 : Int32)
  · refine Go.st (f' := (mkF m 4 #[iv md, iv c0, iv c1] [])) (fun _ k => XS.ifNo X0.here hx rfl (hb hby d3_1) rfl ((if0 _ _).trans (teq cd1).2) k) ?_
    refine Go.st (f' := (mkF m 5 #[iv md, iv c0, iv c1] [.null])) (fun _ k => XS.aconstNull X0.here hx rfl (hb hby d3_4) k) ?_
    refine GoW.retV X0 hlk hx (t := (.object "java/lang/String")) hret rfl (Or.inr (Or.inr (Or.inr (Or.inr ⟨rfl, rfl, rfl⟩)))) (hb hby d3_5) e0 hS (Nat.zero_le _) hZ hEL CR0 hh ?_ (by decide) (by decide)
    exact ⟨.null, rfl, N0, K0, Or.inl ⟨cd1, rfl⟩, fun _ q => nomatch q⟩
  · refine Go.st (f' := (mkF m 6 #[iv md, iv c0, iv c1] [])) (fun _ k => XS.ifYes X0.here hx rfl (pc0 := 1) (pc' := 6) rfl (hb hby d3_1) rfl ((if0 _ _).trans (feq cd1).2) (by decide) (by decide) k) ?_
    refine Go.st (f' := (mkF m 7 #[iv md, iv c0, iv c1] [(.int md)])) (fun _ k => XS.iloadN X0.here hx rfl (hb hby d3_6) rfl k) ?_
    refine Go.st (f' := (mkF m 8 #[iv md, iv c0, iv c1] [(.int 1), (.int md)])) (fun _ k => XS.iconst X0.here hx rfl (hb hby d3_7) k) ?_
    by_cases cd2 : md = (1 : Int32)
    · refine Go.st (f' := (mkF m 11 #[iv md, iv c0, iv c1] [])) (fun _ k => XS.icmpNo X0.here hx rfl (hb hby d3_8) rfl (teq cd2).2 k) ?_
      obtain ⟨T3, h3, X3, e3, E3, A3, D3, -, st3⟩ := newO X0 hx hZ hown (hw _ (List.mem_of_getElem? (i := 35) rfl)) (hw _ (List.mem_of_getElem? (i := 36) rfl)) (hw _ (List.mem_of_getElem? (i := 37) rfl)) e0 (g := (mkF m 11 #[iv md, iv c0, iv c1] [])) rfl (hb hby d3_11) (by decide) (by decide)
      obtain ⟨b3, g3⟩ : ∃ z, z = h0.size := ⟨_, rfl⟩
      rw [← g3] at A3 D3 st3
      have g_b3 : n0 ≤ b3 := Nat.le_trans (O0.1 ▸ O0.2.1) (Nat.le_of_eq g3.symm)
      have O3 : Old Z n0 h3 := O0.ext E3
      have sz_b3 : h0.size ≤ b3 := Nat.le_trans K0.1 (Nat.le_of_eq g3.symm)
      have K3 : Keep h0 h3 [] := K0.ext E3
      have CR3 : CHr Z EL s.vm h0 s.vm h3 := CR0.trans (CHr.ext E3 CR0.1)
      have sf_b3 : Safe Z EL s.vm h3 b3 := (Safe.new (Nat.le_of_eq g3.symm)).ext E3 CR0.1
      have lt_b3 := A3.lt
      have F_coder_b3 : Fld Z h3 b3 "java/lang/String" "coder" "B" (.int (0 : Int32)) := D3 (Or.inr (hw _ (List.mem_of_getElem? (i := 60) rfl))) (ty := .byte) (by decide)
      have F_value_b3 : Fld Z h3 b3 "java/lang/String" "value" "[B" .null := D3 (Or.inr (hw _ (List.mem_of_getElem? (i := 62) rfl))) (ty := (.array .byte)) (by decide)
      refine Go.st (f' := (mkF m 14 #[iv md, iv c0, iv c1] [(.ref b3)])) (fun _ k => st3 _ k) ?_
      refine Go.st (f' := (mkF m 15 #[iv md, iv c0, iv c1] [(.ref b3), (.ref b3)])) (fun _ k => XS.dup X3.here hx rfl (hb hby d3_14) rfl rfl k) ?_
      refine Go.st (f' := (mkF m 16 #[iv md, iv c0, iv c1] [(.int 0), (.ref b3), (.ref b3)])) (fun _ k => XS.iconst X3.here hx rfl (hb hby d3_15) k) ?_
      obtain ⟨T4, h4, kc4, X4, e4, E4, A4, st4⟩ := newP X3 hx hZ (hw _ (List.mem_of_getElem? (i := 38) rfl)) e3 (g := (mkF m 16 #[iv md, iv c0, iv c1] [(.int 0), (.ref b3), (.ref b3)])) rfl (hb hby d3_16) rfl (by decide) (cap := 0) (by decide) (by decide) (by decide) (by decide)
      obtain ⟨b4, g4⟩ : ∃ z, z = h3.size := ⟨_, rfl⟩
      rw [← g4] at A4 st4
      have ne_b3_b4 : b3 ≠ b4 := Nat.ne_of_lt (Nat.lt_of_lt_of_eq lt_b3 g4.symm)
      have g_b4 : n0 ≤ b4 := Nat.le_trans (O3.1 ▸ O3.2.1) (Nat.le_of_eq g4.symm)
      have O4 : Old Z n0 h4 := O3.ext E4
      have sz_b4 : h0.size ≤ b4 := Nat.le_trans K3.1 (Nat.le_of_eq g4.symm)
      have K4 : Keep h0 h4 [] := K3.ext E4
      have CR4 : CHr Z EL s.vm h0 s.vm h4 := CR3.trans (CHr.ext E4 CR3.1)
      have sf_b4 : Safe Z EL s.vm h4 b4 := (Safe.new (Nat.le_of_eq g4.symm)).ext E4 CR3.1
      have V_b4 : Arv Z h4 b4 kc4 .char (0 : Int32) [] (.int (0 : Int32)) := Arv.new A4 (by decide)
      have lt_b4 := V_b4.lt
      refine Go.st (f' := (mkF m 18 #[iv md, iv c0, iv c1] [(.ref b4), (.ref b3), (.ref b3)])) (fun _ k => st4 _ k) ?_
      have ft6 := (A3.ext E4)
      have ft7 := (F_coder_b3.ext E4)
      have ft8 := (F_value_b3.ext E4)
      obtain ⟨_, _, ⟨T5, L5, kk5, nn5⟩, -, Xw5, hSw5, hgw5, ⟨Lc5, hQ5, lq5, yq5, zz5, crw5⟩, st5⟩ := X4.specialBackS hx (y := (⟨"java/lang/String", "<init>", "([C)V"⟩ : MethodName)) rfl hown (mvT hZ (hw _ (List.mem_of_getElem? (i := 39) rfl))) (mvT hZ (hw _ (List.mem_of_getElem? (i := 40) rfl))) (mvT hZ (hw _ (List.mem_of_getElem? (i := 41) rfl))) (by decide) (own_backW (W := 1) (s1_0 l Z a0 hw [] b3 b4 kc4 i_COMPACT_STRINGS v_SIOOBE_FORMATTER h4 n0 O4 g_b3 ft6 ft7 ft8 V_b4 WW) hZ (hw _ (List.mem_of_getElem? (i := 41) rfl)) (hw _ (List.mem_of_getElem? (i := 37) rfl)) (by decide) (by decide) hEL CR4.1) (g := (mkF m 18 #[iv md, iv c0, iv c1] [(.ref b4), (.ref b3), (.ref b3)])) rfl (by rw [hml]; rfl) (Steps.refl _) (a := b3) (argsL := [(.ref b4)]) (rest := [(.ref b3)]) (lenOf pd___C_V rfl) rfl (by show 2 * 0 + _ ≤ _; exact Nat.le_of_eq rfl) (hb hby d3_18) (fun _ _ => ⟨rfl, e4, (by decide : 2 + 4 ≤ _), (by decide : 4 + 8 ≤ _)⟩)
      dsimp only [Pt.U, Pt.locs, Pt.cells, Pt.slots] at Xw5 lq5 yq5 zz5 st5 hQ5 hSw5 hgw5 crw5
      subst lq5 yq5 zz5
      obtain ⟨X5, hS5, hZ5, hown5⟩ := rebS hS (by rw [e4]; exact (Nat.zero_le _)) Xw5 hSw5 hgw5 hZ hown
      obtain ⟨rfl, Nq5, kq5, eq5, cq5, tt5, kt5, fq5, vq5⟩ := hQ5
      have N5 := Fr.app N0 Nq5
      have ft9 := (Safe.ext E4 CR3.1 sf_b3)
      have ft10 := (Nat.lt_of_lt_of_le lt_b3 E4.1)
      have O5 : Old Z n0 T5.heap := O4.keep kq5 (allS g_b3 all0)
      have K5 : Keep h0 T5.heap [] := K4.trans kq5 (allS (Or.inr sz_b3) all0)
      have lt_tt5 := vq5.lt
      have nt_b3_tt5 : b3 ≠ tt5 := Exa.neArv eq5 vq5 (hw _ (List.mem_of_getElem? (i := 36) rfl))
      have ft11 := (V_b4.keep kq5 (ninS (Ne.symm ne_b3_b4) nin0))
      have nt_b4_tt5 : b4 ≠ tt5 := own_neArv ft11 vq5 (by decide)
      have hk5 : T5.heap.size ≤ T5.heap.size := Nat.le_refl _
      have sf12 := crw5.safe ft10 ft9
      have sf13 := crw5.safe lt_b4 sf_b4
      have CR5 := CR4.trans crw5
      refine Go.tr (f' := (mkF m 21 #[iv md, iv c0, iv c1] [(.ref b3)])) st5 ?_
      refine GoW.retV X5 hlk hx (t := (.object "java/lang/String")) hret rfl (Or.inr (Or.inr (Or.inr (Or.inr ⟨rfl, rfl, rfl⟩)))) (hb hby d3_21) rfl hS5 hk5 hZ5 hEL CR5 hh ?_ (by decide) (by decide)
      exact ⟨.ref b3, rfl, N5, K5, Or.inr (Or.inl ⟨cd2, b3, rfl, eq5, cq5, tt5, kt5, fq5, vq5⟩), fun _ q => (Value.ref.inj q) ▸ sz_b3⟩
    · refine Go.st (f' := (mkF m 22 #[iv md, iv c0, iv c1] [])) (fun _ k => XS.icmpYes X0.here hx rfl (pc0 := 8) (pc' := 22) rfl (hb hby d3_8) rfl (feq cd2).2 (by decide) (by decide) k) ?_
      refine Go.st (f' := (mkF m 23 #[iv md, iv c0, iv c1] [(.int md)])) (fun _ k => XS.iloadN X0.here hx rfl (hb hby d3_22) rfl k) ?_
      refine Go.st (f' := (mkF m 24 #[iv md, iv c0, iv c1] [(.int 2), (.int md)])) (fun _ k => XS.iconst X0.here hx rfl (hb hby d3_23) k) ?_
      by_cases cd14 : md = (2 : Int32)
      · refine Go.st (f' := (mkF m 27 #[iv md, iv c0, iv c1] [])) (fun _ k => XS.icmpNo X0.here hx rfl (hb hby d3_24) rfl (teq cd14).2 k) ?_
        obtain ⟨T15, h15, X15, e15, E15, A15, D15, -, st15⟩ := newO X0 hx hZ hown (hw _ (List.mem_of_getElem? (i := 35) rfl)) (hw _ (List.mem_of_getElem? (i := 36) rfl)) (hw _ (List.mem_of_getElem? (i := 37) rfl)) e0 (g := (mkF m 27 #[iv md, iv c0, iv c1] [])) rfl (hb hby d3_27) (by decide) (by decide)
        obtain ⟨b15, g15⟩ : ∃ z, z = h0.size := ⟨_, rfl⟩
        rw [← g15] at A15 D15 st15
        have g_b15 : n0 ≤ b15 := Nat.le_trans (O0.1 ▸ O0.2.1) (Nat.le_of_eq g15.symm)
        have O15 : Old Z n0 h15 := O0.ext E15
        have sz_b15 : h0.size ≤ b15 := Nat.le_trans K0.1 (Nat.le_of_eq g15.symm)
        have K15 : Keep h0 h15 [] := K0.ext E15
        have CR15 : CHr Z EL s.vm h0 s.vm h15 := CR0.trans (CHr.ext E15 CR0.1)
        have sf_b15 : Safe Z EL s.vm h15 b15 := (Safe.new (Nat.le_of_eq g15.symm)).ext E15 CR0.1
        have lt_b15 := A15.lt
        have F_coder_b15 : Fld Z h15 b15 "java/lang/String" "coder" "B" (.int (0 : Int32)) := D15 (Or.inr (hw _ (List.mem_of_getElem? (i := 60) rfl))) (ty := .byte) (by decide)
        have F_value_b15 : Fld Z h15 b15 "java/lang/String" "value" "[B" .null := D15 (Or.inr (hw _ (List.mem_of_getElem? (i := 62) rfl))) (ty := (.array .byte)) (by decide)
        refine Go.st (f' := (mkF m 30 #[iv md, iv c0, iv c1] [(.ref b15)])) (fun _ k => st15 _ k) ?_
        refine Go.st (f' := (mkF m 31 #[iv md, iv c0, iv c1] [(.ref b15), (.ref b15)])) (fun _ k => XS.dup X15.here hx rfl (hb hby d3_30) rfl rfl k) ?_
        refine Go.st (f' := (mkF m 32 #[iv md, iv c0, iv c1] [(.int 1), (.ref b15), (.ref b15)])) (fun _ k => XS.iconst X15.here hx rfl (hb hby d3_31) k) ?_
        obtain ⟨T16, h16, kc16, X16, e16, E16, A16, st16⟩ := newP X15 hx hZ (hw _ (List.mem_of_getElem? (i := 38) rfl)) e15 (g := (mkF m 32 #[iv md, iv c0, iv c1] [(.int 1), (.ref b15), (.ref b15)])) rfl (hb hby d3_32) rfl (by decide) (cap := 1) (by decide) (by decide) (by decide) (by decide)
        obtain ⟨b16, g16⟩ : ∃ z, z = h15.size := ⟨_, rfl⟩
        rw [← g16] at A16 st16
        have ne_b15_b16 : b15 ≠ b16 := Nat.ne_of_lt (Nat.lt_of_lt_of_eq lt_b15 g16.symm)
        have g_b16 : n0 ≤ b16 := Nat.le_trans (O15.1 ▸ O15.2.1) (Nat.le_of_eq g16.symm)
        have O16 : Old Z n0 h16 := O15.ext E16
        have sz_b16 : h0.size ≤ b16 := Nat.le_trans K15.1 (Nat.le_of_eq g16.symm)
        have K16 : Keep h0 h16 [] := K15.ext E16
        have CR16 : CHr Z EL s.vm h0 s.vm h16 := CR15.trans (CHr.ext E16 CR15.1)
        have sf_b16 : Safe Z EL s.vm h16 b16 := (Safe.new (Nat.le_of_eq g16.symm)).ext E16 CR15.1
        have V_b16 : Arv Z h16 b16 kc16 .char (1 : Int32) [(.int (0 : Int32))] (.int (0 : Int32)) := (Arv.new A16 (by decide)).pad (pad_rep [] (.int (0 : Int32)) 1)
        have lt_b16 := V_b16.lt
        refine Go.st (f' := (mkF m 34 #[iv md, iv c0, iv c1] [(.ref b16), (.ref b15), (.ref b15)])) (fun _ k => st16 _ k) ?_
        refine Go.st (f' := (mkF m 35 #[iv md, iv c0, iv c1] [(.ref b16), (.ref b16), (.ref b15), (.ref b15)])) (fun _ k => XS.dup X16.here hx rfl (hb hby d3_34) rfl rfl k) ?_
        refine Go.st (f' := (mkF m 36 #[iv md, iv c0, iv c1] [(.int 0), (.ref b16), (.ref b16), (.ref b15), (.ref b15)])) (fun _ k => XS.iconst X16.here hx rfl (hb hby d3_35) k) ?_
        refine Go.st (f' := (mkF m 37 #[iv md, iv c0, iv c1] [(.int c0), (.int 0), (.ref b16), (.ref b16), (.ref b15), (.ref b15)])) (fun _ k => XS.iloadN X16.here hx rfl (hb hby d3_36) rfl k) ?_
        obtain ⟨cl17, Ar17, q17, S17, Nx17, H17, G17⟩ := id V_b16
        have hin17 : ¬ ((0 : Int32) < 0 ∨ cl17.slots.size ≤ ((0 : Int32)).toNatClampNeg) := inb_of S17 ⟨by decide, by decide⟩
        obtain ⟨T18, h18, X18, e18, W18, st18⟩ := stC X16 hx hZ e16 Ar17 (j := (0 : Int32)) hin17 (g := (mkF m 37 #[iv md, iv c0, iv c1] [(.int c0), (.int 0), (.ref b16), (.ref b16), (.ref b15), (.ref b15)])) rfl rfl (hb hby d3_37)
        have V_b16_18 : Arv Z h18 b16 kc16 .char (1 : Int32) [(.int (nar .char c0))] (.int (0 : Int32)) := Arv.set Ar17 q17 S17 Nx17 H17 G17 (fits_nar_char _) W18 0 rfl (Nat.le_of_ble_eq_true rfl)
        have N18 := Fr.snoc X18 N0 g_b16
        have O18 : Old Z n0 h18 := O16.wr W18 g_b16
        have K18 : Keep h0 h18 [] := K16.wr W18 (Or.inr sz_b16)
        have CR18 : CHr Z EL s.vm h0 s.vm h18 := CR16.trans (CHr.wr W18 sf_b16 CR16.1)
        refine Go.st (f' := (mkF m 38 #[iv md, iv c0, iv c1] [(.ref b16), (.ref b15), (.ref b15)])) (fun _ k => st18 _ k) ?_
        have ft20 := ((A15.ext E16).wr W18)
        have ft21 := ((F_coder_b15.ext E16).other W18 (Or.inl ne_b15_b16))
        have ft22 := ((F_value_b15.ext E16).other W18 (Or.inl ne_b15_b16))
        obtain ⟨_, _, ⟨T19, L19, kk19, nn19⟩, -, X19, ⟨Lc19, hQ19, lq19, yq19, zz19⟩, st19⟩ := X18.specialBack hx (y := (⟨"java/lang/String", "<init>", "([C)V"⟩ : MethodName)) rfl hown (mvT hZ (hw _ (List.mem_of_getElem? (i := 39) rfl))) (mvT hZ (hw _ (List.mem_of_getElem? (i := 40) rfl))) (mvT hZ (hw _ (List.mem_of_getElem? (i := 41) rfl))) (by decide) (own_back (W := 1) (st1_1 l Z a0 hw [] b15 b16 kc16 (nar .char c0) i_COMPACT_STRINGS v_SIOOBE_FORMATTER h18 n0 O18 (own_nc hc0.1 hc0.2) g_b15 ne_b15_b16 ft20 ft21 ft22 V_b16_18 WW) hZ (hw _ (List.mem_of_getElem? (i := 41) rfl)) (hw _ (List.mem_of_getElem? (i := 37) rfl)) (by decide) (by decide)) (g := (mkF m 38 #[iv md, iv c0, iv c1] [(.ref b16), (.ref b15), (.ref b15)])) rfl (by rw [hml]; rfl) (Steps.refl _) (a := b15) (argsL := [(.ref b16)]) (rest := [(.ref b15)]) (lenOf pd___C_V rfl) rfl (by show 2 * 0 + _ ≤ _; exact Nat.le_of_eq rfl) (hb hby d3_38) (fun _ _ => ⟨rfl, e18, (by decide : 2 + 1 ≤ _), (by decide : 5 + 1 ≤ _)⟩)
        dsimp only [Pt.U, Pt.locs, Pt.cells, Pt.slots] at X19 lq19 yq19 zz19 st19 hQ19
        subst lq19 yq19 zz19
        obtain ⟨rfl, Nq19, kq19, eq19, cq19, tt19, kt19, zq19, fq19, vq19⟩ := hQ19
        have N19 := Fr.app N18 Nq19
        have ft23 := (Nat.lt_of_lt_of_eq (Nat.lt_of_lt_of_le lt_b15 E16.1) W18.size.symm)
        have ne_b15_tt19 : b15 ≠ tt19 := Nat.ne_of_lt (Nat.lt_of_lt_of_le ft23 zq19)
        have ft24 := (Nat.lt_of_lt_of_eq lt_b16 W18.size.symm)
        have ne_b16_tt19 : b16 ≠ tt19 := Nat.ne_of_lt (Nat.lt_of_lt_of_le ft24 zq19)
        have g_tt19 : n0 ≤ tt19 := Nat.le_trans (O18.1 ▸ O18.2.1) zq19
        have sz_tt19 : h0.size ≤ tt19 := Nat.le_trans K18.1 zq19
        have sn_tt19 : Safe Z EL s.vm h18 tt19 := Safe.new zq19
        have O19 : Old Z n0 T19.heap := O18.keep kq19 (allS g_b15 all0)
        have ft25 := (Safe.wr W18 sf_b16 CR16.1 (Safe.ext E16 CR15.1 sf_b15))
        have CR19 : CHr Z EL s.vm h0 s.vm T19.heap := CR18.trans (CHr.keep kq19 (sfS ft25 sf0) CR18.1)
        have K19 : Keep h0 T19.heap [] := K18.trans kq19 (allS (Or.inr sz_b15) all0)
        have lt_tt19 := vq19.lt
        refine Go.tr (f' := (mkF m 41 #[iv md, iv c0, iv c1] [(.ref b15)])) st19 ?_
        refine GoW.retV X19 hlk hx (t := (.object "java/lang/String")) hret rfl (Or.inr (Or.inr (Or.inr (Or.inr ⟨rfl, rfl, rfl⟩)))) (hb hby d3_41) rfl hS (Nat.zero_le _) hZ hEL CR19 hh ?_ (by decide) (by decide)
        exact ⟨.ref b15, rfl, N19, K19, Or.inr (Or.inr (Or.inl ⟨cd14, b15, rfl, eq19, cq19, tt19, kt19, fq19, vq19⟩)), fun _ q => (Value.ref.inj q) ▸ sz_b15⟩
      · refine Go.st (f' := (mkF m 42 #[iv md, iv c0, iv c1] [])) (fun _ k => XS.icmpYes X0.here hx rfl (pc0 := 24) (pc' := 42) rfl (hb hby d3_24) rfl (feq cd14).2 (by decide) (by decide) k) ?_
        obtain ⟨T26, h26, X26, e26, E26, A26, D26, -, st26⟩ := newO X0 hx hZ hown (hw _ (List.mem_of_getElem? (i := 35) rfl)) (hw _ (List.mem_of_getElem? (i := 36) rfl)) (hw _ (List.mem_of_getElem? (i := 37) rfl)) e0 (g := (mkF m 42 #[iv md, iv c0, iv c1] [])) rfl (hb hby d3_42) (by decide) (by decide)
        obtain ⟨b26, g26⟩ : ∃ z, z = h0.size := ⟨_, rfl⟩
        rw [← g26] at A26 D26 st26
        have g_b26 : n0 ≤ b26 := Nat.le_trans (O0.1 ▸ O0.2.1) (Nat.le_of_eq g26.symm)
        have O26 : Old Z n0 h26 := O0.ext E26
        have sz_b26 : h0.size ≤ b26 := Nat.le_trans K0.1 (Nat.le_of_eq g26.symm)
        have K26 : Keep h0 h26 [] := K0.ext E26
        have CR26 : CHr Z EL s.vm h0 s.vm h26 := CR0.trans (CHr.ext E26 CR0.1)
        have sf_b26 : Safe Z EL s.vm h26 b26 := (Safe.new (Nat.le_of_eq g26.symm)).ext E26 CR0.1
        have lt_b26 := A26.lt
        have F_coder_b26 : Fld Z h26 b26 "java/lang/String" "coder" "B" (.int (0 : Int32)) := D26 (Or.inr (hw _ (List.mem_of_getElem? (i := 60) rfl))) (ty := .byte) (by decide)
        have F_value_b26 : Fld Z h26 b26 "java/lang/String" "value" "[B" .null := D26 (Or.inr (hw _ (List.mem_of_getElem? (i := 62) rfl))) (ty := (.array .byte)) (by decide)
        refine Go.st (f' := (mkF m 45 #[iv md, iv c0, iv c1] [(.ref b26)])) (fun _ k => st26 _ k) ?_
        refine Go.st (f' := (mkF m 46 #[iv md, iv c0, iv c1] [(.ref b26), (.ref b26)])) (fun _ k => XS.dup X26.here hx rfl (hb hby d3_45) rfl rfl k) ?_
        refine Go.st (f' := (mkF m 47 #[iv md, iv c0, iv c1] [(.int 2), (.ref b26), (.ref b26)])) (fun _ k => XS.iconst X26.here hx rfl (hb hby d3_46) k) ?_
        obtain ⟨T27, h27, kc27, X27, e27, E27, A27, st27⟩ := newP X26 hx hZ (hw _ (List.mem_of_getElem? (i := 38) rfl)) e26 (g := (mkF m 47 #[iv md, iv c0, iv c1] [(.int 2), (.ref b26), (.ref b26)])) rfl (hb hby d3_47) rfl (by decide) (cap := 2) (by decide) (by decide) (by decide) (by decide)
        obtain ⟨b27, g27⟩ : ∃ z, z = h26.size := ⟨_, rfl⟩
        rw [← g27] at A27 st27
        have ne_b26_b27 : b26 ≠ b27 := Nat.ne_of_lt (Nat.lt_of_lt_of_eq lt_b26 g27.symm)
        have g_b27 : n0 ≤ b27 := Nat.le_trans (O26.1 ▸ O26.2.1) (Nat.le_of_eq g27.symm)
        have O27 : Old Z n0 h27 := O26.ext E27
        have sz_b27 : h0.size ≤ b27 := Nat.le_trans K26.1 (Nat.le_of_eq g27.symm)
        have K27 : Keep h0 h27 [] := K26.ext E27
        have CR27 : CHr Z EL s.vm h0 s.vm h27 := CR26.trans (CHr.ext E27 CR26.1)
        have sf_b27 : Safe Z EL s.vm h27 b27 := (Safe.new (Nat.le_of_eq g27.symm)).ext E27 CR26.1
        have V_b27 : Arv Z h27 b27 kc27 .char (2 : Int32) [(.int (0 : Int32)), (.int (0 : Int32))] (.int (0 : Int32)) := (Arv.new A27 (by decide)).pad (pad_rep [] (.int (0 : Int32)) 2)
        have lt_b27 := V_b27.lt
        refine Go.st (f' := (mkF m 49 #[iv md, iv c0, iv c1] [(.ref b27), (.ref b26), (.ref b26)])) (fun _ k => st27 _ k) ?_
        refine Go.st (f' := (mkF m 50 #[iv md, iv c0, iv c1] [(.ref b27), (.ref b27), (.ref b26), (.ref b26)])) (fun _ k => XS.dup X27.here hx rfl (hb hby d3_49) rfl rfl k) ?_
        refine Go.st (f' := (mkF m 51 #[iv md, iv c0, iv c1] [(.int 0), (.ref b27), (.ref b27), (.ref b26), (.ref b26)])) (fun _ k => XS.iconst X27.here hx rfl (hb hby d3_50) k) ?_
        refine Go.st (f' := (mkF m 52 #[iv md, iv c0, iv c1] [(.int c0), (.int 0), (.ref b27), (.ref b27), (.ref b26), (.ref b26)])) (fun _ k => XS.iloadN X27.here hx rfl (hb hby d3_51) rfl k) ?_
        obtain ⟨cl28, Ar28, q28, S28, Nx28, H28, G28⟩ := id V_b27
        have hin28 : ¬ ((0 : Int32) < 0 ∨ cl28.slots.size ≤ ((0 : Int32)).toNatClampNeg) := inb_of S28 ⟨by decide, by decide⟩
        obtain ⟨T29, h29, X29, e29, W29, st29⟩ := stC X27 hx hZ e27 Ar28 (j := (0 : Int32)) hin28 (g := (mkF m 52 #[iv md, iv c0, iv c1] [(.int c0), (.int 0), (.ref b27), (.ref b27), (.ref b26), (.ref b26)])) rfl rfl (hb hby d3_52)
        have V_b27_29 : Arv Z h29 b27 kc27 .char (2 : Int32) [(.int (nar .char c0)), (.int (0 : Int32))] (.int (0 : Int32)) := Arv.set Ar28 q28 S28 Nx28 H28 G28 (fits_nar_char _) W29 0 rfl (Nat.le_of_ble_eq_true rfl)
        have N29 := Fr.snoc X29 N0 g_b27
        have O29 : Old Z n0 h29 := O27.wr W29 g_b27
        have K29 : Keep h0 h29 [] := K27.wr W29 (Or.inr sz_b27)
        have CR29 : CHr Z EL s.vm h0 s.vm h29 := CR27.trans (CHr.wr W29 sf_b27 CR27.1)
        refine Go.st (f' := (mkF m 53 #[iv md, iv c0, iv c1] [(.ref b27), (.ref b26), (.ref b26)])) (fun _ k => st29 _ k) ?_
        refine Go.st (f' := (mkF m 54 #[iv md, iv c0, iv c1] [(.ref b27), (.ref b27), (.ref b26), (.ref b26)])) (fun _ k => XS.dup X29.here hx rfl (hb hby d3_53) rfl rfl k) ?_
        refine Go.st (f' := (mkF m 55 #[iv md, iv c0, iv c1] [(.int 1), (.ref b27), (.ref b27), (.ref b26), (.ref b26)])) (fun _ k => XS.iconst X29.here hx rfl (hb hby d3_54) k) ?_
        refine Go.st (f' := (mkF m 56 #[iv md, iv c0, iv c1] [(.int c1), (.int 1), (.ref b27), (.ref b27), (.ref b26), (.ref b26)])) (fun _ k => XS.iloadN X29.here hx rfl (hb hby d3_55) rfl k) ?_
        have ft31 := (Safe.wr W29 sf_b27 CR27.1 sf_b27)
        obtain ⟨cl30, Ar30, q30, S30, Nx30, H30, G30⟩ := id V_b27_29
        have hin30 : ¬ ((1 : Int32) < 0 ∨ cl30.slots.size ≤ ((1 : Int32)).toNatClampNeg) := inb_of S30 ⟨by decide, by decide⟩
        obtain ⟨T32, h32, X32, e32, W32, st32⟩ := stC X29 hx hZ e29 Ar30 (j := (1 : Int32)) hin30 (g := (mkF m 56 #[iv md, iv c0, iv c1] [(.int c1), (.int 1), (.ref b27), (.ref b27), (.ref b26), (.ref b26)])) rfl rfl (hb hby d3_56)
        have V_b27_32 : Arv Z h32 b27 kc27 .char (2 : Int32) [(.int (nar .char c0)), (.int (nar .char c1))] (.int (0 : Int32)) := Arv.set Ar30 q30 S30 Nx30 H30 G30 (fits_nar_char _) W32 1 rfl (Nat.le_of_ble_eq_true rfl)
        have N32 := Fr.snoc X32 N29 g_b27
        have O32 : Old Z n0 h32 := O29.wr W32 g_b27
        have K32 : Keep h0 h32 [] := K29.wr W32 (Or.inr sz_b27)
        have CR32 : CHr Z EL s.vm h0 s.vm h32 := CR29.trans (CHr.wr W32 ft31 CR29.1)
        refine Go.st (f' := (mkF m 57 #[iv md, iv c0, iv c1] [(.ref b27), (.ref b26), (.ref b26)])) (fun _ k => st32 _ k) ?_
        have ft34 := (((A26.ext E27).wr W29).wr W32)
        have ft35 := (((F_coder_b26.ext E27).other W29 (Or.inl ne_b26_b27)).other W32 (Or.inl ne_b26_b27))
        have ft36 := (((F_value_b26.ext E27).other W29 (Or.inl ne_b26_b27)).other W32 (Or.inl ne_b26_b27))
        obtain ⟨_, _, ⟨T33, L33, kk33, nn33⟩, -, X33, ⟨Lc33, hQ33, lq33, yq33, zz33⟩, st33⟩ := X32.specialBack hx (y := (⟨"java/lang/String", "<init>", "([C)V"⟩ : MethodName)) rfl hown (mvT hZ (hw _ (List.mem_of_getElem? (i := 39) rfl))) (mvT hZ (hw _ (List.mem_of_getElem? (i := 40) rfl))) (mvT hZ (hw _ (List.mem_of_getElem? (i := 41) rfl))) (by decide) (own_back (W := 1) (st1_2 l Z a0 hw [] b26 b27 kc27 (nar .char c0) (nar .char c1) i_COMPACT_STRINGS v_SIOOBE_FORMATTER h32 n0 O32 (own_nc hc0.1 hc0.2) (own_nc hc1.1 hc1.2) g_b26 ne_b26_b27 ft34 ft35 ft36 V_b27_32 WW) hZ (hw _ (List.mem_of_getElem? (i := 41) rfl)) (hw _ (List.mem_of_getElem? (i := 37) rfl)) (by decide) (by decide)) (g := (mkF m 57 #[iv md, iv c0, iv c1] [(.ref b27), (.ref b26), (.ref b26)])) rfl (by rw [hml]; rfl) (Steps.refl _) (a := b26) (argsL := [(.ref b27)]) (rest := [(.ref b26)]) (lenOf pd___C_V rfl) rfl (by show 2 * 0 + _ ≤ _; exact Nat.le_of_eq rfl) (hb hby d3_57) (fun _ _ => ⟨rfl, e32, (by decide : 2 + 1 ≤ _), (by decide : 6 + 2 ≤ _)⟩)
        dsimp only [Pt.U, Pt.locs, Pt.cells, Pt.slots] at X33 lq33 yq33 zz33 st33 hQ33
        subst lq33 yq33 zz33
        obtain ⟨rfl, Nq33, kq33, eq33, cq33, tt33, kt33, zq33, fq33, vq33⟩ := hQ33
        have N33 := Fr.app N32 Nq33
        have ft37 := (Nat.lt_of_lt_of_eq (Nat.lt_of_lt_of_eq (Nat.lt_of_lt_of_le lt_b26 E27.1) W29.size.symm) W32.size.symm)
        have ne_b26_tt33 : b26 ≠ tt33 := Nat.ne_of_lt (Nat.lt_of_lt_of_le ft37 zq33)
        have ft38 := (Nat.lt_of_lt_of_eq (Nat.lt_of_lt_of_eq lt_b27 W29.size.symm) W32.size.symm)
        have ne_b27_tt33 : b27 ≠ tt33 := Nat.ne_of_lt (Nat.lt_of_lt_of_le ft38 zq33)
        have g_tt33 : n0 ≤ tt33 := Nat.le_trans (O32.1 ▸ O32.2.1) zq33
        have sz_tt33 : h0.size ≤ tt33 := Nat.le_trans K32.1 zq33
        have sn_tt33 : Safe Z EL s.vm h32 tt33 := Safe.new zq33
        have O33 : Old Z n0 T33.heap := O32.keep kq33 (allS g_b26 all0)
        have ft39 := (Safe.wr W32 ft31 CR29.1 (Safe.wr W29 sf_b27 CR27.1 (Safe.ext E27 CR26.1 sf_b26)))
        have CR33 : CHr Z EL s.vm h0 s.vm T33.heap := CR32.trans (CHr.keep kq33 (sfS ft39 sf0) CR32.1)
        have K33 : Keep h0 T33.heap [] := K32.trans kq33 (allS (Or.inr sz_b26) all0)
        have lt_tt33 := vq33.lt
        refine Go.tr (f' := (mkF m 60 #[iv md, iv c0, iv c1] [(.ref b26)])) st33 ?_
        refine GoW.retV X33 hlk hx (t := (.object "java/lang/String")) hret rfl (Or.inr (Or.inr (Or.inr (Or.inr ⟨rfl, rfl, rfl⟩)))) (hb hby d3_60) rfl hS (Nat.zero_le _) hZ hEL CR33 hh ?_ (by decide) (by decide)
        exact ⟨.ref b26, rfl, N33, K33, Or.inr (Or.inr (Or.inr ⟨own_md3 hmd cd1 cd2 cd14, b26, rfl, eq33, cq33, tt33, kt33, fq33, vq33⟩)), fun _ q => (Value.ref.inj q) ▸ sz_b26⟩
theorem pn_com_example_wirecall_wirecall_demo_User : plainName "com/example/wirecall/wirecall/demo/User" = true := by first | (simp [plainName, overriddenIn]; done) | decide +kernel
theorem d1_0 : decode prog_20_method_1_code 0 = .ok (.aload_n 0, 1) := by decide +kernel
theorem d1_1 : decode prog_20_method_1_code 1 = .ok (.invokespecial 1, 3) := by decide +kernel
theorem d1_4 : decode prog_20_method_1_code 4 = .ok (.return_, 1) := by decide +kernel
set_option maxRecDepth 65536 in
set_option maxHeartbeats 40000000 in
theorem rmU0 (l : Launch) (Z : State) (a0 : Array Value) (hw : ∀ d ∈ tables_1, d.before a0 Z = true) (ws : List Jvm.Cond) (a1 : Addr) (h0 : Heap) (n0 : Nat) (O0 : Old Z n0 h0)  :
    Con l Z (⟨"com/example/wirecall/wirecall/demo/User", "<init>", "()V"⟩ : MethodName) prog_20_method_1_code 1 none ws ({ frames := 1, cells := 0, slots := 0, locals := 12 } : Room) #[(.ref a1)] h0 (fun v h L => v = none ∧ Fr n0 L ∧ h = h0) := by
  refine own_body (plainFor_of_name pn_com_example_wirecall_wirecall_demo_User) ?_
  intro p e s m below meth c s₁ hx hby hml hZ hown hnm hlk hret X0 e0
  have N0 := Fr.nil n0
  refine Go.st (T' := s₁) (f' := (mkF m 0 #[rv a1] [])) (fun _ k => castTop (by first | (simp [entryFrame, mkF, argsToLocals, Value.category]; done) | rfl) k) ?_
  refine Go.st (f' := (mkF m 1 #[rv a1] [(.ref a1)])) (fun _ k => XS.aloadN X0.here hx rfl (hb hby d1_0) rfl rfl k) ?_
  obtain ⟨T1, X1, e1, st1⟩ := initO X0 hx hZ hown (hw _ (List.mem_of_getElem? (i := 6) rfl)) (hw _ (List.mem_of_getElem? (i := 7) rfl)) (hw _ (List.mem_of_getElem? (i := 8) rfl)) e0 (g := (mkF m 1 #[rv a1] [(.ref a1)])) rfl (by rw [hml]; rfl) rfl (hb hby d1_1) (by decide) (W := 0) (by show 2 * 0 + _ ≤ _; exact Nat.le_of_eq rfl) (by decide)
  refine Go.st (f' := (mkF m 4 #[rv a1] [])) (fun _ k => st1 _ k) ?_
  refine Go.ret0 X1 hlk hx hret (hb hby d1_4) e1 ?_ (by decide) (by decide)
  exact ⟨rfl, N0, rfl⟩
theorem d4_0 : decode prog_20_method_2_code 0 = .ok (.aload_n 0, 1) := by decide +kernel
theorem d4_1 : decode prog_20_method_2_code 1 = .ok (.invokespecial 1, 3) := by decide +kernel
theorem d4_4 : decode prog_20_method_2_code 4 = .ok (.aload_n 0, 1) := by decide +kernel
theorem d4_5 : decode prog_20_method_2_code 5 = .ok (.iload_n 1, 1) := by decide +kernel
theorem d4_6 : decode prog_20_method_2_code 6 = .ok (.putfield 7, 3) := by decide +kernel
theorem d4_9 : decode prog_20_method_2_code 9 = .ok (.aload_n 0, 1) := by decide +kernel
theorem d4_10 : decode prog_20_method_2_code 10 = .ok (.aload_n 2, 1) := by decide +kernel
theorem d4_11 : decode prog_20_method_2_code 11 = .ok (.putfield 13, 3) := by decide +kernel
theorem d4_14 : decode prog_20_method_2_code 14 = .ok (.return_, 1) := by decide +kernel
set_option maxRecDepth 65536 in
set_option maxHeartbeats 40000000 in
theorem rmUn (l : Launch) (Z : State) (a0 : Array Value) (hw : ∀ d ∈ tables_1, d.before a0 Z = true) (ws : List Jvm.Cond) (a1 : Addr) (q1 : Int32) (h0 : Heap) (n0 : Nat) (O0 : Old Z n0 h0) (g_a1 : n0 ≤ a1) (E_a1 : Exa Z h0 a1 "com/example/wirecall/wirecall/demo/User") (F_a1_userId : Fld Z h0 a1 "com/example/wirecall/wirecall/demo/User" "userId" "I" (.int 0)) (F_a1_userName : Fld Z h0 a1 "com/example/wirecall/wirecall/demo/User" "userName" "Ljava/lang/String;" .null) :
    Con l Z (⟨"com/example/wirecall/wirecall/demo/User", "<init>", "(ILjava/lang/String;)V"⟩ : MethodName) prog_20_method_2_code 3 none ws ({ frames := 1, cells := 0, slots := 0, locals := 12 } : Room) #[(.ref a1), (.int q1), .null] h0 (fun v h L => v = none ∧ Fr n0 L ∧ Keep h0 h [a1] ∧ Exa Z h a1 "com/example/wirecall/wirecall/demo/User" ∧ Fld Z h a1 "com/example/wirecall/wirecall/demo/User" "userId" "I" (.int q1) ∧ Fld Z h a1 "com/example/wirecall/wirecall/demo/User" "userName" "Ljava/lang/String;" .null) := by
  refine own_body (plainFor_of_name pn_com_example_wirecall_wirecall_demo_User) ?_
  intro p e s m below meth c s₁ hx hby hml hZ hown hnm hlk hret X0 e0
  have N0 := Fr.nil n0
  have K0 : Keep h0 h0 [a1] := Keep.refl _ _
  refine Go.st (T' := s₁) (f' := (mkF m 0 #[rv a1, iv q1, .val .null] [])) (fun _ k => castTop (by first | (simp [entryFrame, mkF, argsToLocals, Value.category]; done) | rfl) k) ?_
  have lt_a1 := E_a1.lt
  refine Go.st (f' := (mkF m 1 #[rv a1, iv q1, .val .null] [(.ref a1)])) (fun _ k => XS.aloadN X0.here hx rfl (hb hby d4_0) rfl rfl k) ?_
  obtain ⟨T1, X1, e1, st1⟩ := initO X0 hx hZ hown (hw _ (List.mem_of_getElem? (i := 6) rfl)) (hw _ (List.mem_of_getElem? (i := 7) rfl)) (hw _ (List.mem_of_getElem? (i := 8) rfl)) e0 (g := (mkF m 1 #[rv a1, iv q1, .val .null] [(.ref a1)])) rfl (by rw [hml]; rfl) rfl (hb hby d4_1) (by decide) (W := 0) (by show 2 * 0 + _ ≤ _; exact Nat.le_of_eq rfl) (by decide)
  refine Go.st (f' := (mkF m 4 #[rv a1, iv q1, .val .null] [])) (fun _ k => st1 _ k) ?_
  refine Go.st (f' := (mkF m 5 #[rv a1, iv q1, .val .null] [(.ref a1)])) (fun _ k => XS.aloadN X1.here hx rfl (hb hby d4_4) rfl rfl k) ?_
  refine Go.st (f' := (mkF m 6 #[rv a1, iv q1, .val .null] [(.int q1), (.ref a1)])) (fun _ k => XS.iloadN X1.here hx rfl (hb hby d4_5) rfl k) ?_
  obtain ⟨T2, h2, X2, e2, W2, st2⟩ := putF X1 hx hZ hown (host := "") (Or.inl (hw _ (List.mem_of_getElem? (i := 16) rfl))) Via.refl e1 F_a1_userId E_a1 (Or.inl (hw _ (List.mem_of_getElem? (i := 17) rfl))) (hw _ (List.mem_of_getElem? (i := 1) rfl)) (ty := .int) (by decide) rfl rfl (g := (mkF m 6 #[rv a1, iv q1, .val .null] [(.int q1), (.ref a1)])) rfl rfl (hb hby d4_6)
  have N2 := Fr.snoc X2 N0 g_a1
  have O2 : Old Z n0 h2 := O0.wr W2 g_a1
  have K2 : Keep h0 h2 [a1] := K0.wr W2 (Or.inl (List.mem_of_getElem? (i := 0) rfl))
  have Fw2 := F_a1_userId.same W2
  refine Go.st (f' := (mkF m 9 #[rv a1, iv q1, .val .null] [])) (fun _ k => st2 _ k) ?_
  refine Go.st (f' := (mkF m 10 #[rv a1, iv q1, .val .null] [(.ref a1)])) (fun _ k => XS.aloadN X2.here hx rfl (hb hby d4_9) rfl rfl k) ?_
  refine Go.st (f' := (mkF m 11 #[rv a1, iv q1, .val .null] [.null, (.ref a1)])) (fun _ k => XS.aloadN X2.here hx rfl (hb hby d4_10) rfl rfl k) ?_
  have ft3 := (E_a1.wr W2)
  have ft4 := (F_a1_userName.other W2 (Or.inr (slot_ne (Or.inl (hw _ (List.mem_of_getElem? (i := 19) rfl))) (Or.inl (hw _ (List.mem_of_getElem? (i := 17) rfl))) (by decide) (t := (.object "java/lang/String")) (t' := .int) (by decide) (by decide))))
  obtain ⟨T5, h5, X5, e5, W5, st5⟩ := putF X2 hx hZ hown (host := "") (Or.inl (hw _ (List.mem_of_getElem? (i := 18) rfl))) Via.refl e2 ft4 ft3 (Or.inl (hw _ (List.mem_of_getElem? (i := 19) rfl))) (hw _ (List.mem_of_getElem? (i := 1) rfl)) (ty := (.object "java/lang/String")) (by decide) rfl rfl (g := (mkF m 11 #[rv a1, iv q1, .val .null] [.null, (.ref a1)])) rfl rfl (hb hby d4_11)
  have N5 := Fr.snoc X5 N2 g_a1
  have O5 : Old Z n0 h5 := O2.wr W5 g_a1
  have K5 : Keep h0 h5 [a1] := K2.wr W5 (Or.inl (List.mem_of_getElem? (i := 0) rfl))
  have Fw5 := ft4.same W5
  refine Go.st (f' := (mkF m 14 #[rv a1, iv q1, .val .null] [])) (fun _ k => st5 _ k) ?_
  refine Go.ret0 X5 hlk hx hret (hb hby d4_14) e5 ?_ (by decide) (by decide)
  have ft6 := (ft3.wr W5)
  have ft7 := (Fw2.other W5 (Or.inr (slot_ne (Or.inl (hw _ (List.mem_of_getElem? (i := 17) rfl))) (Or.inl (hw _ (List.mem_of_getElem? (i := 19) rfl))) (by decide) (t := .int) (t' := (.object "java/lang/String")) (by decide) (by decide))))
  exact ⟨rfl, N5, K5, ft6, ft7, Fw5⟩
set_option maxRecDepth 65536 in
set_option maxHeartbeats 40000000 in
theorem rmUr (l : Launch) (Z : State) (a0 : Array Value) (hw : ∀ d ∈ tables_1, d.before a0 Z = true) (ws : List Jvm.Cond) (a1 : Addr) (q1 : Int32) (s1 : Addr) (h0 : Heap) (n0 : Nat) (O0 : Old Z n0 h0) (g_a1 : n0 ≤ a1) (E_a1 : Exa Z h0 a1 "com/example/wirecall/wirecall/demo/User") (F_a1_userId : Fld Z h0 a1 "com/example/wirecall/wirecall/demo/User" "userId" "I" (.int 0)) (F_a1_userName : Fld Z h0 a1 "com/example/wirecall/wirecall/demo/User" "userName" "Ljava/lang/String;" .null) :
    Con l Z (⟨"com/example/wirecall/wirecall/demo/User", "<init>", "(ILjava/lang/String;)V"⟩ : MethodName) prog_20_method_2_code 3 none ws ({ frames := 1, cells := 0, slots := 0, locals := 12 } : Room) #[(.ref a1), (.int q1), (.ref s1)] h0 (fun v h L => v = none ∧ Fr n0 L ∧ Keep h0 h [a1] ∧ Exa Z h a1 "com/example/wirecall/wirecall/demo/User" ∧ Fld Z h a1 "com/example/wirecall/wirecall/demo/User" "userId" "I" (.int q1) ∧ Fld Z h a1 "com/example/wirecall/wirecall/demo/User" "userName" "Ljava/lang/String;" (.ref s1)) := by
  refine own_body (plainFor_of_name pn_com_example_wirecall_wirecall_demo_User) ?_
  intro p e s m below meth c s₁ hx hby hml hZ hown hnm hlk hret X0 e0
  have N0 := Fr.nil n0
  have K0 : Keep h0 h0 [a1] := Keep.refl _ _
  refine Go.st (T' := s₁) (f' := (mkF m 0 #[rv a1, iv q1, rv s1] [])) (fun _ k => castTop (by first | (simp [entryFrame, mkF, argsToLocals, Value.category]; done) | rfl) k) ?_
  have lt_a1 := E_a1.lt
  refine Go.st (f' := (mkF m 1 #[rv a1, iv q1, rv s1] [(.ref a1)])) (fun _ k => XS.aloadN X0.here hx rfl (hb hby d4_0) rfl rfl k) ?_
  obtain ⟨T1, X1, e1, st1⟩ := initO X0 hx hZ hown (hw _ (List.mem_of_getElem? (i := 6) rfl)) (hw _ (List.mem_of_getElem? (i := 7) rfl)) (hw _ (List.mem_of_getElem? (i := 8) rfl)) e0 (g := (mkF m 1 #[rv a1, iv q1, rv s1] [(.ref a1)])) rfl (by rw [hml]; rfl) rfl (hb hby d4_1) (by decide) (W := 0) (by show 2 * 0 + _ ≤ _; exact Nat.le_of_eq rfl) (by decide)
  refine Go.st (f' := (mkF m 4 #[rv a1, iv q1, rv s1] [])) (fun _ k => st1 _ k) ?_
  refine Go.st (f' := (mkF m 5 #[rv a1, iv q1, rv s1] [(.ref a1)])) (fun _ k => XS.aloadN X1.here hx rfl (hb hby d4_4) rfl rfl k) ?_
  refine Go.st (f' := (mkF m 6 #[rv a1, iv q1, rv s1] [(.int q1), (.ref a1)])) (fun _ k => XS.iloadN X1.here hx rfl (hb hby d4_5) rfl k) ?_
  obtain ⟨T2, h2, X2, e2, W2, st2⟩ := putF X1 hx hZ hown (host := "") (Or.inl (hw _ (List.mem_of_getElem? (i := 16) rfl))) Via.refl e1 F_a1_userId E_a1 (Or.inl (hw _ (List.mem_of_getElem? (i := 17) rfl))) (hw _ (List.mem_of_getElem? (i := 1) rfl)) (ty := .int) (by decide) rfl rfl (g := (mkF m 6 #[rv a1, iv q1, rv s1] [(.int q1), (.ref a1)])) rfl rfl (hb hby d4_6)
  have N2 := Fr.snoc X2 N0 g_a1
  have O2 : Old Z n0 h2 := O0.wr W2 g_a1
  have K2 : Keep h0 h2 [a1] := K0.wr W2 (Or.inl (List.mem_of_getElem? (i := 0) rfl))
  have Fw2 := F_a1_userId.same W2
  refine Go.st (f' := (mkF m 9 #[rv a1, iv q1, rv s1] [])) (fun _ k => st2 _ k) ?_
  refine Go.st (f' := (mkF m 10 #[rv a1, iv q1, rv s1] [(.ref a1)])) (fun _ k => XS.aloadN X2.here hx rfl (hb hby d4_9) rfl rfl k) ?_
  refine Go.st (f' := (mkF m 11 #[rv a1, iv q1, rv s1] [(.ref s1), (.ref a1)])) (fun _ k => XS.aloadN X2.here hx rfl (hb hby d4_10) rfl rfl k) ?_
  have ft3 := (E_a1.wr W2)
  have ft4 := (F_a1_userName.other W2 (Or.inr (slot_ne (Or.inl (hw _ (List.mem_of_getElem? (i := 19) rfl))) (Or.inl (hw _ (List.mem_of_getElem? (i := 17) rfl))) (by decide) (t := (.object "java/lang/String")) (t' := .int) (by decide) (by decide))))
  obtain ⟨T5, h5, X5, e5, W5, st5⟩ := putF X2 hx hZ hown (host := "") (Or.inl (hw _ (List.mem_of_getElem? (i := 18) rfl))) Via.refl e2 ft4 ft3 (Or.inl (hw _ (List.mem_of_getElem? (i := 19) rfl))) (hw _ (List.mem_of_getElem? (i := 1) rfl)) (ty := (.object "java/lang/String")) (by decide) rfl rfl (g := (mkF m 11 #[rv a1, iv q1, rv s1] [(.ref s1), (.ref a1)])) rfl rfl (hb hby d4_11)
  have N5 := Fr.snoc X5 N2 g_a1
  have O5 : Old Z n0 h5 := O2.wr W5 g_a1
  have K5 : Keep h0 h5 [a1] := K2.wr W5 (Or.inl (List.mem_of_getElem? (i := 0) rfl))
  have Fw5 := ft4.same W5
  refine Go.st (f' := (mkF m 14 #[rv a1, iv q1, rv s1] [])) (fun _ k => st5 _ k) ?_
  refine Go.ret0 X5 hlk hx hret (hb hby d4_14) e5 ?_ (by decide) (by decide)
  have ft6 := (ft3.wr W5)
  have ft7 := (Fw2.other W5 (Or.inr (slot_ne (Or.inl (hw _ (List.mem_of_getElem? (i := 17) rfl))) (Or.inl (hw _ (List.mem_of_getElem? (i := 19) rfl))) (by decide) (t := .int) (t' := (.object "java/lang/String")) (by decide) (by decide))))
  exact ⟨rfl, N5, K5, ft6, ft7, Fw5⟩
theorem rmU2 (l : Launch) (Z : State) (a0 : Array Value) (hw : ∀ d ∈ tables_1, d.before a0 Z = true) (ws : List Jvm.Cond) (a1 : Addr) (q1 : Int32) (nv : Value) (h0 : Heap) (n0 : Nat) (O0 : Old Z n0 h0) (hnv : nv.isRef = true) (g_a1 : n0 ≤ a1) (E_a1 : Exa Z h0 a1 "com/example/wirecall/wirecall/demo/User") (F_a1_userId : Fld Z h0 a1 "com/example/wirecall/wirecall/demo/User" "userId" "I" (.int 0)) (F_a1_userName : Fld Z h0 a1 "com/example/wirecall/wirecall/demo/User" "userName" "Ljava/lang/String;" .null) :
    Con l Z (⟨"com/example/wirecall/wirecall/demo/User", "<init>", "(ILjava/lang/String;)V"⟩ : MethodName) prog_20_method_2_code 3 none ws ({ frames := 1, cells := 0, slots := 0, locals := 12 } : Room) #[(.ref a1), (.int q1), nv] h0 (fun v h L => v = none ∧ Fr n0 L ∧ Keep h0 h [a1] ∧ Exa Z h a1 "com/example/wirecall/wirecall/demo/User" ∧ Fld Z h a1 "com/example/wirecall/wirecall/demo/User" "userId" "I" (.int q1) ∧ Fld Z h a1 "com/example/wirecall/wirecall/demo/User" "userName" "Ljava/lang/String;" nv) := by
  rcases ref_cases hnv with rfl | ⟨a, rfl⟩
  · exact rmUn l Z a0 hw ws a1 q1 h0 n0 O0 g_a1 E_a1 F_a1_userId F_a1_userName
  · exact rmUr l Z a0 hw ws a1 q1 a h0 n0 O0 g_a1 E_a1 F_a1_userId F_a1_userName
theorem pn_java_util_Objects : plainName "java/util/Objects" = true := by first | (simp [plainName, overriddenIn]; done) | decide +kernel
theorem d6_0 : decode jdk_31_method_2_code 0 = .ok (.aload_n 0, 1) := by decide +kernel
theorem d6_1 : decode jdk_31_method_2_code 1 = .ok (.aload_n 1, 1) := by decide +kernel
theorem d6_2 : decode jdk_31_method_2_code 2 = .ok (.if_acmp .eq 15, 3) := by decide +kernel
theorem d6_17 : decode jdk_31_method_2_code 17 = .ok (.iconst 1, 1) := by decide +kernel
theorem d6_18 : decode jdk_31_method_2_code 18 = .ok (.goto 4, 3) := by decide +kernel
theorem d6_22 : decode jdk_31_method_2_code 22 = .ok (.ireturn, 1) := by decide +kernel
def obI_NN  : Int32 := (1 : Int32)
set_option maxRecDepth 65536 in
set_option maxHeartbeats 40000000 in
theorem ob_NN (l : Launch) (Z : State) (a0 : Array Value) (hw : ∀ d ∈ tables_1, d.before a0 Z = true) (ws : List Jvm.Cond) (i_COMPACT_STRINGS : Int32) (v_SIOOBE_FORMATTER : Value) (h0 : Heap) (n0 : Nat) (O0 : Old Z n0 h0) (WW : World1 Z i_COMPACT_STRINGS v_SIOOBE_FORMATTER) :
    Con l Z (⟨"java/util/Objects", "equals", "(Ljava/lang/Object;Ljava/lang/Object;)Z"⟩ : MethodName) jdk_31_method_2_code 2 (some .boolean) ws ({ frames := 0, cells := 0, slots := 0, locals := 0 } : Room) #[.null, .null] h0 (fun v h L => v = some (.int (obI_NN )) ∧ Fr n0 L ∧ h = h0) := by
  refine own_body (plainFor_of_name pn_java_util_Objects) ?_
  intro p e s m below meth c s₁ hx hby hml hZ hown hnm hlk hret X0 e0
  have N0 := Fr.nil n0
  refine Go.st (T' := s₁) (f' := (mkF m 0 #[.val .null, .val .null] [])) (fun _ k => castTop (by first | (simp [entryFrame, mkF, argsToLocals, Value.category]; done) | rfl) k) ?_
  have ⟨S_i_COMPACT_STRINGS, nz_i_COMPACT_STRINGS, S_v_SIOOBE_FORMATTER, r_v_SIOOBE_FORMATTER⟩ := WW
  refine Go.st (f' := (mkF m 1 #[.val .null, .val .null] [.null])) (fun _ k => XS.aloadN X0.here hx rfl (hb hby d6_0) rfl rfl k) ?_
  refine Go.st (f' := (mkF m 2 #[.val .null, .val .null] [.null, .null])) (fun _ k => XS.aloadN X0.here hx rfl (hb hby d6_1) rfl rfl k) ?_
  refine Go.st (f' := (mkF m 17 #[.val .null, .val .null] [])) (fun _ k => Jvm.RoadKit.acmp (g := (mkF m 2 #[.val .null, .val .null] [.null, .null])) X0 hx rfl rfl rfl (pc0 := 2) (pc' := 17) (same := true) rfl (hb hby d6_2) rfl (decide_eq_true rfl) (by decide) (by decide) k) ?_
  refine Go.st (f' := (mkF m 18 #[.val .null, .val .null] [(.int 1)])) (fun _ k => XS.iconst X0.here hx rfl (hb hby d6_17) k) ?_
  refine Go.st (f' := (mkF m 22 #[.val .null, .val .null] [(.int 1)])) (fun _ k => XS.goto X0.here hx rfl (pc0 := 18) (pc' := 22) rfl (hb hby d6_18) (by decide) (by decide) k) ?_
  refine Go.retB X0 hlk hx (t := .boolean) hret (by simp) (hb hby d6_22) e0 ?_ (by decide) (by decide)
  show (some (.int (1 : Int32)) : Option Value) = some (.int (obI_NN )) ∧ _
  exact ⟨by rw [obI_NN], N0, rfl⟩
theorem d6_5 : decode jdk_31_method_2_code 5 = .ok (.aload_n 0, 1) := by decide +kernel
theorem d6_6 : decode jdk_31_method_2_code 6 = .ok (.ifnull 15, 3) := by decide +kernel
theorem d6_21 : decode jdk_31_method_2_code 21 = .ok (.iconst 0, 1) := by decide +kernel
def obI_N0  : Int32 := (0 : Int32)
set_option maxRecDepth 65536 in
set_option maxHeartbeats 40000000 in
theorem ob_N0 (l : Launch) (Z : State) (a0 : Array Value) (hw : ∀ d ∈ tables_1, d.before a0 Z = true) (ws : List Jvm.Cond) (s2 : Addr) (t2 : Addr) (k2 : ClassId) (i_COMPACT_STRINGS : Int32) (v_SIOOBE_FORMATTER : Value) (h0 : Heap) (n0 : Nat) (O0 : Old Z n0 h0) (E_s2 : Exa Z h0 s2 "java/lang/String") (F_s2_coder : Fld Z h0 s2 "java/lang/String" "coder" "B" (.int 0)) (F_s2_value : Fld Z h0 s2 "java/lang/String" "value" "[B" (.ref t2)) (V_t2 : Arv Z h0 t2 k2 .byte (0 : Int32) [] (.int 0)) (WW : World1 Z i_COMPACT_STRINGS v_SIOOBE_FORMATTER) :
    Con l Z (⟨"java/util/Objects", "equals", "(Ljava/lang/Object;Ljava/lang/Object;)Z"⟩ : MethodName) jdk_31_method_2_code 2 (some .boolean) ws ({ frames := 0, cells := 0, slots := 0, locals := 0 } : Room) #[.null, (.ref s2)] h0 (fun v h L => v = some (.int (obI_N0 )) ∧ Fr n0 L ∧ h = h0) := by
  refine own_body (plainFor_of_name pn_java_util_Objects) ?_
  intro p e s m below meth c s₁ hx hby hml hZ hown hnm hlk hret X0 e0
  have N0 := Fr.nil n0
  refine Go.st (T' := s₁) (f' := (mkF m 0 #[.val .null, rv s2] [])) (fun _ k => castTop (by first | (simp [entryFrame, mkF, argsToLocals, Value.category]; done) | rfl) k) ?_
  have ⟨S_i_COMPACT_STRINGS, nz_i_COMPACT_STRINGS, S_v_SIOOBE_FORMATTER, r_v_SIOOBE_FORMATTER⟩ := WW
  have lt_s2 := E_s2.lt
  have lt_t2 := V_t2.lt
  refine Go.st (f' := (mkF m 1 #[.val .null, rv s2] [.null])) (fun _ k => XS.aloadN X0.here hx rfl (hb hby d6_0) rfl rfl k) ?_
  refine Go.st (f' := (mkF m 2 #[.val .null, rv s2] [(.ref s2), .null])) (fun _ k => XS.aloadN X0.here hx rfl (hb hby d6_1) rfl rfl k) ?_
  refine Go.st (f' := (mkF m 5 #[.val .null, rv s2] [])) (fun _ k => Jvm.RoadKit.acmp (g := (mkF m 2 #[.val .null, rv s2] [(.ref s2), .null])) X0 hx rfl rfl rfl (pc0 := 2) (pc' := 5) (same := false) rfl (hb hby d6_2) rfl (decide_eq_false nofun) (by decide) (by decide) k) ?_
  refine Go.st (f' := (mkF m 6 #[.val .null, rv s2] [.null])) (fun _ k => XS.aloadN X0.here hx rfl (hb hby d6_5) rfl rfl k) ?_
  refine Go.st (f' := (mkF m 21 #[.val .null, rv s2] [])) (fun _ k => XS.ifnullYes X0.here hx rfl (pc0 := 6) (pc' := 21) rfl (hb hby d6_6) rfl (by decide) (by decide) k) ?_
  refine Go.st (f' := (mkF m 22 #[.val .null, rv s2] [(.int 0)])) (fun _ k => XS.iconst X0.here hx rfl (hb hby d6_21) k) ?_
  refine Go.retB X0 hlk hx (t := .boolean) hret (by simp) (hb hby d6_22) e0 ?_ (by decide) (by decide)
  show (some (.int (0 : Int32)) : Option Value) = some (.int (obI_N0 )) ∧ _
  exact ⟨by rw [obI_N0], N0, rfl⟩
def obI_N1 (y0 : Int32) : Int32 := (0 : Int32)
set_option maxRecDepth 65536 in
set_option maxHeartbeats 40000000 in
theorem ob_N1 (l : Launch) (Z : State) (a0 : Array Value) (hw : ∀ d ∈ tables_1, d.before a0 Z = true) (ws : List Jvm.Cond) (s2 : Addr) (t2 : Addr) (k2 : ClassId) (y0 : Int32) (i_COMPACT_STRINGS : Int32) (v_SIOOBE_FORMATTER : Value) (h0 : Heap) (n0 : Nat) (O0 : Old Z n0 h0) (E_s2 : Exa Z h0 s2 "java/lang/String") (F_s2_coder : Fld Z h0 s2 "java/lang/String" "coder" "B" (.int 0)) (F_s2_value : Fld Z h0 s2 "java/lang/String" "value" "[B" (.ref t2)) (V_t2 : Arv Z h0 t2 k2 .byte (1 : Int32) [(.int y0)] (.int 0)) (WW : World1 Z i_COMPACT_STRINGS v_SIOOBE_FORMATTER) :
    Con l Z (⟨"java/util/Objects", "equals", "(Ljava/lang/Object;Ljava/lang/Object;)Z"⟩ : MethodName) jdk_31_method_2_code 2 (some .boolean) ws ({ frames := 0, cells := 0, slots := 0, locals := 0 } : Room) #[.null, (.ref s2)] h0 (fun v h L => v = some (.int (obI_N1 y0)) ∧ Fr n0 L ∧ h = h0) := by
  refine own_body (plainFor_of_name pn_java_util_Objects) ?_
  intro p e s m below meth c s₁ hx hby hml hZ hown hnm hlk hret X0 e0
  have N0 := Fr.nil n0
  refine Go.st (T' := s₁) (f' := (mkF m 0 #[.val .null, rv s2] [])) (fun _ k => castTop (by first | (simp [entryFrame, mkF, argsToLocals, Value.category]; done) | rfl) k) ?_
  have ⟨S_i_COMPACT_STRINGS, nz_i_COMPACT_STRINGS, S_v_SIOOBE_FORMATTER, r_v_SIOOBE_FORMATTER⟩ := WW
  have lt_s2 := E_s2.lt
  have lt_t2 := V_t2.lt
  refine Go.st (f' := (mkF m 1 #[.val .null, rv s2] [.null])) (fun _ k => XS.aloadN X0.here hx rfl (hb hby d6_0) rfl rfl k) ?_
  refine Go.st (f' := (mkF m 2 #[.val .null, rv s2] [(.ref s2), .null])) (fun _ k => XS.aloadN X0.here hx rfl (hb hby d6_1) rfl rfl k) ?_
  refine Go.st (f' := (mkF m 5 #[.val .null, rv s2] [])) (fun _ k => Jvm.RoadKit.acmp (g := (mkF m 2 #[.val .null, rv s2] [(.ref s2), .null])) X0 hx rfl rfl rfl (pc0 := 2) (pc' := 5) (same := false) rfl (hb hby d6_2) rfl (decide_eq_false nofun) (by decide) (by decide) k) ?_
  refine Go.st (f' := (mkF m 6 #[.val .null, rv s2] [.null])) (fun _ k => XS.aloadN X0.here hx rfl (hb hby d6_5) rfl rfl k) ?_
  refine Go.st (f' := (mkF m 21 #[.val .null, rv s2] [])) (fun _ k => XS.ifnullYes X0.here hx rfl (pc0 := 6) (pc' := 21) rfl (hb hby d6_6) rfl (by decide) (by decide) k) ?_
  refine Go.st (f' := (mkF m 22 #[.val .null, rv s2] [(.int 0)])) (fun _ k => XS.iconst X0.here hx rfl (hb hby d6_21) k) ?_
  refine Go.retB X0 hlk hx (t := .boolean) hret (by simp) (hb hby d6_22) e0 ?_ (by decide) (by decide)
  show (some (.int (0 : Int32)) : Option Value) = some (.int (obI_N1 y0)) ∧ _
  exact ⟨by rw [obI_N1], N0, rfl⟩
def obI_N2 (y0 : Int32) (y1 : Int32) : Int32 := (0 : Int32)
set_option maxRecDepth 65536 in
set_option maxHeartbeats 40000000 in
theorem ob_N2 (l : Launch) (Z : State) (a0 : Array Value) (hw : ∀ d ∈ tables_1, d.before a0 Z = true) (ws : List Jvm.Cond) (s2 : Addr) (t2 : Addr) (k2 : ClassId) (y0 : Int32) (y1 : Int32) (i_COMPACT_STRINGS : Int32) (v_SIOOBE_FORMATTER : Value) (h0 : Heap) (n0 : Nat) (O0 : Old Z n0 h0) (E_s2 : Exa Z h0 s2 "java/lang/String") (F_s2_coder : Fld Z h0 s2 "java/lang/String" "coder" "B" (.int 0)) (F_s2_value : Fld Z h0 s2 "java/lang/String" "value" "[B" (.ref t2)) (V_t2 : Arv Z h0 t2 k2 .byte (2 : Int32) [(.int y0), (.int y1)] (.int 0)) (WW : World1 Z i_COMPACT_STRINGS v_SIOOBE_FORMATTER) :
    Con l Z (⟨"java/util/Objects", "equals", "(Ljava/lang/Object;Ljava/lang/Object;)Z"⟩ : MethodName) jdk_31_method_2_code 2 (some .boolean) ws ({ frames := 0, cells := 0, slots := 0, locals := 0 } : Room) #[.null, (.ref s2)] h0 (fun v h L => v = some (.int (obI_N2 y0 y1)) ∧ Fr n0 L ∧ h = h0) := by
  refine own_body (plainFor_of_name pn_java_util_Objects) ?_
  intro p e s m below meth c s₁ hx hby hml hZ hown hnm hlk hret X0 e0
  have N0 := Fr.nil n0
  refine Go.st (T' := s₁) (f' := (mkF m 0 #[.val .null, rv s2] [])) (fun _ k => castTop (by first | (simp [entryFrame, mkF, argsToLocals, Value.category]; done) | rfl) k) ?_
  have ⟨S_i_COMPACT_STRINGS, nz_i_COMPACT_STRINGS, S_v_SIOOBE_FORMATTER, r_v_SIOOBE_FORMATTER⟩ := WW
  have lt_s2 := E_s2.lt
  have lt_t2 := V_t2.lt
  refine Go.st (f' := (mkF m 1 #[.val .null, rv s2] [.null])) (fun _ k => XS.aloadN X0.here hx rfl (hb hby d6_0) rfl rfl k) ?_
  refine Go.st (f' := (mkF m 2 #[.val .null, rv s2] [(.ref s2), .null])) (fun _ k => XS.aloadN X0.here hx rfl (hb hby d6_1) rfl rfl k) ?_
  refine Go.st (f' := (mkF m 5 #[.val .null, rv s2] [])) (fun _ k => Jvm.RoadKit.acmp (g := (mkF m 2 #[.val .null, rv s2] [(.ref s2), .null])) X0 hx rfl rfl rfl (pc0 := 2) (pc' := 5) (same := false) rfl (hb hby d6_2) rfl (decide_eq_false nofun) (by decide) (by decide) k) ?_
  refine Go.st (f' := (mkF m 6 #[.val .null, rv s2] [.null])) (fun _ k => XS.aloadN X0.here hx rfl (hb hby d6_5) rfl rfl k) ?_
  refine Go.st (f' := (mkF m 21 #[.val .null, rv s2] [])) (fun _ k => XS.ifnullYes X0.here hx rfl (pc0 := 6) (pc' := 21) rfl (hb hby d6_6) rfl (by decide) (by decide) k) ?_
  refine Go.st (f' := (mkF m 22 #[.val .null, rv s2] [(.int 0)])) (fun _ k => XS.iconst X0.here hx rfl (hb hby d6_21) k) ?_
  refine Go.retB X0 hlk hx (t := .boolean) hret (by simp) (hb hby d6_22) e0 ?_ (by decide) (by decide)
  show (some (.int (0 : Int32)) : Option Value) = some (.int (obI_N2 y0 y1)) ∧ _
  exact ⟨by rw [obI_N2], N0, rfl⟩
theorem d6_9 : decode jdk_31_method_2_code 9 = .ok (.aload_n 0, 1) := by decide +kernel
theorem d6_10 : decode jdk_31_method_2_code 10 = .ok (.aload_n 1, 1) := by decide +kernel
theorem d6_11 : decode jdk_31_method_2_code 11 = .ok (.invokevirtual 14, 3) := by decide +kernel
theorem pd__Ljava_lang_Object__Z : parseMethodDescriptor "(Ljava/lang/Object;)Z" = some ⟨[(.object "java/lang/Object")], some .boolean⟩ := by decide +kernel
theorem d6_14 : decode jdk_31_method_2_code 14 = .ok (.ifCond .eq 7, 3) := by decide +kernel
def obI_0N  : Int32 := (0 : Int32)
set_option maxRecDepth 65536 in
set_option maxHeartbeats 40000000 in
theorem ob_0N (l : Launch) (Z : State) (a0 : Array Value) (hw : ∀ d ∈ tables_1, d.before a0 Z = true) (ws : List Jvm.Cond) (s1 : Addr) (t1 : Addr) (k1 : ClassId) (i_COMPACT_STRINGS : Int32) (v_SIOOBE_FORMATTER : Value) (h0 : Heap) (n0 : Nat) (O0 : Old Z n0 h0) (E_s1 : Exa Z h0 s1 "java/lang/String") (F_s1_coder : Fld Z h0 s1 "java/lang/String" "coder" "B" (.int 0)) (F_s1_value : Fld Z h0 s1 "java/lang/String" "value" "[B" (.ref t1)) (V_t1 : Arv Z h0 t1 k1 .byte (0 : Int32) [] (.int 0)) (WW : World1 Z i_COMPACT_STRINGS v_SIOOBE_FORMATTER) :
    Con l Z (⟨"java/util/Objects", "equals", "(Ljava/lang/Object;Ljava/lang/Object;)Z"⟩ : MethodName) jdk_31_method_2_code 2 (some .boolean) ws ({ frames := 1, cells := 0, slots := 0, locals := 14 } : Room) #[(.ref s1), .null] h0 (fun v h L => v = some (.int (obI_0N )) ∧ Fr n0 L ∧ h = h0) := by
  refine own_body (plainFor_of_name pn_java_util_Objects) ?_
  intro p e s m below meth c s₁ hx hby hml hZ hown hnm hlk hret X0 e0
  have N0 := Fr.nil n0
  refine Go.st (T' := s₁) (f' := (mkF m 0 #[rv s1, .val .null] [])) (fun _ k => castTop (by first | (simp [entryFrame, mkF, argsToLocals, Value.category]; done) | rfl) k) ?_
  have ⟨S_i_COMPACT_STRINGS, nz_i_COMPACT_STRINGS, S_v_SIOOBE_FORMATTER, r_v_SIOOBE_FORMATTER⟩ := WW
  have lt_s1 := E_s1.lt
  have lt_t1 := V_t1.lt
  refine Go.st (f' := (mkF m 1 #[rv s1, .val .null] [(.ref s1)])) (fun _ k => XS.aloadN X0.here hx rfl (hb hby d6_0) rfl rfl k) ?_
  refine Go.st (f' := (mkF m 2 #[rv s1, .val .null] [.null, (.ref s1)])) (fun _ k => XS.aloadN X0.here hx rfl (hb hby d6_1) rfl rfl k) ?_
  refine Go.st (f' := (mkF m 5 #[rv s1, .val .null] [])) (fun _ k => Jvm.RoadKit.acmp (g := (mkF m 2 #[rv s1, .val .null] [.null, (.ref s1)])) X0 hx rfl rfl rfl (pc0 := 2) (pc' := 5) (same := false) rfl (hb hby d6_2) rfl (decide_eq_false nofun) (by decide) (by decide) k) ?_
  refine Go.st (f' := (mkF m 6 #[rv s1, .val .null] [(.ref s1)])) (fun _ k => XS.aloadN X0.here hx rfl (hb hby d6_5) rfl rfl k) ?_
  refine Go.st (f' := (mkF m 9 #[rv s1, .val .null] [])) (fun _ k => XS.ifnullNo X0.here hx rfl (hb hby d6_6) rfl k) ?_
  refine Go.st (f' := (mkF m 10 #[rv s1, .val .null] [(.ref s1)])) (fun _ k => XS.aloadN X0.here hx rfl (hb hby d6_9) rfl rfl k) ?_
  refine Go.st (f' := (mkF m 11 #[rv s1, .val .null] [.null, (.ref s1)])) (fun _ k => XS.aloadN X0.here hx rfl (hb hby d6_10) rfl rfl k) ?_
  obtain ⟨cq1, kq1, q1a, q1b, q1c⟩ := isOf hZ e0 E_s1
  obtain ⟨_, _, ⟨T1, L1, kk1, nn1⟩, -, X1, ⟨Lc1, hQ1, lq1, yq1, zz1⟩, st1⟩ := X0.virtualBack hx (y := (⟨"java/lang/Object", "equals", "(Ljava/lang/Object;)Z"⟩ : MethodName)) (z := (⟨"java/lang/String", "equals", "(Ljava/lang/Object;)Z"⟩ : MethodName)) hown (mvT hZ (hw _ (List.mem_of_getElem? (i := 66) rfl))) (mvT hZ (hw _ (List.mem_of_getElem? (i := 32) rfl))) (nf_top (args := #[]) (mvT hZ (hw _ (List.mem_of_getElem? (i := 76) rfl)))) (mvT hZ (hw _ (List.mem_of_getElem? (i := 67) rfl))) (mvT hZ (hw _ (List.mem_of_getElem? (i := 68) rfl))) (by decide) (own_back (W := 0) (eq_0_N l Z a0 hw [] s1 i_COMPACT_STRINGS v_SIOOBE_FORMATTER h0 n0 O0 WW) hZ (hw _ (List.mem_of_getElem? (i := 69) rfl)) (hw _ (List.mem_of_getElem? (i := 37) rfl)) (by decide) (by decide)) q1a q1c (g := (mkF m 11 #[rv s1, .val .null] [.null, (.ref s1)])) rfl (by rw [hml]; rfl) (Steps.refl _) (argsL := [.null]) (rest := []) (lenOf pd__Ljava_lang_Object__Z rfl) rfl (by show 2 * 0 + _ ≤ _; exact Nat.le_of_eq rfl) (hb hby d6_11) (fun _ _ => ⟨rfl, e0, (by decide : 0 + 0 ≤ _), (by decide : 0 + 0 ≤ _)⟩)
  dsimp only [Pt.U, Pt.locs, Pt.cells, Pt.slots] at X1 lq1 yq1 zz1 st1 hQ1
  subst lq1 yq1 zz1
  obtain ⟨rfl, Nq1, kq1⟩ := hQ1
  have N1 := Fr.app N0 Nq1
  refine Go.tr (f' := (mkF m 14 #[rv s1, .val .null] [(.int 0)])) st1 ?_
  refine Go.st (f' := (mkF m 21 #[rv s1, .val .null] [])) (fun _ k => XS.ifYes X1.here hx rfl (pc0 := 14) (pc' := 21) rfl (hb hby d6_14) rfl (by decide) (by decide) (by decide) k) ?_
  refine Go.st (f' := (mkF m 22 #[rv s1, .val .null] [(.int 0)])) (fun _ k => XS.iconst X1.here hx rfl (hb hby d6_21) k) ?_
  refine Go.retB X1 hlk hx (t := .boolean) hret (by simp) (hb hby d6_22) kq1 ?_ (by decide) (by decide)
  show (some (.int (0 : Int32)) : Option Value) = some (.int (obI_0N )) ∧ _
  exact ⟨by rw [obI_0N], N1, rfl⟩
def obI_00  : Int32 := (if (eqI_0_0) = (0 : Int32) then (0 : Int32) else (1 : Int32))
set_option maxRecDepth 65536 in
set_option maxHeartbeats 40000000 in
theorem ob_00 (l : Launch) (Z : State) (a0 : Array Value) (hw : ∀ d ∈ tables_1, d.before a0 Z = true) (ws : List Jvm.Cond) (s1 : Addr) (t1 : Addr) (k1 : ClassId) (s2 : Addr) (t2 : Addr) (k2 : ClassId) (i_COMPACT_STRINGS : Int32) (v_SIOOBE_FORMATTER : Value) (h0 : Heap) (n0 : Nat) (O0 : Old Z n0 h0) (ne12 : s1 ≠ s2) (E_s1 : Exa Z h0 s1 "java/lang/String") (F_s1_coder : Fld Z h0 s1 "java/lang/String" "coder" "B" (.int 0)) (F_s1_value : Fld Z h0 s1 "java/lang/String" "value" "[B" (.ref t1)) (V_t1 : Arv Z h0 t1 k1 .byte (0 : Int32) [] (.int 0)) (E_s2 : Exa Z h0 s2 "java/lang/String") (F_s2_coder : Fld Z h0 s2 "java/lang/String" "coder" "B" (.int 0)) (F_s2_value : Fld Z h0 s2 "java/lang/String" "value" "[B" (.ref t2)) (V_t2 : Arv Z h0 t2 k2 .byte (0 : Int32) [] (.int 0)) (WW : World1 Z i_COMPACT_STRINGS v_SIOOBE_FORMATTER) :
    Con l Z (⟨"java/util/Objects", "equals", "(Ljava/lang/Object;Ljava/lang/Object;)Z"⟩ : MethodName) jdk_31_method_2_code 2 (some .boolean) ws ({ frames := 2, cells := 0, slots := 0, locals := 28 } : Room) #[(.ref s1), (.ref s2)] h0 (fun v h L => v = some (.int (obI_00 )) ∧ Fr n0 L ∧ h = h0) := by
  refine own_body (plainFor_of_name pn_java_util_Objects) ?_
  intro p e s m below meth c s₁ hx hby hml hZ hown hnm hlk hret X0 e0
  have N0 := Fr.nil n0
  refine Go.st (T' := s₁) (f' := (mkF m 0 #[rv s1, rv s2] [])) (fun _ k => castTop (by first | (simp [entryFrame, mkF, argsToLocals, Value.category]; done) | rfl) k) ?_
  have ⟨S_i_COMPACT_STRINGS, nz_i_COMPACT_STRINGS, S_v_SIOOBE_FORMATTER, r_v_SIOOBE_FORMATTER⟩ := WW
  have lt_s1 := E_s1.lt
  have lt_t1 := V_t1.lt
  have lt_s2 := E_s2.lt
  have lt_t2 := V_t2.lt
  refine Go.st (f' := (mkF m 1 #[rv s1, rv s2] [(.ref s1)])) (fun _ k => XS.aloadN X0.here hx rfl (hb hby d6_0) rfl rfl k) ?_
  refine Go.st (f' := (mkF m 2 #[rv s1, rv s2] [(.ref s2), (.ref s1)])) (fun _ k => XS.aloadN X0.here hx rfl (hb hby d6_1) rfl rfl k) ?_
  refine Go.st (f' := (mkF m 5 #[rv s1, rv s2] [])) (fun _ k => Jvm.RoadKit.acmp (g := (mkF m 2 #[rv s1, rv s2] [(.ref s2), (.ref s1)])) X0 hx rfl rfl rfl (pc0 := 2) (pc' := 5) (same := false) rfl (hb hby d6_2) rfl (decide_eq_false fun q => ne12 (Value.ref.inj q)) (by decide) (by decide) k) ?_
  refine Go.st (f' := (mkF m 6 #[rv s1, rv s2] [(.ref s1)])) (fun _ k => XS.aloadN X0.here hx rfl (hb hby d6_5) rfl rfl k) ?_
  refine Go.st (f' := (mkF m 9 #[rv s1, rv s2] [])) (fun _ k => XS.ifnullNo X0.here hx rfl (hb hby d6_6) rfl k) ?_
  refine Go.st (f' := (mkF m 10 #[rv s1, rv s2] [(.ref s1)])) (fun _ k => XS.aloadN X0.here hx rfl (hb hby d6_9) rfl rfl k) ?_
  refine Go.st (f' := (mkF m 11 #[rv s1, rv s2] [(.ref s2), (.ref s1)])) (fun _ k => XS.aloadN X0.here hx rfl (hb hby d6_10) rfl rfl k) ?_
  obtain ⟨cq1, kq1, q1a, q1b, q1c⟩ := isOf hZ e0 E_s1
  obtain ⟨_, _, ⟨T1, L1, kk1, nn1⟩, -, X1, ⟨Lc1, hQ1, lq1, yq1, zz1⟩, st1⟩ := X0.virtualBack hx (y := (⟨"java/lang/Object", "equals", "(Ljava/lang/Object;)Z"⟩ : MethodName)) (z := (⟨"java/lang/String", "equals", "(Ljava/lang/Object;)Z"⟩ : MethodName)) hown (mvT hZ (hw _ (List.mem_of_getElem? (i := 66) rfl))) (mvT hZ (hw _ (List.mem_of_getElem? (i := 32) rfl))) (nf_top (args := #[]) (mvT hZ (hw _ (List.mem_of_getElem? (i := 76) rfl)))) (mvT hZ (hw _ (List.mem_of_getElem? (i := 67) rfl))) (mvT hZ (hw _ (List.mem_of_getElem? (i := 68) rfl))) (by decide) (own_back (W := 0) (eq_0_0 l Z a0 hw [] s1 s2 t1 k1 t2 k2  i_COMPACT_STRINGS v_SIOOBE_FORMATTER h0 n0 O0 ne12 E_s1 F_s1_coder F_s1_value E_s2 F_s2_coder F_s2_value V_t1 V_t2 WW) hZ (hw _ (List.mem_of_getElem? (i := 69) rfl)) (hw _ (List.mem_of_getElem? (i := 37) rfl)) (by decide) (by decide)) q1a q1c (g := (mkF m 11 #[rv s1, rv s2] [(.ref s2), (.ref s1)])) rfl (by rw [hml]; rfl) (Steps.refl _) (argsL := [(.ref s2)]) (rest := []) (lenOf pd__Ljava_lang_Object__Z rfl) rfl (by show 2 * 0 + _ ≤ _; exact Nat.le_of_eq rfl) (hb hby d6_11) (fun _ _ => ⟨rfl, e0, (by decide : 0 + 0 ≤ _), (by decide : 0 + 0 ≤ _)⟩)
  dsimp only [Pt.U, Pt.locs, Pt.cells, Pt.slots] at X1 lq1 yq1 zz1 st1 hQ1
  subst lq1 yq1 zz1
  obtain ⟨rfl, Nq1, kq1⟩ := hQ1
  have N1 := Fr.app N0 Nq1
  refine Go.tr (f' := (mkF m 14 #[rv s1, rv s2] [(.int (eqI_0_0))])) st1 ?_
  by_cases cd2 : (eqI_0_0) = (0 : Int32)
  · refine Go.st (f' := (mkF m 21 #[rv s1, rv s2] [])) (fun _ k => XS.ifYes X1.here hx rfl (pc0 := 14) (pc' := 21) rfl (hb hby d6_14) rfl ((if0 _ _).trans (teq cd2).1) (by decide) (by decide) k) ?_
    refine Go.st (f' := (mkF m 22 #[rv s1, rv s2] [(.int 0)])) (fun _ k => XS.iconst X1.here hx rfl (hb hby d6_21) k) ?_
    refine Go.retB X1 hlk hx (t := .boolean) hret (by simp) (hb hby d6_22) kq1 ?_ (by decide) (by decide)
    show (some (.int (0 : Int32)) : Option Value) = some (.int (obI_00 )) ∧ _
    exact ⟨by rw [obI_00, if_pos cd2], N1, rfl⟩
  · refine Go.st (f' := (mkF m 17 #[rv s1, rv s2] [])) (fun _ k => XS.ifNo X1.here hx rfl (hb hby d6_14) rfl ((if0 _ _).trans (feq cd2).1) k) ?_
    refine Go.st (f' := (mkF m 18 #[rv s1, rv s2] [(.int 1)])) (fun _ k => XS.iconst X1.here hx rfl (hb hby d6_17) k) ?_
    refine Go.st (f' := (mkF m 22 #[rv s1, rv s2] [(.int 1)])) (fun _ k => XS.goto X1.here hx rfl (pc0 := 18) (pc' := 22) rfl (hb hby d6_18) (by decide) (by decide) k) ?_
    refine Go.retB X1 hlk hx (t := .boolean) hret (by simp) (hb hby d6_22) kq1 ?_ (by decide) (by decide)
    show (some (.int (1 : Int32)) : Option Value) = some (.int (obI_00 )) ∧ _
    exact ⟨by rw [obI_00, if_neg cd2], N1, rfl⟩
def obI_01 (y0 : Int32) : Int32 := (if (eqI_0_1 y0) = (0 : Int32) then (0 : Int32) else (1 : Int32))
set_option maxRecDepth 65536 in
set_option maxHeartbeats 40000000 in
theorem ob_01 (l : Launch) (Z : State) (a0 : Array Value) (hw : ∀ d ∈ tables_1, d.before a0 Z = true) (ws : List Jvm.Cond) (s1 : Addr) (t1 : Addr) (k1 : ClassId) (s2 : Addr) (t2 : Addr) (k2 : ClassId) (y0 : Int32) (i_COMPACT_STRINGS : Int32) (v_SIOOBE_FORMATTER : Value) (h0 : Heap) (n0 : Nat) (O0 : Old Z n0 h0) (ne12 : s1 ≠ s2) (E_s1 : Exa Z h0 s1 "java/lang/String") (F_s1_coder : Fld Z h0 s1 "java/lang/String" "coder" "B" (.int 0)) (F_s1_value : Fld Z h0 s1 "java/lang/String" "value" "[B" (.ref t1)) (V_t1 : Arv Z h0 t1 k1 .byte (0 : Int32) [] (.int 0)) (E_s2 : Exa Z h0 s2 "java/lang/String") (F_s2_coder : Fld Z h0 s2 "java/lang/String" "coder" "B" (.int 0)) (F_s2_value : Fld Z h0 s2 "java/lang/String" "value" "[B" (.ref t2)) (V_t2 : Arv Z h0 t2 k2 .byte (1 : Int32) [(.int y0)] (.int 0)) (WW : World1 Z i_COMPACT_STRINGS v_SIOOBE_FORMATTER) :
    Con l Z (⟨"java/util/Objects", "equals", "(Ljava/lang/Object;Ljava/lang/Object;)Z"⟩ : MethodName) jdk_31_method_2_code 2 (some .boolean) ws ({ frames := 2, cells := 0, slots := 0, locals := 28 } : Room) #[(.ref s1), (.ref s2)] h0 (fun v h L => v = some (.int (obI_01 y0)) ∧ Fr n0 L ∧ h = h0) := by
  refine own_body (plainFor_of_name pn_java_util_Objects) ?_
  intro p e s m below meth c s₁ hx hby hml hZ hown hnm hlk hret X0 e0
  have N0 := Fr.nil n0
  refine Go.st (T' := s₁) (f' := (mkF m 0 #[rv s1, rv s2] [])) (fun _ k => castTop (by first | (simp [entryFrame, mkF, argsToLocals, Value.category]; done) | rfl) k) ?_
  have ⟨S_i_COMPACT_STRINGS, nz_i_COMPACT_STRINGS, S_v_SIOOBE_FORMATTER, r_v_SIOOBE_FORMATTER⟩ := WW
  have lt_s1 := E_s1.lt
  have lt_t1 := V_t1.lt
  have lt_s2 := E_s2.lt
  have lt_t2 := V_t2.lt
  refine Go.st (f' := (mkF m 1 #[rv s1, rv s2] [(.ref s1)])) (fun _ k => XS.aloadN X0.here hx rfl (hb hby d6_0) rfl rfl k) ?_
  refine Go.st (f' := (mkF m 2 #[rv s1, rv s2] [(.ref s2), (.ref s1)])) (fun _ k => XS.aloadN X0.here hx rfl (hb hby d6_1) rfl rfl k) ?_
  refine Go.st (f' := (mkF m 5 #[rv s1, rv s2] [])) (fun _ k => Jvm.RoadKit.acmp (g := (mkF m 2 #[rv s1, rv s2] [(.ref s2), (.ref s1)])) X0 hx rfl rfl rfl (pc0 := 2) (pc' := 5) (same := false) rfl (hb hby d6_2) rfl (decide_eq_false fun q => ne12 (Value.ref.inj q)) (by decide) (by decide) k) ?_
  refine Go.st (f' := (mkF m 6 #[rv s1, rv s2] [(.ref s1)])) (fun _ k => XS.aloadN X0.here hx rfl (hb hby d6_5) rfl rfl k) ?_
  refine Go.st (f' := (mkF m 9 #[rv s1, rv s2] [])) (fun _ k => XS.ifnullNo X0.here hx rfl (hb hby d6_6) rfl k) ?_
  refine Go.st (f' := (mkF m 10 #[rv s1, rv s2] [(.ref s1)])) (fun _ k => XS.aloadN X0.here hx rfl (hb hby d6_9) rfl rfl k) ?_
  refine Go.st (f' := (mkF m 11 #[rv s1, rv s2] [(.ref s2), (.ref s1)])) (fun _ k => XS.aloadN X0.here hx rfl (hb hby d6_10) rfl rfl k) ?_
  obtain ⟨cq1, kq1, q1a, q1b, q1c⟩ := isOf hZ e0 E_s1
  obtain ⟨_, _, ⟨T1, L1, kk1, nn1⟩, -, X1, ⟨Lc1, hQ1, lq1, yq1, zz1⟩, st1⟩ := X0.virtualBack hx (y := (⟨"java/lang/Object", "equals", "(Ljava/lang/Object;)Z"⟩ : MethodName)) (z := (⟨"java/lang/String", "equals", "(Ljava/lang/Object;)Z"⟩ : MethodName)) hown (mvT hZ (hw _ (List.mem_of_getElem? (i := 66) rfl))) (mvT hZ (hw _ (List.mem_of_getElem? (i := 32) rfl))) (nf_top (args := #[]) (mvT hZ (hw _ (List.mem_of_getElem? (i := 76) rfl)))) (mvT hZ (hw _ (List.mem_of_getElem? (i := 67) rfl))) (mvT hZ (hw _ (List.mem_of_getElem? (i := 68) rfl))) (by decide) (own_back (W := 0) (eq_0_1 l Z a0 hw [] s1 s2 t1 k1 t2 k2 y0 i_COMPACT_STRINGS v_SIOOBE_FORMATTER h0 n0 O0 ne12 E_s1 F_s1_coder F_s1_value E_s2 F_s2_coder F_s2_value V_t1 V_t2 WW) hZ (hw _ (List.mem_of_getElem? (i := 69) rfl)) (hw _ (List.mem_of_getElem? (i := 37) rfl)) (by decide) (by decide)) q1a q1c (g := (mkF m 11 #[rv s1, rv s2] [(.ref s2), (.ref s1)])) rfl (by rw [hml]; rfl) (Steps.refl _) (argsL := [(.ref s2)]) (rest := []) (lenOf pd__Ljava_lang_Object__Z rfl) rfl (by show 2 * 0 + _ ≤ _; exact Nat.le_of_eq rfl) (hb hby d6_11) (fun _ _ => ⟨rfl, e0, (by decide : 0 + 0 ≤ _), (by decide : 0 + 0 ≤ _)⟩)
  dsimp only [Pt.U, Pt.locs, Pt.cells, Pt.slots] at X1 lq1 yq1 zz1 st1 hQ1
  subst lq1 yq1 zz1
  obtain ⟨rfl, Nq1, kq1⟩ := hQ1
  have N1 := Fr.app N0 Nq1
  refine Go.tr (f' := (mkF m 14 #[rv s1, rv s2] [(.int (eqI_0_1 y0))])) st1 ?_
  by_cases cd2 : (eqI_0_1 y0) = (0 : Int32)
  · refine Go.st (f' := (mkF m 21 #[rv s1, rv s2] [])) (fun _ k => XS.ifYes X1.here hx rfl (pc0 := 14) (pc' := 21) rfl (hb hby d6_14) rfl ((if0 _ _).trans (teq cd2).1) (by decide) (by decide) k) ?_
    refine Go.st (f' := (mkF m 22 #[rv s1, rv s2] [(.int 0)])) (fun _ k => XS.iconst X1.here hx rfl (hb hby d6_21) k) ?_
    refine Go.retB X1 hlk hx (t := .boolean) hret (by simp) (hb hby d6_22) kq1 ?_ (by decide) (by decide)
    show (some (.int (0 : Int32)) : Option Value) = some (.int (obI_01 y0)) ∧ _
    exact ⟨by rw [obI_01, if_pos cd2], N1, rfl⟩
  · refine Go.st (f' := (mkF m 17 #[rv s1, rv s2] [])) (fun _ k => XS.ifNo X1.here hx rfl (hb hby d6_14) rfl ((if0 _ _).trans (feq cd2).1) k) ?_
    refine Go.st (f' := (mkF m 18 #[rv s1, rv s2] [(.int 1)])) (fun _ k => XS.iconst X1.here hx rfl (hb hby d6_17) k) ?_
    refine Go.st (f' := (mkF m 22 #[rv s1, rv s2] [(.int 1)])) (fun _ k => XS.goto X1.here hx rfl (pc0 := 18) (pc' := 22) rfl (hb hby d6_18) (by decide) (by decide) k) ?_
    refine Go.retB X1 hlk hx (t := .boolean) hret (by simp) (hb hby d6_22) kq1 ?_ (by decide) (by decide)
    show (some (.int (1 : Int32)) : Option Value) = some (.int (obI_01 y0)) ∧ _
    exact ⟨by rw [obI_01, if_neg cd2], N1, rfl⟩
def obI_02 (y0 : Int32) (y1 : Int32) : Int32 := (if (eqI_0_2 y0 y1) = (0 : Int32) then (0 : Int32) else (1 : Int32))
set_option maxRecDepth 65536 in
set_option maxHeartbeats 40000000 in
theorem ob_02 (l : Launch) (Z : State) (a0 : Array Value) (hw : ∀ d ∈ tables_1, d.before a0 Z = true) (ws : List Jvm.Cond) (s1 : Addr) (t1 : Addr) (k1 : ClassId) (s2 : Addr) (t2 : Addr) (k2 : ClassId) (y0 : Int32) (y1 : Int32) (i_COMPACT_STRINGS : Int32) (v_SIOOBE_FORMATTER : Value) (h0 : Heap) (n0 : Nat) (O0 : Old Z n0 h0) (ne12 : s1 ≠ s2) (E_s1 : Exa Z h0 s1 "java/lang/String") (F_s1_coder : Fld Z h0 s1 "java/lang/String" "coder" "B" (.int 0)) (F_s1_value : Fld Z h0 s1 "java/lang/String" "value" "[B" (.ref t1)) (V_t1 : Arv Z h0 t1 k1 .byte (0 : Int32) [] (.int 0)) (E_s2 : Exa Z h0 s2 "java/lang/String") (F_s2_coder : Fld Z h0 s2 "java/lang/String" "coder" "B" (.int 0)) (F_s2_value : Fld Z h0 s2 "java/lang/String" "value" "[B" (.ref t2)) (V_t2 : Arv Z h0 t2 k2 .byte (2 : Int32) [(.int y0), (.int y1)] (.int 0)) (WW : World1 Z i_COMPACT_STRINGS v_SIOOBE_FORMATTER) :
    Con l Z (⟨"java/util/Objects", "equals", "(Ljava/lang/Object;Ljava/lang/Object;)Z"⟩ : MethodName) jdk_31_method_2_code 2 (some .boolean) ws ({ frames := 2, cells := 0, slots := 0, locals := 28 } : Room) #[(.ref s1), (.ref s2)] h0 (fun v h L => v = some (.int (obI_02 y0 y1)) ∧ Fr n0 L ∧ h = h0) := by
  refine own_body (plainFor_of_name pn_java_util_Objects) ?_
  intro p e s m below meth c s₁ hx hby hml hZ hown hnm hlk hret X0 e0
  have N0 := Fr.nil n0
  refine Go.st (T' := s₁) (f' := (mkF m 0 #[rv s1, rv s2] [])) (fun _ k => castTop (by first | (simp [entryFrame, mkF, argsToLocals, Value.category]; done) | rfl) k) ?_
  have ⟨S_i_COMPACT_STRINGS, nz_i_COMPACT_STRINGS, S_v_SIOOBE_FORMATTER, r_v_SIOOBE_FORMATTER⟩ := WW
  have lt_s1 := E_s1.lt
  have lt_t1 := V_t1.lt
  have lt_s2 := E_s2.lt
  have lt_t2 := V_t2.lt
  refine Go.st (f' := (mkF m 1 #[rv s1, rv s2] [(.ref s1)])) (fun _ k => XS.aloadN X0.here hx rfl (hb hby d6_0) rfl rfl k) ?_
  refine Go.st (f' := (mkF m 2 #[rv s1, rv s2] [(.ref s2), (.ref s1)])) (fun _ k => XS.aloadN X0.here hx rfl (hb hby d6_1) rfl rfl k) ?_
  refine Go.st (f' := (mkF m 5 #[rv s1, rv s2] [])) (fun _ k => Jvm.RoadKit.acmp (g := (mkF m 2 #[rv s1, rv s2] [(.ref s2), (.ref s1)])) X0 hx rfl rfl rfl (pc0 := 2) (pc' := 5) (same := false) rfl (hb hby d6_2) rfl (decide_eq_false fun q => ne12 (Value.ref.inj q)) (by decide) (by decide) k) ?_
  refine Go.st (f' := (mkF m 6 #[rv s1, rv s2] [(.ref s1)])) (fun _ k => XS.aloadN X0.here hx rfl (hb hby d6_5) rfl rfl k) ?_
  refine Go.st (f' := (mkF m 9 #[rv s1, rv s2] [])) (fun _ k => XS.ifnullNo X0.here hx rfl (hb hby d6_6) rfl k) ?_
  refine Go.st (f' := (mkF m 10 #[rv s1, rv s2] [(.ref s1)])) (fun _ k => XS.aloadN X0.here hx rfl (hb hby d6_9) rfl rfl k) ?_
  refine Go.st (f' := (mkF m 11 #[rv s1, rv s2] [(.ref s2), (.ref s1)])) (fun _ k => XS.aloadN X0.here hx rfl (hb hby d6_10) rfl rfl k) ?_
  obtain ⟨cq1, kq1, q1a, q1b, q1c⟩ := isOf hZ e0 E_s1
  obtain ⟨_, _, ⟨T1, L1, kk1, nn1⟩, -, X1, ⟨Lc1, hQ1, lq1, yq1, zz1⟩, st1⟩ := X0.virtualBack hx (y := (⟨"java/lang/Object", "equals", "(Ljava/lang/Object;)Z"⟩ : MethodName)) (z := (⟨"java/lang/String", "equals", "(Ljava/lang/Object;)Z"⟩ : MethodName)) hown (mvT hZ (hw _ (List.mem_of_getElem? (i := 66) rfl))) (mvT hZ (hw _ (List.mem_of_getElem? (i := 32) rfl))) (nf_top (args := #[]) (mvT hZ (hw _ (List.mem_of_getElem? (i := 76) rfl)))) (mvT hZ (hw _ (List.mem_of_getElem? (i := 67) rfl))) (mvT hZ (hw _ (List.mem_of_getElem? (i := 68) rfl))) (by decide) (own_back (W := 0) (eq_0_2 l Z a0 hw [] s1 s2 t1 k1 t2 k2 y0 y1 i_COMPACT_STRINGS v_SIOOBE_FORMATTER h0 n0 O0 ne12 E_s1 F_s1_coder F_s1_value E_s2 F_s2_coder F_s2_value V_t1 V_t2 WW) hZ (hw _ (List.mem_of_getElem? (i := 69) rfl)) (hw _ (List.mem_of_getElem? (i := 37) rfl)) (by decide) (by decide)) q1a q1c (g := (mkF m 11 #[rv s1, rv s2] [(.ref s2), (.ref s1)])) rfl (by rw [hml]; rfl) (Steps.refl _) (argsL := [(.ref s2)]) (rest := []) (lenOf pd__Ljava_lang_Object__Z rfl) rfl (by show 2 * 0 + _ ≤ _; exact Nat.le_of_eq rfl) (hb hby d6_11) (fun _ _ => ⟨rfl, e0, (by decide : 0 + 0 ≤ _), (by decide : 0 + 0 ≤ _)⟩)
  dsimp only [Pt.U, Pt.locs, Pt.cells, Pt.slots] at X1 lq1 yq1 zz1 st1 hQ1
  subst lq1 yq1 zz1
  obtain ⟨rfl, Nq1, kq1⟩ := hQ1
  have N1 := Fr.app N0 Nq1
  refine Go.tr (f' := (mkF m 14 #[rv s1, rv s2] [(.int (eqI_0_2 y0 y1))])) st1 ?_
  by_cases cd2 : (eqI_0_2 y0 y1) = (0 : Int32)
  · refine Go.st (f' := (mkF m 21 #[rv s1, rv s2] [])) (fun _ k => XS.ifYes X1.here hx rfl (pc0 := 14) (pc' := 21) rfl (hb hby d6_14) rfl ((if0 _ _).trans (teq cd2).1) (by decide) (by decide) k) ?_
    refine Go.st (f' := (mkF m 22 #[rv s1, rv s2] [(.int 0)])) (fun _ k => XS.iconst X1.here hx rfl (hb hby d6_21) k) ?_
    refine Go.retB X1 hlk hx (t := .boolean) hret (by simp) (hb hby d6_22) kq1 ?_ (by decide) (by decide)
    show (some (.int (0 : Int32)) : Option Value) = some (.int (obI_02 y0 y1)) ∧ _
    exact ⟨by rw [obI_02, if_pos cd2], N1, rfl⟩
  · refine Go.st (f' := (mkF m 17 #[rv s1, rv s2] [])) (fun _ k => XS.ifNo X1.here hx rfl (hb hby d6_14) rfl ((if0 _ _).trans (feq cd2).1) k) ?_
    refine Go.st (f' := (mkF m 18 #[rv s1, rv s2] [(.int 1)])) (fun _ k => XS.iconst X1.here hx rfl (hb hby d6_17) k) ?_
    refine Go.st (f' := (mkF m 22 #[rv s1, rv s2] [(.int 1)])) (fun _ k => XS.goto X1.here hx rfl (pc0 := 18) (pc' := 22) rfl (hb hby d6_18) (by decide) (by decide) k) ?_
    refine Go.retB X1 hlk hx (t := .boolean) hret (by simp) (hb hby d6_22) kq1 ?_ (by decide) (by decide)
    show (some (.int (1 : Int32)) : Option Value) = some (.int (obI_02 y0 y1)) ∧ _
    exact ⟨by rw [obI_02, if_neg cd2], N1, rfl⟩
def obI_1N (x0 : Int32) : Int32 := (0 : Int32)
set_option maxRecDepth 65536 in
set_option maxHeartbeats 40000000 in
theorem ob_1N (l : Launch) (Z : State) (a0 : Array Value) (hw : ∀ d ∈ tables_1, d.before a0 Z = true) (ws : List Jvm.Cond) (s1 : Addr) (t1 : Addr) (k1 : ClassId) (x0 : Int32) (i_COMPACT_STRINGS : Int32) (v_SIOOBE_FORMATTER : Value) (h0 : Heap) (n0 : Nat) (O0 : Old Z n0 h0) (E_s1 : Exa Z h0 s1 "java/lang/String") (F_s1_coder : Fld Z h0 s1 "java/lang/String" "coder" "B" (.int 0)) (F_s1_value : Fld Z h0 s1 "java/lang/String" "value" "[B" (.ref t1)) (V_t1 : Arv Z h0 t1 k1 .byte (1 : Int32) [(.int x0)] (.int 0)) (WW : World1 Z i_COMPACT_STRINGS v_SIOOBE_FORMATTER) :
    Con l Z (⟨"java/util/Objects", "equals", "(Ljava/lang/Object;Ljava/lang/Object;)Z"⟩ : MethodName) jdk_31_method_2_code 2 (some .boolean) ws ({ frames := 1, cells := 0, slots := 0, locals := 14 } : Room) #[(.ref s1), .null] h0 (fun v h L => v = some (.int (obI_1N x0)) ∧ Fr n0 L ∧ h = h0) := by
  refine own_body (plainFor_of_name pn_java_util_Objects) ?_
  intro p e s m below meth c s₁ hx hby hml hZ hown hnm hlk hret X0 e0
  have N0 := Fr.nil n0
  refine Go.st (T' := s₁) (f' := (mkF m 0 #[rv s1, .val .null] [])) (fun _ k => castTop (by first | (simp [entryFrame, mkF, argsToLocals, Value.category]; done) | rfl) k) ?_
  have ⟨S_i_COMPACT_STRINGS, nz_i_COMPACT_STRINGS, S_v_SIOOBE_FORMATTER, r_v_SIOOBE_FORMATTER⟩ := WW
  have lt_s1 := E_s1.lt
  have lt_t1 := V_t1.lt
  refine Go.st (f' := (mkF m 1 #[rv s1, .val .null] [(.ref s1)])) (fun _ k => XS.aloadN X0.here hx rfl (hb hby d6_0) rfl rfl k) ?_
  refine Go.st (f' := (mkF m 2 #[rv s1, .val .null] [.null, (.ref s1)])) (fun _ k => XS.aloadN X0.here hx rfl (hb hby d6_1) rfl rfl k) ?_
  refine Go.st (f' := (mkF m 5 #[rv s1, .val .null] [])) (fun _ k => Jvm.RoadKit.acmp (g := (mkF m 2 #[rv s1, .val .null] [.null, (.ref s1)])) X0 hx rfl rfl rfl (pc0 := 2) (pc' := 5) (same := false) rfl (hb hby d6_2) rfl (decide_eq_false nofun) (by decide) (by decide) k) ?_
  refine Go.st (f' := (mkF m 6 #[rv s1, .val .null] [(.ref s1)])) (fun _ k => XS.aloadN X0.here hx rfl (hb hby d6_5) rfl rfl k) ?_
  refine Go.st (f' := (mkF m 9 #[rv s1, .val .null] [])) (fun _ k => XS.ifnullNo X0.here hx rfl (hb hby d6_6) rfl k) ?_
  refine Go.st (f' := (mkF m 10 #[rv s1, .val .null] [(.ref s1)])) (fun _ k => XS.aloadN X0.here hx rfl (hb hby d6_9) rfl rfl k) ?_
  refine Go.st (f' := (mkF m 11 #[rv s1, .val .null] [.null, (.ref s1)])) (fun _ k => XS.aloadN X0.here hx rfl (hb hby d6_10) rfl rfl k) ?_
  obtain ⟨cq1, kq1, q1a, q1b, q1c⟩ := isOf hZ e0 E_s1
  obtain ⟨_, _, ⟨T1, L1, kk1, nn1⟩, -, X1, ⟨Lc1, hQ1, lq1, yq1, zz1⟩, st1⟩ := X0.virtualBack hx (y := (⟨"java/lang/Object", "equals", "(Ljava/lang/Object;)Z"⟩ : MethodName)) (z := (⟨"java/lang/String", "equals", "(Ljava/lang/Object;)Z"⟩ : MethodName)) hown (mvT hZ (hw _ (List.mem_of_getElem? (i := 66) rfl))) (mvT hZ (hw _ (List.mem_of_getElem? (i := 32) rfl))) (nf_top (args := #[]) (mvT hZ (hw _ (List.mem_of_getElem? (i := 76) rfl)))) (mvT hZ (hw _ (List.mem_of_getElem? (i := 67) rfl))) (mvT hZ (hw _ (List.mem_of_getElem? (i := 68) rfl))) (by decide) (own_back (W := 0) (eq_1_N l Z a0 hw [] s1 i_COMPACT_STRINGS v_SIOOBE_FORMATTER h0 n0 O0 WW) hZ (hw _ (List.mem_of_getElem? (i := 69) rfl)) (hw _ (List.mem_of_getElem? (i := 37) rfl)) (by decide) (by decide)) q1a q1c (g := (mkF m 11 #[rv s1, .val .null] [.null, (.ref s1)])) rfl (by rw [hml]; rfl) (Steps.refl _) (argsL := [.null]) (rest := []) (lenOf pd__Ljava_lang_Object__Z rfl) rfl (by show 2 * 0 + _ ≤ _; exact Nat.le_of_eq rfl) (hb hby d6_11) (fun _ _ => ⟨rfl, e0, (by decide : 0 + 0 ≤ _), (by decide : 0 + 0 ≤ _)⟩)
  dsimp only [Pt.U, Pt.locs, Pt.cells, Pt.slots] at X1 lq1 yq1 zz1 st1 hQ1
  subst lq1 yq1 zz1
  obtain ⟨rfl, Nq1, kq1⟩ := hQ1
  have N1 := Fr.app N0 Nq1
  refine Go.tr (f' := (mkF m 14 #[rv s1, .val .null] [(.int 0)])) st1 ?_
  refine Go.st (f' := (mkF m 21 #[rv s1, .val .null] [])) (fun _ k => XS.ifYes X1.here hx rfl (pc0 := 14) (pc' := 21) rfl (hb hby d6_14) rfl (by decide) (by decide) (by decide) k) ?_
  refine Go.st (f' := (mkF m 22 #[rv s1, .val .null] [(.int 0)])) (fun _ k => XS.iconst X1.here hx rfl (hb hby d6_21) k) ?_
  refine Go.retB X1 hlk hx (t := .boolean) hret (by simp) (hb hby d6_22) kq1 ?_ (by decide) (by decide)
  show (some (.int (0 : Int32)) : Option Value) = some (.int (obI_1N x0)) ∧ _
  exact ⟨by rw [obI_1N], N1, rfl⟩
def obI_10 (x0 : Int32) : Int32 := (if (eqI_1_0 x0) = (0 : Int32) then (0 : Int32) else (1 : Int32))
set_option maxRecDepth 65536 in
set_option maxHeartbeats 40000000 in
theorem ob_10 (l : Launch) (Z : State) (a0 : Array Value) (hw : ∀ d ∈ tables_1, d.before a0 Z = true) (ws : List Jvm.Cond) (s1 : Addr) (t1 : Addr) (k1 : ClassId) (x0 : Int32) (s2 : Addr) (t2 : Addr) (k2 : ClassId) (i_COMPACT_STRINGS : Int32) (v_SIOOBE_FORMATTER : Value) (h0 : Heap) (n0 : Nat) (O0 : Old Z n0 h0) (ne12 : s1 ≠ s2) (E_s1 : Exa Z h0 s1 "java/lang/String") (F_s1_coder : Fld Z h0 s1 "java/lang/String" "coder" "B" (.int 0)) (F_s1_value : Fld Z h0 s1 "java/lang/String" "value" "[B" (.ref t1)) (V_t1 : Arv Z h0 t1 k1 .byte (1 : Int32) [(.int x0)] (.int 0)) (E_s2 : Exa Z h0 s2 "java/lang/String") (F_s2_coder : Fld Z h0 s2 "java/lang/String" "coder" "B" (.int 0)) (F_s2_value : Fld Z h0 s2 "java/lang/String" "value" "[B" (.ref t2)) (V_t2 : Arv Z h0 t2 k2 .byte (0 : Int32) [] (.int 0)) (WW : World1 Z i_COMPACT_STRINGS v_SIOOBE_FORMATTER) :
    Con l Z (⟨"java/util/Objects", "equals", "(Ljava/lang/Object;Ljava/lang/Object;)Z"⟩ : MethodName) jdk_31_method_2_code 2 (some .boolean) ws ({ frames := 2, cells := 0, slots := 0, locals := 28 } : Room) #[(.ref s1), (.ref s2)] h0 (fun v h L => v = some (.int (obI_10 x0)) ∧ Fr n0 L ∧ h = h0) := by
  refine own_body (plainFor_of_name pn_java_util_Objects) ?_
  intro p e s m below meth c s₁ hx hby hml hZ hown hnm hlk hret X0 e0
  have N0 := Fr.nil n0
  refine Go.st (T' := s₁) (f' := (mkF m 0 #[rv s1, rv s2] [])) (fun _ k => castTop (by first | (simp [entryFrame, mkF, argsToLocals, Value.category]; done) | rfl) k) ?_
  have ⟨S_i_COMPACT_STRINGS, nz_i_COMPACT_STRINGS, S_v_SIOOBE_FORMATTER, r_v_SIOOBE_FORMATTER⟩ := WW
  have lt_s1 := E_s1.lt
  have lt_t1 := V_t1.lt
  have lt_s2 := E_s2.lt
  have lt_t2 := V_t2.lt
  refine Go.st (f' := (mkF m 1 #[rv s1, rv s2] [(.ref s1)])) (fun _ k => XS.aloadN X0.here hx rfl (hb hby d6_0) rfl rfl k) ?_
  refine Go.st (f' := (mkF m 2 #[rv s1, rv s2] [(.ref s2), (.ref s1)])) (fun _ k => XS.aloadN X0.here hx rfl (hb hby d6_1) rfl rfl k) ?_
  refine Go.st (f' := (mkF m 5 #[rv s1, rv s2] [])) (fun _ k => Jvm.RoadKit.acmp (g := (mkF m 2 #[rv s1, rv s2] [(.ref s2), (.ref s1)])) X0 hx rfl rfl rfl (pc0 := 2) (pc' := 5) (same := false) rfl (hb hby d6_2) rfl (decide_eq_false fun q => ne12 (Value.ref.inj q)) (by decide) (by decide) k) ?_
  refine Go.st (f' := (mkF m 6 #[rv s1, rv s2] [(.ref s1)])) (fun _ k => XS.aloadN X0.here hx rfl (hb hby d6_5) rfl rfl k) ?_
  refine Go.st (f' := (mkF m 9 #[rv s1, rv s2] [])) (fun _ k => XS.ifnullNo X0.here hx rfl (hb hby d6_6) rfl k) ?_
  refine Go.st (f' := (mkF m 10 #[rv s1, rv s2] [(.ref s1)])) (fun _ k => XS.aloadN X0.here hx rfl (hb hby d6_9) rfl rfl k) ?_
  refine Go.st (f' := (mkF m 11 #[rv s1, rv s2] [(.ref s2), (.ref s1)])) (fun _ k => XS.aloadN X0.here hx rfl (hb hby d6_10) rfl rfl k) ?_
  obtain ⟨cq1, kq1, q1a, q1b, q1c⟩ := isOf hZ e0 E_s1
  obtain ⟨_, _, ⟨T1, L1, kk1, nn1⟩, -, X1, ⟨Lc1, hQ1, lq1, yq1, zz1⟩, st1⟩ := X0.virtualBack hx (y := (⟨"java/lang/Object", "equals", "(Ljava/lang/Object;)Z"⟩ : MethodName)) (z := (⟨"java/lang/String", "equals", "(Ljava/lang/Object;)Z"⟩ : MethodName)) hown (mvT hZ (hw _ (List.mem_of_getElem? (i := 66) rfl))) (mvT hZ (hw _ (List.mem_of_getElem? (i := 32) rfl))) (nf_top (args := #[]) (mvT hZ (hw _ (List.mem_of_getElem? (i := 76) rfl)))) (mvT hZ (hw _ (List.mem_of_getElem? (i := 67) rfl))) (mvT hZ (hw _ (List.mem_of_getElem? (i := 68) rfl))) (by decide) (own_back (W := 0) (eq_1_0 l Z a0 hw [] s1 s2 t1 k1 t2 k2 x0 i_COMPACT_STRINGS v_SIOOBE_FORMATTER h0 n0 O0 ne12 E_s1 F_s1_coder F_s1_value E_s2 F_s2_coder F_s2_value V_t1 V_t2 WW) hZ (hw _ (List.mem_of_getElem? (i := 69) rfl)) (hw _ (List.mem_of_getElem? (i := 37) rfl)) (by decide) (by decide)) q1a q1c (g := (mkF m 11 #[rv s1, rv s2] [(.ref s2), (.ref s1)])) rfl (by rw [hml]; rfl) (Steps.refl _) (argsL := [(.ref s2)]) (rest := []) (lenOf pd__Ljava_lang_Object__Z rfl) rfl (by show 2 * 0 + _ ≤ _; exact Nat.le_of_eq rfl) (hb hby d6_11) (fun _ _ => ⟨rfl, e0, (by decide : 0 + 0 ≤ _), (by decide : 0 + 0 ≤ _)⟩)
  dsimp only [Pt.U, Pt.locs, Pt.cells, Pt.slots] at X1 lq1 yq1 zz1 st1 hQ1
  subst lq1 yq1 zz1
  obtain ⟨rfl, Nq1, kq1⟩ := hQ1
  have N1 := Fr.app N0 Nq1
  refine Go.tr (f' := (mkF m 14 #[rv s1, rv s2] [(.int (eqI_1_0 x0))])) st1 ?_
  by_cases cd2 : (eqI_1_0 x0) = (0 : Int32)
  · refine Go.st (f' := (mkF m 21 #[rv s1, rv s2] [])) (fun _ k => XS.ifYes X1.here hx rfl (pc0 := 14) (pc' := 21) rfl (hb hby d6_14) rfl ((if0 _ _).trans (teq cd2).1) (by decide) (by decide) k) ?_
    refine Go.st (f' := (mkF m 22 #[rv s1, rv s2] [(.int 0)])) (fun _ k => XS.iconst X1.here hx rfl (hb hby d6_21) k) ?_
    refine Go.retB X1 hlk hx (t := .boolean) hret (by simp) (hb hby d6_22) kq1 ?_ (by decide) (by decide)
    show (some (.int (0 : Int32)) : Option Value) = some (.int (obI_10 x0)) ∧ _
    exact ⟨by rw [obI_10, if_pos cd2], N1, rfl⟩
  · refine Go.st (f' := (mkF m 17 #[rv s1, rv s2] [])) (fun _ k => XS.ifNo X1.here hx rfl (hb hby d6_14) rfl ((if0 _ _).trans (feq cd2).1) k) ?_
    refine Go.st (f' := (mkF m 18 #[rv s1, rv s2] [(.int 1)])) (fun _ k => XS.iconst X1.here hx rfl (hb hby d6_17) k) ?_
    refine Go.st (f' := (mkF m 22 #[rv s1, rv s2] [(.int 1)])) (fun _ k => XS.goto X1.here hx rfl (pc0 := 18) (pc' := 22) rfl (hb hby d6_18) (by decide) (by decide) k) ?_
    refine Go.retB X1 hlk hx (t := .boolean) hret (by simp) (hb hby d6_22) kq1 ?_ (by decide) (by decide)
    show (some (.int (1 : Int32)) : Option Value) = some (.int (obI_10 x0)) ∧ _
    exact ⟨by rw [obI_10, if_neg cd2], N1, rfl⟩
def obI_11 (x0 : Int32) (y0 : Int32) : Int32 := (if (eqI_1_1 x0 y0) = (0 : Int32) then (0 : Int32) else (1 : Int32))
set_option maxRecDepth 65536 in
set_option maxHeartbeats 40000000 in
theorem ob_11 (l : Launch) (Z : State) (a0 : Array Value) (hw : ∀ d ∈ tables_1, d.before a0 Z = true) (ws : List Jvm.Cond) (s1 : Addr) (t1 : Addr) (k1 : ClassId) (x0 : Int32) (s2 : Addr) (t2 : Addr) (k2 : ClassId) (y0 : Int32) (i_COMPACT_STRINGS : Int32) (v_SIOOBE_FORMATTER : Value) (h0 : Heap) (n0 : Nat) (O0 : Old Z n0 h0) (ne12 : s1 ≠ s2) (E_s1 : Exa Z h0 s1 "java/lang/String") (F_s1_coder : Fld Z h0 s1 "java/lang/String" "coder" "B" (.int 0)) (F_s1_value : Fld Z h0 s1 "java/lang/String" "value" "[B" (.ref t1)) (V_t1 : Arv Z h0 t1 k1 .byte (1 : Int32) [(.int x0)] (.int 0)) (E_s2 : Exa Z h0 s2 "java/lang/String") (F_s2_coder : Fld Z h0 s2 "java/lang/String" "coder" "B" (.int 0)) (F_s2_value : Fld Z h0 s2 "java/lang/String" "value" "[B" (.ref t2)) (V_t2 : Arv Z h0 t2 k2 .byte (1 : Int32) [(.int y0)] (.int 0)) (WW : World1 Z i_COMPACT_STRINGS v_SIOOBE_FORMATTER) :
    Con l Z (⟨"java/util/Objects", "equals", "(Ljava/lang/Object;Ljava/lang/Object;)Z"⟩ : MethodName) jdk_31_method_2_code 2 (some .boolean) ws ({ frames := 2, cells := 0, slots := 0, locals := 28 } : Room) #[(.ref s1), (.ref s2)] h0 (fun v h L => v = some (.int (obI_11 x0 y0)) ∧ Fr n0 L ∧ h = h0) := by
  refine own_body (plainFor_of_name pn_java_util_Objects) ?_
  intro p e s m below meth c s₁ hx hby hml hZ hown hnm hlk hret X0 e0
  have N0 := Fr.nil n0
  refine Go.st (T' := s₁) (f' := (mkF m 0 #[rv s1, rv s2] [])) (fun _ k => castTop (by first | (simp [entryFrame, mkF, argsToLocals, Value.category]; done) | rfl) k) ?_
  have ⟨S_i_COMPACT_STRINGS, nz_i_COMPACT_STRINGS, S_v_SIOOBE_FORMATTER, r_v_SIOOBE_FORMATTER⟩ := WW
  have lt_s1 := E_s1.lt
  have lt_t1 := V_t1.lt
  have lt_s2 := E_s2.lt
  have lt_t2 := V_t2.lt
  refine Go.st (f' := (mkF m 1 #[rv s1, rv s2] [(.ref s1)])) (fun _ k => XS.aloadN X0.here hx rfl (hb hby d6_0) rfl rfl k) ?_
  refine Go.st (f' := (mkF m 2 #[rv s1, rv s2] [(.ref s2), (.ref s1)])) (fun _ k => XS.aloadN X0.here hx rfl (hb hby d6_1) rfl rfl k) ?_
  refine Go.st (f' := (mkF m 5 #[rv s1, rv s2] [])) (fun _ k => Jvm.RoadKit.acmp (g := (mkF m 2 #[rv s1, rv s2] [(.ref s2), (.ref s1)])) X0 hx rfl rfl rfl (pc0 := 2) (pc' := 5) (same := false) rfl (hb hby d6_2) rfl (decide_eq_false fun q => ne12 (Value.ref.inj q)) (by decide) (by decide) k) ?_
  refine Go.st (f' := (mkF m 6 #[rv s1, rv s2] [(.ref s1)])) (fun _ k => XS.aloadN X0.here hx rfl (hb hby d6_5) rfl rfl k) ?_
  refine Go.st (f' := (mkF m 9 #[rv s1, rv s2] [])) (fun _ k => XS.ifnullNo X0.here hx rfl (hb hby d6_6) rfl k) ?_
  refine Go.st (f' := (mkF m 10 #[rv s1, rv s2] [(.ref s1)])) (fun _ k => XS.aloadN X0.here hx rfl (hb hby d6_9) rfl rfl k) ?_
  refine Go.st (f' := (mkF m 11 #[rv s1, rv s2] [(.ref s2), (.ref s1)])) (fun _ k => XS.aloadN X0.here hx rfl (hb hby d6_10) rfl rfl k) ?_
  obtain ⟨cq1, kq1, q1a, q1b, q1c⟩ := isOf hZ e0 E_s1
  obtain ⟨_, _, ⟨T1, L1, kk1, nn1⟩, -, X1, ⟨Lc1, hQ1, lq1, yq1, zz1⟩, st1⟩ := X0.virtualBack hx (y := (⟨"java/lang/Object", "equals", "(Ljava/lang/Object;)Z"⟩ : MethodName)) (z := (⟨"java/lang/String", "equals", "(Ljava/lang/Object;)Z"⟩ : MethodName)) hown (mvT hZ (hw _ (List.mem_of_getElem? (i := 66) rfl))) (mvT hZ (hw _ (List.mem_of_getElem? (i := 32) rfl))) (nf_top (args := #[]) (mvT hZ (hw _ (List.mem_of_getElem? (i := 76) rfl)))) (mvT hZ (hw _ (List.mem_of_getElem? (i := 67) rfl))) (mvT hZ (hw _ (List.mem_of_getElem? (i := 68) rfl))) (by decide) (own_back (W := 0) (eq_1_1 l Z a0 hw [] s1 s2 t1 k1 t2 k2 x0 y0 i_COMPACT_STRINGS v_SIOOBE_FORMATTER h0 n0 O0 ne12 E_s1 F_s1_coder F_s1_value E_s2 F_s2_coder F_s2_value V_t1 V_t2 WW) hZ (hw _ (List.mem_of_getElem? (i := 69) rfl)) (hw _ (List.mem_of_getElem? (i := 37) rfl)) (by decide) (by decide)) q1a q1c (g := (mkF m 11 #[rv s1, rv s2] [(.ref s2), (.ref s1)])) rfl (by rw [hml]; rfl) (Steps.refl _) (argsL := [(.ref s2)]) (rest := []) (lenOf pd__Ljava_lang_Object__Z rfl) rfl (by show 2 * 0 + _ ≤ _; exact Nat.le_of_eq rfl) (hb hby d6_11) (fun _ _ => ⟨rfl, e0, (by decide : 0 + 0 ≤ _), (by decide : 0 + 0 ≤ _)⟩)
  dsimp only [Pt.U, Pt.locs, Pt.cells, Pt.slots] at X1 lq1 yq1 zz1 st1 hQ1
  subst lq1 yq1 zz1
  obtain ⟨rfl, Nq1, kq1⟩ := hQ1
  have N1 := Fr.app N0 Nq1
  refine Go.tr (f' := (mkF m 14 #[rv s1, rv s2] [(.int (eqI_1_1 x0 y0))])) st1 ?_
  by_cases cd2 : (eqI_1_1 x0 y0) = (0 : Int32)
  · refine Go.st (f' := (mkF m 21 #[rv s1, rv s2] [])) (fun _ k => XS.ifYes X1.here hx rfl (pc0 := 14) (pc' := 21) rfl (hb hby d6_14) rfl ((if0 _ _).trans (teq cd2).1) (by decide) (by decide) k) ?_
    refine Go.st (f' := (mkF m 22 #[rv s1, rv s2] [(.int 0)])) (fun _ k => XS.iconst X1.here hx rfl (hb hby d6_21) k) ?_
    refine Go.retB X1 hlk hx (t := .boolean) hret (by simp) (hb hby d6_22) kq1 ?_ (by decide) (by decide)
    show (some (.int (0 : Int32)) : Option Value) = some (.int (obI_11 x0 y0)) ∧ _
    exact ⟨by rw [obI_11, if_pos cd2], N1, rfl⟩
  · refine Go.st (f' := (mkF m 17 #[rv s1, rv s2] [])) (fun _ k => XS.ifNo X1.here hx rfl (hb hby d6_14) rfl ((if0 _ _).trans (feq cd2).1) k) ?_
    refine Go.st (f' := (mkF m 18 #[rv s1, rv s2] [(.int 1)])) (fun _ k => XS.iconst X1.here hx rfl (hb hby d6_17) k) ?_
    refine Go.st (f' := (mkF m 22 #[rv s1, rv s2] [(.int 1)])) (fun _ k => XS.goto X1.here hx rfl (pc0 := 18) (pc' := 22) rfl (hb hby d6_18) (by decide) (by decide) k) ?_
    refine Go.retB X1 hlk hx (t := .boolean) hret (by simp) (hb hby d6_22) kq1 ?_ (by decide) (by decide)
    show (some (.int (1 : Int32)) : Option Value) = some (.int (obI_11 x0 y0)) ∧ _
    exact ⟨by rw [obI_11, if_neg cd2], N1, rfl⟩
def obI_12 (x0 : Int32) (y0 : Int32) (y1 : Int32) : Int32 := (if (eqI_1_2 x0 y0 y1) = (0 : Int32) then (0 : Int32) else (1 : Int32))
set_option maxRecDepth 65536 in
set_option maxHeartbeats 40000000 in
theorem ob_12 (l : Launch) (Z : State) (a0 : Array Value) (hw : ∀ d ∈ tables_1, d.before a0 Z = true) (ws : List Jvm.Cond) (s1 : Addr) (t1 : Addr) (k1 : ClassId) (x0 : Int32) (s2 : Addr) (t2 : Addr) (k2 : ClassId) (y0 : Int32) (y1 : Int32) (i_COMPACT_STRINGS : Int32) (v_SIOOBE_FORMATTER : Value) (h0 : Heap) (n0 : Nat) (O0 : Old Z n0 h0) (ne12 : s1 ≠ s2) (E_s1 : Exa Z h0 s1 "java/lang/String") (F_s1_coder : Fld Z h0 s1 "java/lang/String" "coder" "B" (.int 0)) (F_s1_value : Fld Z h0 s1 "java/lang/String" "value" "[B" (.ref t1)) (V_t1 : Arv Z h0 t1 k1 .byte (1 : Int32) [(.int x0)] (.int 0)) (E_s2 : Exa Z h0 s2 "java/lang/String") (F_s2_coder : Fld Z h0 s2 "java/lang/String" "coder" "B" (.int 0)) (F_s2_value : Fld Z h0 s2 "java/lang/String" "value" "[B" (.ref t2)) (V_t2 : Arv Z h0 t2 k2 .byte (2 : Int32) [(.int y0), (.int y1)] (.int 0)) (WW : World1 Z i_COMPACT_STRINGS v_SIOOBE_FORMATTER) :
    Con l Z (⟨"java/util/Objects", "equals", "(Ljava/lang/Object;Ljava/lang/Object;)Z"⟩ : MethodName) jdk_31_method_2_code 2 (some .boolean) ws ({ frames := 2, cells := 0, slots := 0, locals := 28 } : Room) #[(.ref s1), (.ref s2)] h0 (fun v h L => v = some (.int (obI_12 x0 y0 y1)) ∧ Fr n0 L ∧ h = h0) := by
  refine own_body (plainFor_of_name pn_java_util_Objects) ?_
  intro p e s m below meth c s₁ hx hby hml hZ hown hnm hlk hret X0 e0
  have N0 := Fr.nil n0
  refine Go.st (T' := s₁) (f' := (mkF m 0 #[rv s1, rv s2] [])) (fun _ k => castTop (by first | (simp [entryFrame, mkF, argsToLocals, Value.category]; done) | rfl) k) ?_
  have ⟨S_i_COMPACT_STRINGS, nz_i_COMPACT_STRINGS, S_v_SIOOBE_FORMATTER, r_v_SIOOBE_FORMATTER⟩ := WW
  have lt_s1 := E_s1.lt
  have lt_t1 := V_t1.lt
  have lt_s2 := E_s2.lt
  have lt_t2 := V_t2.lt
  refine Go.st (f' := (mkF m 1 #[rv s1, rv s2] [(.ref s1)])) (fun _ k => XS.aloadN X0.here hx rfl (hb hby d6_0) rfl rfl k) ?_
  refine Go.st (f' := (mkF m 2 #[rv s1, rv s2] [(.ref s2), (.ref s1)])) (fun _ k => XS.aloadN X0.here hx rfl (hb hby d6_1) rfl rfl k) ?_
  refine Go.st (f' := (mkF m 5 #[rv s1, rv s2] [])) (fun _ k => Jvm.RoadKit.acmp (g := (mkF m 2 #[rv s1, rv s2] [(.ref s2), (.ref s1)])) X0 hx rfl rfl rfl (pc0 := 2) (pc' := 5) (same := false) rfl (hb hby d6_2) rfl (decide_eq_false fun q => ne12 (Value.ref.inj q)) (by decide) (by decide) k) ?_
  refine Go.st (f' := (mkF m 6 #[rv s1, rv s2] [(.ref s1)])) (fun _ k => XS.aloadN X0.here hx rfl (hb hby d6_5) rfl rfl k) ?_
  refine Go.st (f' := (mkF m 9 #[rv s1, rv s2] [])) (fun _ k => XS.ifnullNo X0.here hx rfl (hb hby d6_6) rfl k) ?_
  refine Go.st (f' := (mkF m 10 #[rv s1, rv s2] [(.ref s1)])) (fun _ k => XS.aloadN X0.here hx rfl (hb hby d6_9) rfl rfl k) ?_
  refine Go.st (f' := (mkF m 11 #[rv s1, rv s2] [(.ref s2), (.ref s1)])) (fun _ k => XS.aloadN X0.here hx rfl (hb hby d6_10) rfl rfl k) ?_
  obtain ⟨cq1, kq1, q1a, q1b, q1c⟩ := isOf hZ e0 E_s1
  obtain ⟨_, _, ⟨T1, L1, kk1, nn1⟩, -, X1, ⟨Lc1, hQ1, lq1, yq1, zz1⟩, st1⟩ := X0.virtualBack hx (y := (⟨"java/lang/Object", "equals", "(Ljava/lang/Object;)Z"⟩ : MethodName)) (z := (⟨"java/lang/String", "equals", "(Ljava/lang/Object;)Z"⟩ : MethodName)) hown (mvT hZ (hw _ (List.mem_of_getElem? (i := 66) rfl))) (mvT hZ (hw _ (List.mem_of_getElem? (i := 32) rfl))) (nf_top (args := #[]) (mvT hZ (hw _ (List.mem_of_getElem? (i := 76) rfl)))) (mvT hZ (hw _ (List.mem_of_getElem? (i := 67) rfl))) (mvT hZ (hw _ (List.mem_of_getElem? (i := 68) rfl))) (by decide) (own_back (W := 0) (eq_1_2 l Z a0 hw [] s1 s2 t1 k1 t2 k2 x0 y0 y1 i_COMPACT_STRINGS v_SIOOBE_FORMATTER h0 n0 O0 ne12 E_s1 F_s1_coder F_s1_value E_s2 F_s2_coder F_s2_value V_t1 V_t2 WW) hZ (hw _ (List.mem_of_getElem? (i := 69) rfl)) (hw _ (List.mem_of_getElem? (i := 37) rfl)) (by decide) (by decide)) q1a q1c (g := (mkF m 11 #[rv s1, rv s2] [(.ref s2), (.ref s1)])) rfl (by rw [hml]; rfl) (Steps.refl _) (argsL := [(.ref s2)]) (rest := []) (lenOf pd__Ljava_lang_Object__Z rfl) rfl (by show 2 * 0 + _ ≤ _; exact Nat.le_of_eq rfl) (hb hby d6_11) (fun _ _ => ⟨rfl, e0, (by decide : 0 + 0 ≤ _), (by decide : 0 + 0 ≤ _)⟩)
  dsimp only [Pt.U, Pt.locs, Pt.cells, Pt.slots] at X1 lq1 yq1 zz1 st1 hQ1
  subst lq1 yq1 zz1
  obtain ⟨rfl, Nq1, kq1⟩ := hQ1
  have N1 := Fr.app N0 Nq1
  refine Go.tr (f' := (mkF m 14 #[rv s1, rv s2] [(.int (eqI_1_2 x0 y0 y1))])) st1 ?_
  by_cases cd2 : (eqI_1_2 x0 y0 y1) = (0 : Int32)
  · refine Go.st (f' := (mkF m 21 #[rv s1, rv s2] [])) (fun _ k => XS.ifYes X1.here hx rfl (pc0 := 14) (pc' := 21) rfl (hb hby d6_14) rfl ((if0 _ _).trans (teq cd2).1) (by decide) (by decide) k) ?_
    refine Go.st (f' := (mkF m 22 #[rv s1, rv s2] [(.int 0)])) (fun _ k => XS.iconst X1.here hx rfl (hb hby d6_21) k) ?_
    refine Go.retB X1 hlk hx (t := .boolean) hret (by simp) (hb hby d6_22) kq1 ?_ (by decide) (by decide)
    show (some (.int (0 : Int32)) : Option Value) = some (.int (obI_12 x0 y0 y1)) ∧ _
    exact ⟨by rw [obI_12, if_pos cd2], N1, rfl⟩
  · refine Go.st (f' := (mkF m 17 #[rv s1, rv s2] [])) (fun _ k => XS.ifNo X1.here hx rfl (hb hby d6_14) rfl ((if0 _ _).trans (feq cd2).1) k) ?_
    refine Go.st (f' := (mkF m 18 #[rv s1, rv s2] [(.int 1)])) (fun _ k => XS.iconst X1.here hx rfl (hb hby d6_17) k) ?_
    refine Go.st (f' := (mkF m 22 #[rv s1, rv s2] [(.int 1)])) (fun _ k => XS.goto X1.here hx rfl (pc0 := 18) (pc' := 22) rfl (hb hby d6_18) (by decide) (by decide) k) ?_
    refine Go.retB X1 hlk hx (t := .boolean) hret (by simp) (hb hby d6_22) kq1 ?_ (by decide) (by decide)
    show (some (.int (1 : Int32)) : Option Value) = some (.int (obI_12 x0 y0 y1)) ∧ _
    exact ⟨by rw [obI_12, if_neg cd2], N1, rfl⟩
def obI_2N (x0 : Int32) (x1 : Int32) : Int32 := (0 : Int32)
set_option maxRecDepth 65536 in
set_option maxHeartbeats 40000000 in
theorem ob_2N (l : Launch) (Z : State) (a0 : Array Value) (hw : ∀ d ∈ tables_1, d.before a0 Z = true) (ws : List Jvm.Cond) (s1 : Addr) (t1 : Addr) (k1 : ClassId) (x0 : Int32) (x1 : Int32) (i_COMPACT_STRINGS : Int32) (v_SIOOBE_FORMATTER : Value) (h0 : Heap) (n0 : Nat) (O0 : Old Z n0 h0) (E_s1 : Exa Z h0 s1 "java/lang/String") (F_s1_coder : Fld Z h0 s1 "java/lang/String" "coder" "B" (.int 0)) (F_s1_value : Fld Z h0 s1 "java/lang/String" "value" "[B" (.ref t1)) (V_t1 : Arv Z h0 t1 k1 .byte (2 : Int32) [(.int x0), (.int x1)] (.int 0)) (WW : World1 Z i_COMPACT_STRINGS v_SIOOBE_FORMATTER) :
    Con l Z (⟨"java/util/Objects", "equals", "(Ljava/lang/Object;Ljava/lang/Object;)Z"⟩ : MethodName) jdk_31_method_2_code 2 (some .boolean) ws ({ frames := 1, cells := 0, slots := 0, locals := 14 } : Room) #[(.ref s1), .null] h0 (fun v h L => v = some (.int (obI_2N x0 x1)) ∧ Fr n0 L ∧ h = h0) := by
  refine own_body (plainFor_of_name pn_java_util_Objects) ?_
  intro p e s m below meth c s₁ hx hby hml hZ hown hnm hlk hret X0 e0
  have N0 := Fr.nil n0
  refine Go.st (T' := s₁) (f' := (mkF m 0 #[rv s1, .val .null] [])) (fun _ k => castTop (by first | (simp [entryFrame, mkF, argsToLocals, Value.category]; done) | rfl) k) ?_
  have ⟨S_i_COMPACT_STRINGS, nz_i_COMPACT_STRINGS, S_v_SIOOBE_FORMATTER, r_v_SIOOBE_FORMATTER⟩ := WW
  have lt_s1 := E_s1.lt
  have lt_t1 := V_t1.lt
  refine Go.st (f' := (mkF m 1 #[rv s1, .val .null] [(.ref s1)])) (fun _ k => XS.aloadN X0.here hx rfl (hb hby d6_0) rfl rfl k) ?_
  refine Go.st (f' := (mkF m 2 #[rv s1, .val .null] [.null, (.ref s1)])) (fun _ k => XS.aloadN X0.here hx rfl (hb hby d6_1) rfl rfl k) ?_
  refine Go.st (f' := (mkF m 5 #[rv s1, .val .null] [])) (fun _ k => Jvm.RoadKit.acmp (g := (mkF m 2 #[rv s1, .val .null] [.null, (.ref s1)])) X0 hx rfl rfl rfl (pc0 := 2) (pc' := 5) (same := false) rfl (hb hby d6_2) rfl (decide_eq_false nofun) (by decide) (by decide) k) ?_
  refine Go.st (f' := (mkF m 6 #[rv s1, .val .null] [(.ref s1)])) (fun _ k => XS.aloadN X0.here hx rfl (hb hby d6_5) rfl rfl k) ?_
  refine Go.st (f' := (mkF m 9 #[rv s1, .val .null] [])) (fun _ k => XS.ifnullNo X0.here hx rfl (hb hby d6_6) rfl k) ?_
  refine Go.st (f' := (mkF m 10 #[rv s1, .val .null] [(.ref s1)])) (fun _ k => XS.aloadN X0.here hx rfl (hb hby d6_9) rfl rfl k) ?_
  refine Go.st (f' := (mkF m 11 #[rv s1, .val .null] [.null, (.ref s1)])) (fun _ k => XS.aloadN X0.here hx rfl (hb hby d6_10) rfl rfl k) ?_
  obtain ⟨cq1, kq1, q1a, q1b, q1c⟩ := isOf hZ e0 E_s1
  obtain ⟨_, _, ⟨T1, L1, kk1, nn1⟩, -, X1, ⟨Lc1, hQ1, lq1, yq1, zz1⟩, st1⟩ := X0.virtualBack hx (y := (⟨"java/lang/Object", "equals", "(Ljava/lang/Object;)Z"⟩ : MethodName)) (z := (⟨"java/lang/String", "equals", "(Ljava/lang/Object;)Z"⟩ : MethodName)) hown (mvT hZ (hw _ (List.mem_of_getElem? (i := 66) rfl))) (mvT hZ (hw _ (List.mem_of_getElem? (i := 32) rfl))) (nf_top (args := #[]) (mvT hZ (hw _ (List.mem_of_getElem? (i := 76) rfl)))) (mvT hZ (hw _ (List.mem_of_getElem? (i := 67) rfl))) (mvT hZ (hw _ (List.mem_of_getElem? (i := 68) rfl))) (by decide) (own_back (W := 0) (eq_2_N l Z a0 hw [] s1 i_COMPACT_STRINGS v_SIOOBE_FORMATTER h0 n0 O0 WW) hZ (hw _ (List.mem_of_getElem? (i := 69) rfl)) (hw _ (List.mem_of_getElem? (i := 37) rfl)) (by decide) (by decide)) q1a q1c (g := (mkF m 11 #[rv s1, .val .null] [.null, (.ref s1)])) rfl (by rw [hml]; rfl) (Steps.refl _) (argsL := [.null]) (rest := []) (lenOf pd__Ljava_lang_Object__Z rfl) rfl (by show 2 * 0 + _ ≤ _; exact Nat.le_of_eq rfl) (hb hby d6_11) (fun _ _ => ⟨rfl, e0, (by decide : 0 + 0 ≤ _), (by decide : 0 + 0 ≤ _)⟩)
  dsimp only [Pt.U, Pt.locs, Pt.cells, Pt.slots] at X1 lq1 yq1 zz1 st1 hQ1
  subst lq1 yq1 zz1
  obtain ⟨rfl, Nq1, kq1⟩ := hQ1
  have N1 := Fr.app N0 Nq1
  refine Go.tr (f' := (mkF m 14 #[rv s1, .val .null] [(.int 0)])) st1 ?_
  refine Go.st (f' := (mkF m 21 #[rv s1, .val .null] [])) (fun _ k => XS.ifYes X1.here hx rfl (pc0 := 14) (pc' := 21) rfl (hb hby d6_14) rfl (by decide) (by decide) (by decide) k) ?_
  refine Go.st (f' := (mkF m 22 #[rv s1, .val .null] [(.int 0)])) (fun _ k => XS.iconst X1.here hx rfl (hb hby d6_21) k) ?_
  refine Go.retB X1 hlk hx (t := .boolean) hret (by simp) (hb hby d6_22) kq1 ?_ (by decide) (by decide)
  show (some (.int (0 : Int32)) : Option Value) = some (.int (obI_2N x0 x1)) ∧ _
  exact ⟨by rw [obI_2N], N1, rfl⟩
def obI_20 (x0 : Int32) (x1 : Int32) : Int32 := (if (eqI_2_0 x0 x1) = (0 : Int32) then (0 : Int32) else (1 : Int32))
set_option maxRecDepth 65536 in
set_option maxHeartbeats 40000000 in
theorem ob_20 (l : Launch) (Z : State) (a0 : Array Value) (hw : ∀ d ∈ tables_1, d.before a0 Z = true) (ws : List Jvm.Cond) (s1 : Addr) (t1 : Addr) (k1 : ClassId) (x0 : Int32) (x1 : Int32) (s2 : Addr) (t2 : Addr) (k2 : ClassId) (i_COMPACT_STRINGS : Int32) (v_SIOOBE_FORMATTER : Value) (h0 : Heap) (n0 : Nat) (O0 : Old Z n0 h0) (ne12 : s1 ≠ s2) (E_s1 : Exa Z h0 s1 "java/lang/String") (F_s1_coder : Fld Z h0 s1 "java/lang/String" "coder" "B" (.int 0)) (F_s1_value : Fld Z h0 s1 "java/lang/String" "value" "[B" (.ref t1)) (V_t1 : Arv Z h0 t1 k1 .byte (2 : Int32) [(.int x0), (.int x1)] (.int 0)) (E_s2 : Exa Z h0 s2 "java/lang/String") (F_s2_coder : Fld Z h0 s2 "java/lang/String" "coder" "B" (.int 0)) (F_s2_value : Fld Z h0 s2 "java/lang/String" "value" "[B" (.ref t2)) (V_t2 : Arv Z h0 t2 k2 .byte (0 : Int32) [] (.int 0)) (WW : World1 Z i_COMPACT_STRINGS v_SIOOBE_FORMATTER) :
    Con l Z (⟨"java/util/Objects", "equals", "(Ljava/lang/Object;Ljava/lang/Object;)Z"⟩ : MethodName) jdk_31_method_2_code 2 (some .boolean) ws ({ frames := 2, cells := 0, slots := 0, locals := 28 } : Room) #[(.ref s1), (.ref s2)] h0 (fun v h L => v = some (.int (obI_20 x0 x1)) ∧ Fr n0 L ∧ h = h0) := by
  refine own_body (plainFor_of_name pn_java_util_Objects) ?_
  intro p e s m below meth c s₁ hx hby hml hZ hown hnm hlk hret X0 e0
  have N0 := Fr.nil n0
  refine Go.st (T' := s₁) (f' := (mkF m 0 #[rv s1, rv s2] [])) (fun _ k => castTop (by first | (simp [entryFrame, mkF, argsToLocals, Value.category]; done) | rfl) k) ?_
  have ⟨S_i_COMPACT_STRINGS, nz_i_COMPACT_STRINGS, S_v_SIOOBE_FORMATTER, r_v_SIOOBE_FORMATTER⟩ := WW
  have lt_s1 := E_s1.lt
  have lt_t1 := V_t1.lt
  have lt_s2 := E_s2.lt
  have lt_t2 := V_t2.lt
  refine Go.st (f' := (mkF m 1 #[rv s1, rv s2] [(.ref s1)])) (fun _ k => XS.aloadN X0.here hx rfl (hb hby d6_0) rfl rfl k) ?_
  refine Go.st (f' := (mkF m 2 #[rv s1, rv s2] [(.ref s2), (.ref s1)])) (fun _ k => XS.aloadN X0.here hx rfl (hb hby d6_1) rfl rfl k) ?_
  refine Go.st (f' := (mkF m 5 #[rv s1, rv s2] [])) (fun _ k => Jvm.RoadKit.acmp (g := (mkF m 2 #[rv s1, rv s2] [(.ref s2), (.ref s1)])) X0 hx rfl rfl rfl (pc0 := 2) (pc' := 5) (same := false) rfl (hb hby d6_2) rfl (decide_eq_false fun q => ne12 (Value.ref.inj q)) (by decide) (by decide) k) ?_
  refine Go.st (f' := (mkF m 6 #[rv s1, rv s2] [(.ref s1)])) (fun _ k => XS.aloadN X0.here hx rfl (hb hby d6_5) rfl rfl k) ?_
  refine Go.st (f' := (mkF m 9 #[rv s1, rv s2] [])) (fun _ k => XS.ifnullNo X0.here hx rfl (hb hby d6_6) rfl k) ?_
  refine Go.st (f' := (mkF m 10 #[rv s1, rv s2] [(.ref s1)])) (fun _ k => XS.aloadN X0.here hx rfl (hb hby d6_9) rfl rfl k) ?_
  refine Go.st (f' := (mkF m 11 #[rv s1, rv s2] [(.ref s2), (.ref s1)])) (fun _ k => XS.aloadN X0.here hx rfl (hb hby d6_10) rfl rfl k) ?_
  obtain ⟨cq1, kq1, q1a, q1b, q1c⟩ := isOf hZ e0 E_s1
  obtain ⟨_, _, ⟨T1, L1, kk1, nn1⟩, -, X1, ⟨Lc1, hQ1, lq1, yq1, zz1⟩, st1⟩ := X0.virtualBack hx (y := (⟨"java/lang/Object", "equals", "(Ljava/lang/Object;)Z"⟩ : MethodName)) (z := (⟨"java/lang/String", "equals", "(Ljava/lang/Object;)Z"⟩ : MethodName)) hown (mvT hZ (hw _ (List.mem_of_getElem? (i := 66) rfl))) (mvT hZ (hw _ (List.mem_of_getElem? (i := 32) rfl))) (nf_top (args := #[]) (mvT hZ (hw _ (List.mem_of_getElem? (i := 76) rfl)))) (mvT hZ (hw _ (List.mem_of_getElem? (i := 67) rfl))) (mvT hZ (hw _ (List.mem_of_getElem? (i := 68) rfl))) (by decide) (own_back (W := 0) (eq_2_0 l Z a0 hw [] s1 s2 t1 k1 t2 k2 x0 x1 i_COMPACT_STRINGS v_SIOOBE_FORMATTER h0 n0 O0 ne12 E_s1 F_s1_coder F_s1_value E_s2 F_s2_coder F_s2_value V_t1 V_t2 WW) hZ (hw _ (List.mem_of_getElem? (i := 69) rfl)) (hw _ (List.mem_of_getElem? (i := 37) rfl)) (by decide) (by decide)) q1a q1c (g := (mkF m 11 #[rv s1, rv s2] [(.ref s2), (.ref s1)])) rfl (by rw [hml]; rfl) (Steps.refl _) (argsL := [(.ref s2)]) (rest := []) (lenOf pd__Ljava_lang_Object__Z rfl) rfl (by show 2 * 0 + _ ≤ _; exact Nat.le_of_eq rfl) (hb hby d6_11) (fun _ _ => ⟨rfl, e0, (by decide : 0 + 0 ≤ _), (by decide : 0 + 0 ≤ _)⟩)
  dsimp only [Pt.U, Pt.locs, Pt.cells, Pt.slots] at X1 lq1 yq1 zz1 st1 hQ1
  subst lq1 yq1 zz1
  obtain ⟨rfl, Nq1, kq1⟩ := hQ1
  have N1 := Fr.app N0 Nq1
  refine Go.tr (f' := (mkF m 14 #[rv s1, rv s2] [(.int (eqI_2_0 x0 x1))])) st1 ?_
  by_cases cd2 : (eqI_2_0 x0 x1) = (0 : Int32)
  · refine Go.st (f' := (mkF m 21 #[rv s1, rv s2] [])) (fun _ k => XS.ifYes X1.here hx rfl (pc0 := 14) (pc' := 21) rfl (hb hby d6_14) rfl ((if0 _ _).trans (teq cd2).1) (by decide) (by decide) k) ?_
    refine Go.st (f' := (mkF m 22 #[rv s1, rv s2] [(.int 0)])) (fun _ k => XS.iconst X1.here hx rfl (hb hby d6_21) k) ?_
    refine Go.retB X1 hlk hx (t := .boolean) hret (by simp) (hb hby d6_22) kq1 ?_ (by decide) (by decide)
    show (some (.int (0 : Int32)) : Option Value) = some (.int (obI_20 x0 x1)) ∧ _
    exact ⟨by rw [obI_20, if_pos cd2], N1, rfl⟩
  · refine Go.st (f' := (mkF m 17 #[rv s1, rv s2] [])) (fun _ k => XS.ifNo X1.here hx rfl (hb hby d6_14) rfl ((if0 _ _).trans (feq cd2).1) k) ?_
    refine Go.st (f' := (mkF m 18 #[rv s1, rv s2] [(.int 1)])) (fun _ k => XS.iconst X1.here hx rfl (hb hby d6_17) k) ?_
    refine Go.st (f' := (mkF m 22 #[rv s1, rv s2] [(.int 1)])) (fun _ k => XS.goto X1.here hx rfl (pc0 := 18) (pc' := 22) rfl (hb hby d6_18) (by decide) (by decide) k) ?_
    refine Go.retB X1 hlk hx (t := .boolean) hret (by simp) (hb hby d6_22) kq1 ?_ (by decide) (by decide)
    show (some (.int (1 : Int32)) : Option Value) = some (.int (obI_20 x0 x1)) ∧ _
    exact ⟨by rw [obI_20, if_neg cd2], N1, rfl⟩
def obI_21 (x0 : Int32) (x1 : Int32) (y0 : Int32) : Int32 := (if (eqI_2_1 x0 x1 y0) = (0 : Int32) then (0 : Int32) else (1 : Int32))
set_option maxRecDepth 65536 in
set_option maxHeartbeats 40000000 in
theorem ob_21 (l : Launch) (Z : State) (a0 : Array Value) (hw : ∀ d ∈ tables_1, d.before a0 Z = true) (ws : List Jvm.Cond) (s1 : Addr) (t1 : Addr) (k1 : ClassId) (x0 : Int32) (x1 : Int32) (s2 : Addr) (t2 : Addr) (k2 : ClassId) (y0 : Int32) (i_COMPACT_STRINGS : Int32) (v_SIOOBE_FORMATTER : Value) (h0 : Heap) (n0 : Nat) (O0 : Old Z n0 h0) (ne12 : s1 ≠ s2) (E_s1 : Exa Z h0 s1 "java/lang/String") (F_s1_coder : Fld Z h0 s1 "java/lang/String" "coder" "B" (.int 0)) (F_s1_value : Fld Z h0 s1 "java/lang/String" "value" "[B" (.ref t1)) (V_t1 : Arv Z h0 t1 k1 .byte (2 : Int32) [(.int x0), (.int x1)] (.int 0)) (E_s2 : Exa Z h0 s2 "java/lang/String") (F_s2_coder : Fld Z h0 s2 "java/lang/String" "coder" "B" (.int 0)) (F_s2_value : Fld Z h0 s2 "java/lang/String" "value" "[B" (.ref t2)) (V_t2 : Arv Z h0 t2 k2 .byte (1 : Int32) [(.int y0)] (.int 0)) (WW : World1 Z i_COMPACT_STRINGS v_SIOOBE_FORMATTER) :
    Con l Z (⟨"java/util/Objects", "equals", "(Ljava/lang/Object;Ljava/lang/Object;)Z"⟩ : MethodName) jdk_31_method_2_code 2 (some .boolean) ws ({ frames := 2, cells := 0, slots := 0, locals := 28 } : Room) #[(.ref s1), (.ref s2)] h0 (fun v h L => v = some (.int (obI_21 x0 x1 y0)) ∧ Fr n0 L ∧ h = h0) := by
  refine own_body (plainFor_of_name pn_java_util_Objects) ?_
  intro p e s m below meth c s₁ hx hby hml hZ hown hnm hlk hret X0 e0
  have N0 := Fr.nil n0
  refine Go.st (T' := s₁) (f' := (mkF m 0 #[rv s1, rv s2] [])) (fun _ k => castTop (by first | (simp [entryFrame, mkF, argsToLocals, Value.category]; done) | rfl) k) ?_
  have ⟨S_i_COMPACT_STRINGS, nz_i_COMPACT_STRINGS, S_v_SIOOBE_FORMATTER, r_v_SIOOBE_FORMATTER⟩ := WW
  have lt_s1 := E_s1.lt
  have lt_t1 := V_t1.lt
  have lt_s2 := E_s2.lt
  have lt_t2 := V_t2.lt
  refine Go.st (f' := (mkF m 1 #[rv s1, rv s2] [(.ref s1)])) (fun _ k => XS.aloadN X0.here hx rfl (hb hby d6_0) rfl rfl k) ?_
  refine Go.st (f' := (mkF m 2 #[rv s1, rv s2] [(.ref s2), (.ref s1)])) (fun _ k => XS.aloadN X0.here hx rfl (hb hby d6_1) rfl rfl k) ?_
  refine Go.st (f' := (mkF m 5 #[rv s1, rv s2] [])) (fun _ k => Jvm.RoadKit.acmp (g := (mkF m 2 #[rv s1, rv s2] [(.ref s2), (.ref s1)])) X0 hx rfl rfl rfl (pc0 := 2) (pc' := 5) (same := false) rfl (hb hby d6_2) rfl (decide_eq_false fun q => ne12 (Value.ref.inj q)) (by decide) (by decide) k) ?_
  refine Go.st (f' := (mkF m 6 #[rv s1, rv s2] [(.ref s1)])) (fun _ k => XS.aloadN X0.here hx rfl (hb hby d6_5) rfl rfl k) ?_
  refine Go.st (f' := (mkF m 9 #[rv s1, rv s2] [])) (fun _ k => XS.ifnullNo X0.here hx rfl (hb hby d6_6) rfl k) ?_
  refine Go.st (f' := (mkF m 10 #[rv s1, rv s2] [(.ref s1)])) (fun _ k => XS.aloadN X0.here hx rfl (hb hby d6_9) rfl rfl k) ?_
  refine Go.st (f' := (mkF m 11 #[rv s1, rv s2] [(.ref s2), (.ref s1)])) (fun _ k => XS.aloadN X0.here hx rfl (hb hby d6_10) rfl rfl k) ?_
  obtain ⟨cq1, kq1, q1a, q1b, q1c⟩ := isOf hZ e0 E_s1
  obtain ⟨_, _, ⟨T1, L1, kk1, nn1⟩, -, X1, ⟨Lc1, hQ1, lq1, yq1, zz1⟩, st1⟩ := X0.virtualBack hx (y := (⟨"java/lang/Object", "equals", "(Ljava/lang/Object;)Z"⟩ : MethodName)) (z := (⟨"java/lang/String", "equals", "(Ljava/lang/Object;)Z"⟩ : MethodName)) hown (mvT hZ (hw _ (List.mem_of_getElem? (i := 66) rfl))) (mvT hZ (hw _ (List.mem_of_getElem? (i := 32) rfl))) (nf_top (args := #[]) (mvT hZ (hw _ (List.mem_of_getElem? (i := 76) rfl)))) (mvT hZ (hw _ (List.mem_of_getElem? (i := 67) rfl))) (mvT hZ (hw _ (List.mem_of_getElem? (i := 68) rfl))) (by decide) (own_back (W := 0) (eq_2_1 l Z a0 hw [] s1 s2 t1 k1 t2 k2 x0 x1 y0 i_COMPACT_STRINGS v_SIOOBE_FORMATTER h0 n0 O0 ne12 E_s1 F_s1_coder F_s1_value E_s2 F_s2_coder F_s2_value V_t1 V_t2 WW) hZ (hw _ (List.mem_of_getElem? (i := 69) rfl)) (hw _ (List.mem_of_getElem? (i := 37) rfl)) (by decide) (by decide)) q1a q1c (g := (mkF m 11 #[rv s1, rv s2] [(.ref s2), (.ref s1)])) rfl (by rw [hml]; rfl) (Steps.refl _) (argsL := [(.ref s2)]) (rest := []) (lenOf pd__Ljava_lang_Object__Z rfl) rfl (by show 2 * 0 + _ ≤ _; exact Nat.le_of_eq rfl) (hb hby d6_11) (fun _ _ => ⟨rfl, e0, (by decide : 0 + 0 ≤ _), (by decide : 0 + 0 ≤ _)⟩)
  dsimp only [Pt.U, Pt.locs, Pt.cells, Pt.slots] at X1 lq1 yq1 zz1 st1 hQ1
  subst lq1 yq1 zz1
  obtain ⟨rfl, Nq1, kq1⟩ := hQ1
  have N1 := Fr.app N0 Nq1
  refine Go.tr (f' := (mkF m 14 #[rv s1, rv s2] [(.int (eqI_2_1 x0 x1 y0))])) st1 ?_
  by_cases cd2 : (eqI_2_1 x0 x1 y0) = (0 : Int32)
  · refine Go.st (f' := (mkF m 21 #[rv s1, rv s2] [])) (fun _ k => XS.ifYes X1.here hx rfl (pc0 := 14) (pc' := 21) rfl (hb hby d6_14) rfl ((if0 _ _).trans (teq cd2).1) (by decide) (by decide) k) ?_
    refine Go.st (f' := (mkF m 22 #[rv s1, rv s2] [(.int 0)])) (fun _ k => XS.iconst X1.here hx rfl (hb hby d6_21) k) ?_
    refine Go.retB X1 hlk hx (t := .boolean) hret (by simp) (hb hby d6_22) kq1 ?_ (by decide) (by decide)
    show (some (.int (0 : Int32)) : Option Value) = some (.int (obI_21 x0 x1 y0)) ∧ _
    exact ⟨by rw [obI_21, if_pos cd2], N1, rfl⟩
  · refine Go.st (f' := (mkF m 17 #[rv s1, rv s2] [])) (fun _ k => XS.ifNo X1.here hx rfl (hb hby d6_14) rfl ((if0 _ _).trans (feq cd2).1) k) ?_
    refine Go.st (f' := (mkF m 18 #[rv s1, rv s2] [(.int 1)])) (fun _ k => XS.iconst X1.here hx rfl (hb hby d6_17) k) ?_
    refine Go.st (f' := (mkF m 22 #[rv s1, rv s2] [(.int 1)])) (fun _ k => XS.goto X1.here hx rfl (pc0 := 18) (pc' := 22) rfl (hb hby d6_18) (by decide) (by decide) k) ?_
    refine Go.retB X1 hlk hx (t := .boolean) hret (by simp) (hb hby d6_22) kq1 ?_ (by decide) (by decide)
    show (some (.int (1 : Int32)) : Option Value) = some (.int (obI_21 x0 x1 y0)) ∧ _
    exact ⟨by rw [obI_21, if_neg cd2], N1, rfl⟩
def obI_22 (x0 : Int32) (x1 : Int32) (y0 : Int32) (y1 : Int32) : Int32 := (if (eqI_2_2 x0 x1 y0 y1) = (0 : Int32) then (0 : Int32) else (1 : Int32))
set_option maxRecDepth 65536 in
set_option maxHeartbeats 40000000 in
theorem ob_22 (l : Launch) (Z : State) (a0 : Array Value) (hw : ∀ d ∈ tables_1, d.before a0 Z = true) (ws : List Jvm.Cond) (s1 : Addr) (t1 : Addr) (k1 : ClassId) (x0 : Int32) (x1 : Int32) (s2 : Addr) (t2 : Addr) (k2 : ClassId) (y0 : Int32) (y1 : Int32) (i_COMPACT_STRINGS : Int32) (v_SIOOBE_FORMATTER : Value) (h0 : Heap) (n0 : Nat) (O0 : Old Z n0 h0) (ne12 : s1 ≠ s2) (E_s1 : Exa Z h0 s1 "java/lang/String") (F_s1_coder : Fld Z h0 s1 "java/lang/String" "coder" "B" (.int 0)) (F_s1_value : Fld Z h0 s1 "java/lang/String" "value" "[B" (.ref t1)) (V_t1 : Arv Z h0 t1 k1 .byte (2 : Int32) [(.int x0), (.int x1)] (.int 0)) (E_s2 : Exa Z h0 s2 "java/lang/String") (F_s2_coder : Fld Z h0 s2 "java/lang/String" "coder" "B" (.int 0)) (F_s2_value : Fld Z h0 s2 "java/lang/String" "value" "[B" (.ref t2)) (V_t2 : Arv Z h0 t2 k2 .byte (2 : Int32) [(.int y0), (.int y1)] (.int 0)) (WW : World1 Z i_COMPACT_STRINGS v_SIOOBE_FORMATTER) :
    Con l Z (⟨"java/util/Objects", "equals", "(Ljava/lang/Object;Ljava/lang/Object;)Z"⟩ : MethodName) jdk_31_method_2_code 2 (some .boolean) ws ({ frames := 2, cells := 0, slots := 0, locals := 28 } : Room) #[(.ref s1), (.ref s2)] h0 (fun v h L => v = some (.int (obI_22 x0 x1 y0 y1)) ∧ Fr n0 L ∧ h = h0) := by
  refine own_body (plainFor_of_name pn_java_util_Objects) ?_
  intro p e s m below meth c s₁ hx hby hml hZ hown hnm hlk hret X0 e0
  have N0 := Fr.nil n0
  refine Go.st (T' := s₁) (f' := (mkF m 0 #[rv s1, rv s2] [])) (fun _ k => castTop (by first | (simp [entryFrame, mkF, argsToLocals, Value.category]; done) | rfl) k) ?_
  have ⟨S_i_COMPACT_STRINGS, nz_i_COMPACT_STRINGS, S_v_SIOOBE_FORMATTER, r_v_SIOOBE_FORMATTER⟩ := WW
  have lt_s1 := E_s1.lt
  have lt_t1 := V_t1.lt
  have lt_s2 := E_s2.lt
  have lt_t2 := V_t2.lt
  refine Go.st (f' := (mkF m 1 #[rv s1, rv s2] [(.ref s1)])) (fun _ k => XS.aloadN X0.here hx rfl (hb hby d6_0) rfl rfl k) ?_
  refine Go.st (f' := (mkF m 2 #[rv s1, rv s2] [(.ref s2), (.ref s1)])) (fun _ k => XS.aloadN X0.here hx rfl (hb hby d6_1) rfl rfl k) ?_
  refine Go.st (f' := (mkF m 5 #[rv s1, rv s2] [])) (fun _ k => Jvm.RoadKit.acmp (g := (mkF m 2 #[rv s1, rv s2] [(.ref s2), (.ref s1)])) X0 hx rfl rfl rfl (pc0 := 2) (pc' := 5) (same := false) rfl (hb hby d6_2) rfl (decide_eq_false fun q => ne12 (Value.ref.inj q)) (by decide) (by decide) k) ?_
  refine Go.st (f' := (mkF m 6 #[rv s1, rv s2] [(.ref s1)])) (fun _ k => XS.aloadN X0.here hx rfl (hb hby d6_5) rfl rfl k) ?_
  refine Go.st (f' := (mkF m 9 #[rv s1, rv s2] [])) (fun _ k => XS.ifnullNo X0.here hx rfl (hb hby d6_6) rfl k) ?_
  refine Go.st (f' := (mkF m 10 #[rv s1, rv s2] [(.ref s1)])) (fun _ k => XS.aloadN X0.here hx rfl (hb hby d6_9) rfl rfl k) ?_
  refine Go.st (f' := (mkF m 11 #[rv s1, rv s2] [(.ref s2), (.ref s1)])) (fun _ k => XS.aloadN X0.here hx rfl (hb hby d6_10) rfl rfl k) ?_
  obtain ⟨cq1, kq1, q1a, q1b, q1c⟩ := isOf hZ e0 E_s1
  obtain ⟨_, _, ⟨T1, L1, kk1, nn1⟩, -, X1, ⟨Lc1, hQ1, lq1, yq1, zz1⟩, st1⟩ := X0.virtualBack hx (y := (⟨"java/lang/Object", "equals", "(Ljava/lang/Object;)Z"⟩ : MethodName)) (z := (⟨"java/lang/String", "equals", "(Ljava/lang/Object;)Z"⟩ : MethodName)) hown (mvT hZ (hw _ (List.mem_of_getElem? (i := 66) rfl))) (mvT hZ (hw _ (List.mem_of_getElem? (i := 32) rfl))) (nf_top (args := #[]) (mvT hZ (hw _ (List.mem_of_getElem? (i := 76) rfl)))) (mvT hZ (hw _ (List.mem_of_getElem? (i := 67) rfl))) (mvT hZ (hw _ (List.mem_of_getElem? (i := 68) rfl))) (by decide) (own_back (W := 0) (eq_2_2 l Z a0 hw [] s1 s2 t1 k1 t2 k2 x0 x1 y0 y1 i_COMPACT_STRINGS v_SIOOBE_FORMATTER h0 n0 O0 ne12 E_s1 F_s1_coder F_s1_value E_s2 F_s2_coder F_s2_value V_t1 V_t2 WW) hZ (hw _ (List.mem_of_getElem? (i := 69) rfl)) (hw _ (List.mem_of_getElem? (i := 37) rfl)) (by decide) (by decide)) q1a q1c (g := (mkF m 11 #[rv s1, rv s2] [(.ref s2), (.ref s1)])) rfl (by rw [hml]; rfl) (Steps.refl _) (argsL := [(.ref s2)]) (rest := []) (lenOf pd__Ljava_lang_Object__Z rfl) rfl (by show 2 * 0 + _ ≤ _; exact Nat.le_of_eq rfl) (hb hby d6_11) (fun _ _ => ⟨rfl, e0, (by decide : 0 + 0 ≤ _), (by decide : 0 + 0 ≤ _)⟩)
  dsimp only [Pt.U, Pt.locs, Pt.cells, Pt.slots] at X1 lq1 yq1 zz1 st1 hQ1
  subst lq1 yq1 zz1
  obtain ⟨rfl, Nq1, kq1⟩ := hQ1
  have N1 := Fr.app N0 Nq1
  refine Go.tr (f' := (mkF m 14 #[rv s1, rv s2] [(.int (eqI_2_2 x0 x1 y0 y1))])) st1 ?_
  by_cases cd2 : (eqI_2_2 x0 x1 y0 y1) = (0 : Int32)
  · refine Go.st (f' := (mkF m 21 #[rv s1, rv s2] [])) (fun _ k => XS.ifYes X1.here hx rfl (pc0 := 14) (pc' := 21) rfl (hb hby d6_14) rfl ((if0 _ _).trans (teq cd2).1) (by decide) (by decide) k) ?_
    refine Go.st (f' := (mkF m 22 #[rv s1, rv s2] [(.int 0)])) (fun _ k => XS.iconst X1.here hx rfl (hb hby d6_21) k) ?_
    refine Go.retB X1 hlk hx (t := .boolean) hret (by simp) (hb hby d6_22) kq1 ?_ (by decide) (by decide)
    show (some (.int (0 : Int32)) : Option Value) = some (.int (obI_22 x0 x1 y0 y1)) ∧ _
    exact ⟨by rw [obI_22, if_pos cd2], N1, rfl⟩
  · refine Go.st (f' := (mkF m 17 #[rv s1, rv s2] [])) (fun _ k => XS.ifNo X1.here hx rfl (hb hby d6_14) rfl ((if0 _ _).trans (feq cd2).1) k) ?_
    refine Go.st (f' := (mkF m 18 #[rv s1, rv s2] [(.int 1)])) (fun _ k => XS.iconst X1.here hx rfl (hb hby d6_17) k) ?_
    refine Go.st (f' := (mkF m 22 #[rv s1, rv s2] [(.int 1)])) (fun _ k => XS.goto X1.here hx rfl (pc0 := 18) (pc' := 22) rfl (hb hby d6_18) (by decide) (by decide) k) ?_
    refine Go.retB X1 hlk hx (t := .boolean) hret (by simp) (hb hby d6_22) kq1 ?_ (by decide) (by decide)
    show (some (.int (1 : Int32)) : Option Value) = some (.int (obI_22 x0 x1 y0 y1)) ∧ _
    exact ⟨by rw [obI_22, if_neg cd2], N1, rfl⟩
theorem d5_0 : decode prog_20_method_5_code 0 = .ok (.aload_n 1, 1) := by decide +kernel
theorem d5_1 : decode prog_20_method_5_code 1 = .ok (.instanceof 8, 3) := by decide +kernel
theorem d5_4 : decode prog_20_method_5_code 4 = .ok (.ifCond .eq 37, 3) := by decide +kernel
theorem d5_7 : decode prog_20_method_5_code 7 = .ok (.aload_n 1, 1) := by decide +kernel
theorem d5_8 : decode prog_20_method_5_code 8 = .ok (.checkcast 8, 3) := by decide +kernel
theorem d5_11 : decode prog_20_method_5_code 11 = .ok (.astore_n 2, 1) := by decide +kernel
theorem d5_12 : decode prog_20_method_5_code 12 = .ok (.aload_n 0, 1) := by decide +kernel
theorem d5_13 : decode prog_20_method_5_code 13 = .ok (.getfield 7, 3) := by decide +kernel
theorem d5_16 : decode prog_20_method_5_code 16 = .ok (.aload_n 2, 1) := by decide +kernel
theorem d5_17 : decode prog_20_method_5_code 17 = .ok (.getfield 7, 3) := by decide +kernel
theorem d5_20 : decode prog_20_method_5_code 20 = .ok (.if_icmp .ne 21, 3) := by decide +kernel
theorem d5_23 : decode prog_20_method_5_code 23 = .ok (.aload_n 0, 1) := by decide +kernel
theorem d5_24 : decode prog_20_method_5_code 24 = .ok (.getfield 13, 3) := by decide +kernel
theorem d5_27 : decode prog_20_method_5_code 27 = .ok (.aload_n 2, 1) := by decide +kernel
theorem d5_28 : decode prog_20_method_5_code 28 = .ok (.getfield 13, 3) := by decide +kernel
theorem d5_31 : decode prog_20_method_5_code 31 = .ok (.invokestatic 17, 3) := by decide +kernel
theorem pd__Ljava_lang_Object_Ljava_lang_Object__Z : parseMethodDescriptor "(Ljava/lang/Object;Ljava/lang/Object;)Z" = some ⟨[(.object "java/lang/Object"), (.object "java/lang/Object")], some .boolean⟩ := by decide +kernel
theorem d5_34 : decode prog_20_method_5_code 34 = .ok (.ifCond .eq 7, 3) := by decide +kernel
theorem d5_41 : decode prog_20_method_5_code 41 = .ok (.iconst 0, 1) := by decide +kernel
theorem d5_42 : decode prog_20_method_5_code 42 = .ok (.ireturn, 1) := by decide +kernel
theorem d5_37 : decode prog_20_method_5_code 37 = .ok (.iconst 1, 1) := by decide +kernel
theorem d5_38 : decode prog_20_method_5_code 38 = .ok (.goto 4, 3) := by decide +kernel
def ueI_NN (i1 : Int32) (i2 : Int32) : Int32 := (if i1 = i2 then (if (obI_NN) = (0 : Int32) then (0 : Int32) else (1 : Int32)) else (0 : Int32))
set_option maxRecDepth 65536 in
set_option maxHeartbeats 40000000 in
theorem ue_NN (l : Launch) (Z : State) (a0 : Array Value) (hw : ∀ d ∈ tables_1, d.before a0 Z = true) (ws : List Jvm.Cond) (a1 : Addr) (a2 : Addr) (i1 : Int32) (i2 : Int32) (i_COMPACT_STRINGS : Int32) (v_SIOOBE_FORMATTER : Value) (h0 : Heap) (n0 : Nat) (O0 : Old Z n0 h0) (E_a1 : Exa Z h0 a1 "com/example/wirecall/wirecall/demo/User") (F_a1_userId : Fld Z h0 a1 "com/example/wirecall/wirecall/demo/User" "userId" "I" (.int i1)) (F_a1_userName : Fld Z h0 a1 "com/example/wirecall/wirecall/demo/User" "userName" "Ljava/lang/String;" .null) (E_a2 : Exa Z h0 a2 "com/example/wirecall/wirecall/demo/User") (F_a2_userId : Fld Z h0 a2 "com/example/wirecall/wirecall/demo/User" "userId" "I" (.int i2)) (F_a2_userName : Fld Z h0 a2 "com/example/wirecall/wirecall/demo/User" "userName" "Ljava/lang/String;" .null) (WW : World1 Z i_COMPACT_STRINGS v_SIOOBE_FORMATTER) :
    Con l Z (⟨"com/example/wirecall/wirecall/demo/User", "equals", "(Ljava/lang/Object;)Z"⟩ : MethodName) prog_20_method_5_code 3 (some .boolean) ws ({ frames := 3, cells := 0, slots := 0, locals := 41 } : Room) #[(.ref a1), (.ref a2)] h0 (fun v h L => v = some (.int (ueI_NN i1 i2)) ∧ Fr n0 L ∧ h = h0) := by
  refine own_body (plainFor_of_name pn_com_example_wirecall_wirecall_demo_User) ?_
  intro p e s m below meth c s₁ hx hby hml hZ hown hnm hlk hret X0 e0
  have N0 := Fr.nil n0
  refine Go.st (T' := s₁) (f' := (mkF m 0 #[rv a1, rv a2, .unset] [])) (fun _ k => castTop (by first | (simp [entryFrame, mkF, argsToLocals, Value.category]; done) | rfl) k) ?_
  have ⟨S_i_COMPACT_STRINGS, nz_i_COMPACT_STRINGS, S_v_SIOOBE_FORMATTER, r_v_SIOOBE_FORMATTER⟩ := WW
  have lt_a1 := E_a1.lt
  have lt_a2 := E_a2.lt
  refine Go.st (f' := (mkF m 1 #[rv a1, rv a2, .unset] [(.ref a2)])) (fun _ k => XS.aloadN X0.here hx rfl (hb hby d5_0) rfl rfl k) ?_
  obtain ⟨T1, X1, e1, st1⟩ := instY X0 hx hZ hown (hw _ (List.mem_of_getElem? (i := 25) rfl)) e0 (Ins.self E_a2) (g := (mkF m 1 #[rv a1, rv a2, .unset] [(.ref a2)])) rfl rfl (hb hby d5_1)
  refine Go.st (f' := (mkF m 4 #[rv a1, rv a2, .unset] [(.int 1)])) (fun _ k => st1 _ k) ?_
  refine Go.st (f' := (mkF m 7 #[rv a1, rv a2, .unset] [])) (fun _ k => XS.ifNo X1.here hx rfl (hb hby d5_4) rfl (by decide) k) ?_
  refine Go.st (f' := (mkF m 8 #[rv a1, rv a2, .unset] [(.ref a2)])) (fun _ k => XS.aloadN X1.here hx rfl (hb hby d5_7) rfl rfl k) ?_
  obtain ⟨T2, X2, e2, st2⟩ := castY X1 hx hZ hown (hw _ (List.mem_of_getElem? (i := 25) rfl)) e1 (Ins.self E_a2) (g := (mkF m 8 #[rv a1, rv a2, .unset] [(.ref a2)])) rfl rfl (hb hby d5_8)
  refine Go.st (f' := (mkF m 11 #[rv a1, rv a2, .unset] [(.ref a2)])) (fun _ k => st2 _ k) ?_
  refine Go.st (f' := (mkF m 12 #[rv a1, rv a2, rv a2] [])) (fun _ k => XS.astoreN X2.here hx rfl (hb hby d5_11) rfl rfl (l' := #[rv a1, rv a2, rv a2]) rfl k) ?_
  refine Go.st (f' := (mkF m 13 #[rv a1, rv a2, rv a2] [(.ref a1)])) (fun _ k => XS.aloadN X2.here hx rfl (hb hby d5_12) rfl rfl k) ?_
  obtain ⟨T3, X3, e3, st3⟩ := getF X2 hx hZ hown (host := "") (Or.inl (hw _ (List.mem_of_getElem? (i := 16) rfl))) Via.refl e2 F_a1_userId (g := (mkF m 13 #[rv a1, rv a2, rv a2] [(.ref a1)])) rfl rfl (hb hby d5_13)
  refine Go.st (f' := (mkF m 16 #[rv a1, rv a2, rv a2] [(.int i1)])) (fun _ k => st3 _ k) ?_
  refine Go.st (f' := (mkF m 17 #[rv a1, rv a2, rv a2] [(.ref a2), (.int i1)])) (fun _ k => XS.aloadN X3.here hx rfl (hb hby d5_16) rfl rfl k) ?_
  obtain ⟨T4, X4, e4, st4⟩ := getF X3 hx hZ hown (host := "") (Or.inl (hw _ (List.mem_of_getElem? (i := 16) rfl))) Via.refl e3 F_a2_userId (g := (mkF m 17 #[rv a1, rv a2, rv a2] [(.ref a2), (.int i1)])) rfl rfl (hb hby d5_17)
  refine Go.st (f' := (mkF m 20 #[rv a1, rv a2, rv a2] [(.int i2), (.int i1)])) (fun _ k => st4 _ k) ?_
  by_cases cd5 : i1 = i2
  · refine Go.st (f' := (mkF m 23 #[rv a1, rv a2, rv a2] [])) (fun _ k => XS.icmpNo X4.here hx rfl (hb hby d5_20) rfl (teq cd5).2 k) ?_
    refine Go.st (f' := (mkF m 24 #[rv a1, rv a2, rv a2] [(.ref a1)])) (fun _ k => XS.aloadN X4.here hx rfl (hb hby d5_23) rfl rfl k) ?_
    obtain ⟨T6, X6, e6, st6⟩ := getF X4 hx hZ hown (host := "") (Or.inl (hw _ (List.mem_of_getElem? (i := 18) rfl))) Via.refl e4 F_a1_userName (g := (mkF m 24 #[rv a1, rv a2, rv a2] [(.ref a1)])) rfl rfl (hb hby d5_24)
    refine Go.st (f' := (mkF m 27 #[rv a1, rv a2, rv a2] [.null])) (fun _ k => st6 _ k) ?_
    refine Go.st (f' := (mkF m 28 #[rv a1, rv a2, rv a2] [(.ref a2), .null])) (fun _ k => XS.aloadN X6.here hx rfl (hb hby d5_27) rfl rfl k) ?_
    obtain ⟨T7, X7, e7, st7⟩ := getF X6 hx hZ hown (host := "") (Or.inl (hw _ (List.mem_of_getElem? (i := 18) rfl))) Via.refl e6 F_a2_userName (g := (mkF m 28 #[rv a1, rv a2, rv a2] [(.ref a2), .null])) rfl rfl (hb hby d5_28)
    refine Go.st (f' := (mkF m 31 #[rv a1, rv a2, rv a2] [.null, .null])) (fun _ k => st7 _ k) ?_
    obtain ⟨_, _, ⟨T8, L8, kk8, nn8⟩, -, X8, ⟨Lc8, hQ8, lq8, yq8, zz8⟩, st8⟩ := Jvm.LawKit.callS X7 hx (y := (⟨"java/util/Objects", "equals", "(Ljava/lang/Object;Ljava/lang/Object;)Z"⟩ : MethodName)) hown (mvT hZ (hw _ (List.mem_of_getElem? (i := 27) rfl))) (mvT hZ (hw _ (List.mem_of_getElem? (i := 28) rfl))) (mvT hZ (hw _ (List.mem_of_getElem? (i := 29) rfl))) (mvT hZ (hw _ (List.mem_of_getElem? (i := 30) rfl))) (by decide) (own_back (W := 0) (ob_NN l Z a0 hw []   i_COMPACT_STRINGS v_SIOOBE_FORMATTER h0 n0 O0    WW) hZ (hw _ (List.mem_of_getElem? (i := 30) rfl)) (hw _ (List.mem_of_getElem? (i := 29) rfl)) (by decide) (by decide)) (g := (mkF m 31 #[rv a1, rv a2, rv a2] [.null, .null])) rfl (by rw [hml]; rfl) (argsL := [.null, .null]) (rest := []) (lenOf pd__Ljava_lang_Object_Ljava_lang_Object__Z rfl) rfl (by show 2 * 0 + _ ≤ _; exact Nat.le_of_eq rfl) (hb hby d5_31) (fun _ _ => ⟨rfl, e7, (by decide : 0 + 0 ≤ _), (by decide : 0 + 0 ≤ _)⟩)
    dsimp only [Pt.U, Pt.locs, Pt.cells, Pt.slots] at X8 lq8 yq8 zz8 st8 hQ8
    subst lq8 yq8 zz8
    obtain ⟨rfl, Nq8, kq8⟩ := hQ8
    have N8 := Fr.app N0 Nq8
    refine Go.st (f' := (mkF m 34 #[rv a1, rv a2, rv a2] [(.int (obI_NN))])) (fun _ k => st8 _ k) ?_
    by_cases cd9 : (obI_NN) = (0 : Int32)
    · refine Go.st (f' := (mkF m 41 #[rv a1, rv a2, rv a2] [])) (fun _ k => XS.ifYes X8.here hx rfl (pc0 := 34) (pc' := 41) rfl (hb hby d5_34) rfl ((if0 _ _).trans (teq cd9).1) (by decide) (by decide) k) ?_
      refine Go.st (f' := (mkF m 42 #[rv a1, rv a2, rv a2] [(.int 0)])) (fun _ k => XS.iconst X8.here hx rfl (hb hby d5_41) k) ?_
      refine Go.retB X8 hlk hx (t := .boolean) hret (by simp) (hb hby d5_42) kq8 ?_ (by decide) (by decide)
      show (some (.int (0 : Int32)) : Option Value) = some (.int (ueI_NN i1 i2)) ∧ _
      exact ⟨by rw [ueI_NN, if_pos cd5, if_pos cd9], N8, rfl⟩
    · refine Go.st (f' := (mkF m 37 #[rv a1, rv a2, rv a2] [])) (fun _ k => XS.ifNo X8.here hx rfl (hb hby d5_34) rfl ((if0 _ _).trans (feq cd9).1) k) ?_
      refine Go.st (f' := (mkF m 38 #[rv a1, rv a2, rv a2] [(.int 1)])) (fun _ k => XS.iconst X8.here hx rfl (hb hby d5_37) k) ?_
      refine Go.st (f' := (mkF m 42 #[rv a1, rv a2, rv a2] [(.int 1)])) (fun _ k => XS.goto X8.here hx rfl (pc0 := 38) (pc' := 42) rfl (hb hby d5_38) (by decide) (by decide) k) ?_
      refine Go.retB X8 hlk hx (t := .boolean) hret (by simp) (hb hby d5_42) kq8 ?_ (by decide) (by decide)
      show (some (.int (1 : Int32)) : Option Value) = some (.int (ueI_NN i1 i2)) ∧ _
      exact ⟨by rw [ueI_NN, if_pos cd5, if_neg cd9], N8, rfl⟩
  · refine Go.st (f' := (mkF m 41 #[rv a1, rv a2, rv a2] [])) (fun _ k => XS.icmpYes X4.here hx rfl (pc0 := 20) (pc' := 41) rfl (hb hby d5_20) rfl (feq cd5).2 (by decide) (by decide) k) ?_
    refine Go.st (f' := (mkF m 42 #[rv a1, rv a2, rv a2] [(.int 0)])) (fun _ k => XS.iconst X4.here hx rfl (hb hby d5_41) k) ?_
    refine Go.retB X4 hlk hx (t := .boolean) hret (by simp) (hb hby d5_42) e4 ?_ (by decide) (by decide)
    show (some (.int (0 : Int32)) : Option Value) = some (.int (ueI_NN i1 i2)) ∧ _
    exact ⟨by rw [ueI_NN, if_neg cd5], N0, rfl⟩
def ueI_N0 (i1 : Int32) (i2 : Int32) : Int32 := (if i1 = i2 then (if (obI_N0) = (0 : Int32) then (0 : Int32) else (1 : Int32)) else (0 : Int32))
set_option maxRecDepth 65536 in
set_option maxHeartbeats 40000000 in
theorem ue_N0 (l : Launch) (Z : State) (a0 : Array Value) (hw : ∀ d ∈ tables_1, d.before a0 Z = true) (ws : List Jvm.Cond) (a1 : Addr) (a2 : Addr) (i1 : Int32) (i2 : Int32) (s2 : Addr) (t2 : Addr) (k2 : ClassId) (i_COMPACT_STRINGS : Int32) (v_SIOOBE_FORMATTER : Value) (h0 : Heap) (n0 : Nat) (O0 : Old Z n0 h0) (E_a1 : Exa Z h0 a1 "com/example/wirecall/wirecall/demo/User") (F_a1_userId : Fld Z h0 a1 "com/example/wirecall/wirecall/demo/User" "userId" "I" (.int i1)) (F_a1_userName : Fld Z h0 a1 "com/example/wirecall/wirecall/demo/User" "userName" "Ljava/lang/String;" .null) (E_a2 : Exa Z h0 a2 "com/example/wirecall/wirecall/demo/User") (F_a2_userId : Fld Z h0 a2 "com/example/wirecall/wirecall/demo/User" "userId" "I" (.int i2)) (F_a2_userName : Fld Z h0 a2 "com/example/wirecall/wirecall/demo/User" "userName" "Ljava/lang/String;" (.ref s2)) (E_s2 : Exa Z h0 s2 "java/lang/String") (F_s2_coder : Fld Z h0 s2 "java/lang/String" "coder" "B" (.int 0)) (F_s2_value : Fld Z h0 s2 "java/lang/String" "value" "[B" (.ref t2)) (V_t2 : Arv Z h0 t2 k2 .byte (0 : Int32) [] (.int 0)) (WW : World1 Z i_COMPACT_STRINGS v_SIOOBE_FORMATTER) :
    Con l Z (⟨"com/example/wirecall/wirecall/demo/User", "equals", "(Ljava/lang/Object;)Z"⟩ : MethodName) prog_20_method_5_code 3 (some .boolean) ws ({ frames := 3, cells := 0, slots := 0, locals := 41 } : Room) #[(.ref a1), (.ref a2)] h0 (fun v h L => v = some (.int (ueI_N0 i1 i2)) ∧ Fr n0 L ∧ h = h0) := by
  refine own_body (plainFor_of_name pn_com_example_wirecall_wirecall_demo_User) ?_
  intro p e s m below meth c s₁ hx hby hml hZ hown hnm hlk hret X0 e0
  have N0 := Fr.nil n0
  refine Go.st (T' := s₁) (f' := (mkF m 0 #[rv a1, rv a2, .unset] [])) (fun _ k => castTop (by first | (simp [entryFrame, mkF, argsToLocals, Value.category]; done) | rfl) k) ?_
  have ⟨S_i_COMPACT_STRINGS, nz_i_COMPACT_STRINGS, S_v_SIOOBE_FORMATTER, r_v_SIOOBE_FORMATTER⟩ := WW
  have lt_a1 := E_a1.lt
  have lt_a2 := E_a2.lt
  have lt_s2 := E_s2.lt
  have lt_t2 := V_t2.lt
  refine Go.st (f' := (mkF m 1 #[rv a1, rv a2, .unset] [(.ref a2)])) (fun _ k => XS.aloadN X0.here hx rfl (hb hby d5_0) rfl rfl k) ?_
  obtain ⟨T1, X1, e1, st1⟩ := instY X0 hx hZ hown (hw _ (List.mem_of_getElem? (i := 25) rfl)) e0 (Ins.self E_a2) (g := (mkF m 1 #[rv a1, rv a2, .unset] [(.ref a2)])) rfl rfl (hb hby d5_1)
  refine Go.st (f' := (mkF m 4 #[rv a1, rv a2, .unset] [(.int 1)])) (fun _ k => st1 _ k) ?_
  refine Go.st (f' := (mkF m 7 #[rv a1, rv a2, .unset] [])) (fun _ k => XS.ifNo X1.here hx rfl (hb hby d5_4) rfl (by decide) k) ?_
  refine Go.st (f' := (mkF m 8 #[rv a1, rv a2, .unset] [(.ref a2)])) (fun _ k => XS.aloadN X1.here hx rfl (hb hby d5_7) rfl rfl k) ?_
  obtain ⟨T2, X2, e2, st2⟩ := castY X1 hx hZ hown (hw _ (List.mem_of_getElem? (i := 25) rfl)) e1 (Ins.self E_a2) (g := (mkF m 8 #[rv a1, rv a2, .unset] [(.ref a2)])) rfl rfl (hb hby d5_8)
  refine Go.st (f' := (mkF m 11 #[rv a1, rv a2, .unset] [(.ref a2)])) (fun _ k => st2 _ k) ?_
  refine Go.st (f' := (mkF m 12 #[rv a1, rv a2, rv a2] [])) (fun _ k => XS.astoreN X2.here hx rfl (hb hby d5_11) rfl rfl (l' := #[rv a1, rv a2, rv a2]) rfl k) ?_
  refine Go.st (f' := (mkF m 13 #[rv a1, rv a2, rv a2] [(.ref a1)])) (fun _ k => XS.aloadN X2.here hx rfl (hb hby d5_12) rfl rfl k) ?_
  obtain ⟨T3, X3, e3, st3⟩ := getF X2 hx hZ hown (host := "") (Or.inl (hw _ (List.mem_of_getElem? (i := 16) rfl))) Via.refl e2 F_a1_userId (g := (mkF m 13 #[rv a1, rv a2, rv a2] [(.ref a1)])) rfl rfl (hb hby d5_13)
  refine Go.st (f' := (mkF m 16 #[rv a1, rv a2, rv a2] [(.int i1)])) (fun _ k => st3 _ k) ?_
  refine Go.st (f' := (mkF m 17 #[rv a1, rv a2, rv a2] [(.ref a2), (.int i1)])) (fun _ k => XS.aloadN X3.here hx rfl (hb hby d5_16) rfl rfl k) ?_
  obtain ⟨T4, X4, e4, st4⟩ := getF X3 hx hZ hown (host := "") (Or.inl (hw _ (List.mem_of_getElem? (i := 16) rfl))) Via.refl e3 F_a2_userId (g := (mkF m 17 #[rv a1, rv a2, rv a2] [(.ref a2), (.int i1)])) rfl rfl (hb hby d5_17)
  refine Go.st (f' := (mkF m 20 #[rv a1, rv a2, rv a2] [(.int i2), (.int i1)])) (fun _ k => st4 _ k) ?_
  by_cases cd5 : i1 = i2
  · refine Go.st (f' := (mkF m 23 #[rv a1, rv a2, rv a2] [])) (fun _ k => XS.icmpNo X4.here hx rfl (hb hby d5_20) rfl (teq cd5).2 k) ?_
    refine Go.st (f' := (mkF m 24 #[rv a1, rv a2, rv a2] [(.ref a1)])) (fun _ k => XS.aloadN X4.here hx rfl (hb hby d5_23) rfl rfl k) ?_
    obtain ⟨T6, X6, e6, st6⟩ := getF X4 hx hZ hown (host := "") (Or.inl (hw _ (List.mem_of_getElem? (i := 18) rfl))) Via.refl e4 F_a1_userName (g := (mkF m 24 #[rv a1, rv a2, rv a2] [(.ref a1)])) rfl rfl (hb hby d5_24)
    refine Go.st (f' := (mkF m 27 #[rv a1, rv a2, rv a2] [.null])) (fun _ k => st6 _ k) ?_
    refine Go.st (f' := (mkF m 28 #[rv a1, rv a2, rv a2] [(.ref a2), .null])) (fun _ k => XS.aloadN X6.here hx rfl (hb hby d5_27) rfl rfl k) ?_
    obtain ⟨T7, X7, e7, st7⟩ := getF X6 hx hZ hown (host := "") (Or.inl (hw _ (List.mem_of_getElem? (i := 18) rfl))) Via.refl e6 F_a2_userName (g := (mkF m 28 #[rv a1, rv a2, rv a2] [(.ref a2), .null])) rfl rfl (hb hby d5_28)
    refine Go.st (f' := (mkF m 31 #[rv a1, rv a2, rv a2] [(.ref s2), .null])) (fun _ k => st7 _ k) ?_
    obtain ⟨_, _, ⟨T8, L8, kk8, nn8⟩, -, X8, ⟨Lc8, hQ8, lq8, yq8, zz8⟩, st8⟩ := Jvm.LawKit.callS X7 hx (y := (⟨"java/util/Objects", "equals", "(Ljava/lang/Object;Ljava/lang/Object;)Z"⟩ : MethodName)) hown (mvT hZ (hw _ (List.mem_of_getElem? (i := 27) rfl))) (mvT hZ (hw _ (List.mem_of_getElem? (i := 28) rfl))) (mvT hZ (hw _ (List.mem_of_getElem? (i := 29) rfl))) (mvT hZ (hw _ (List.mem_of_getElem? (i := 30) rfl))) (by decide) (own_back (W := 0) (ob_N0 l Z a0 hw []  s2 t2 k2  i_COMPACT_STRINGS v_SIOOBE_FORMATTER h0 n0 O0   E_s2 F_s2_coder F_s2_value V_t2 WW) hZ (hw _ (List.mem_of_getElem? (i := 30) rfl)) (hw _ (List.mem_of_getElem? (i := 29) rfl)) (by decide) (by decide)) (g := (mkF m 31 #[rv a1, rv a2, rv a2] [(.ref s2), .null])) rfl (by rw [hml]; rfl) (argsL := [.null, (.ref s2)]) (rest := []) (lenOf pd__Ljava_lang_Object_Ljava_lang_Object__Z rfl) rfl (by show 2 * 0 + _ ≤ _; exact Nat.le_of_eq rfl) (hb hby d5_31) (fun _ _ => ⟨rfl, e7, (by decide : 0 + 0 ≤ _), (by decide : 0 + 0 ≤ _)⟩)
    dsimp only [Pt.U, Pt.locs, Pt.cells, Pt.slots] at X8 lq8 yq8 zz8 st8 hQ8
    subst lq8 yq8 zz8
    obtain ⟨rfl, Nq8, kq8⟩ := hQ8
    have N8 := Fr.app N0 Nq8
    refine Go.st (f' := (mkF m 34 #[rv a1, rv a2, rv a2] [(.int (obI_N0))])) (fun _ k => st8 _ k) ?_
    by_cases cd9 : (obI_N0) = (0 : Int32)
    · refine Go.st (f' := (mkF m 41 #[rv a1, rv a2, rv a2] [])) (fun _ k => XS.ifYes X8.here hx rfl (pc0 := 34) (pc' := 41) rfl (hb hby d5_34) rfl ((if0 _ _).trans (teq cd9).1) (by decide) (by decide) k) ?_
      refine Go.st (f' := (mkF m 42 #[rv a1, rv a2, rv a2] [(.int 0)])) (fun _ k => XS.iconst X8.here hx rfl (hb hby d5_41) k) ?_
      refine Go.retB X8 hlk hx (t := .boolean) hret (by simp) (hb hby d5_42) kq8 ?_ (by decide) (by decide)
      show (some (.int (0 : Int32)) : Option Value) = some (.int (ueI_N0 i1 i2)) ∧ _
      exact ⟨by rw [ueI_N0, if_pos cd5, if_pos cd9], N8, rfl⟩
    · refine Go.st (f' := (mkF m 37 #[rv a1, rv a2, rv a2] [])) (fun _ k => XS.ifNo X8.here hx rfl (hb hby d5_34) rfl ((if0 _ _).trans (feq cd9).1) k) ?_
      refine Go.st (f' := (mkF m 38 #[rv a1, rv a2, rv a2] [(.int 1)])) (fun _ k => XS.iconst X8.here hx rfl (hb hby d5_37) k) ?_
      refine Go.st (f' := (mkF m 42 #[rv a1, rv a2, rv a2] [(.int 1)])) (fun _ k => XS.goto X8.here hx rfl (pc0 := 38) (pc' := 42) rfl (hb hby d5_38) (by decide) (by decide) k) ?_
      refine Go.retB X8 hlk hx (t := .boolean) hret (by simp) (hb hby d5_42) kq8 ?_ (by decide) (by decide)
      show (some (.int (1 : Int32)) : Option Value) = some (.int (ueI_N0 i1 i2)) ∧ _
      exact ⟨by rw [ueI_N0, if_pos cd5, if_neg cd9], N8, rfl⟩
  · refine Go.st (f' := (mkF m 41 #[rv a1, rv a2, rv a2] [])) (fun _ k => XS.icmpYes X4.here hx rfl (pc0 := 20) (pc' := 41) rfl (hb hby d5_20) rfl (feq cd5).2 (by decide) (by decide) k) ?_
    refine Go.st (f' := (mkF m 42 #[rv a1, rv a2, rv a2] [(.int 0)])) (fun _ k => XS.iconst X4.here hx rfl (hb hby d5_41) k) ?_
    refine Go.retB X4 hlk hx (t := .boolean) hret (by simp) (hb hby d5_42) e4 ?_ (by decide) (by decide)
    show (some (.int (0 : Int32)) : Option Value) = some (.int (ueI_N0 i1 i2)) ∧ _
    exact ⟨by rw [ueI_N0, if_neg cd5], N0, rfl⟩
def ueI_N1 (i1 : Int32) (i2 : Int32) (y0 : Int32) : Int32 := (if i1 = i2 then (if (obI_N1 y0) = (0 : Int32) then (0 : Int32) else (1 : Int32)) else (0 : Int32))
set_option maxRecDepth 65536 in
set_option maxHeartbeats 40000000 in
theorem ue_N1 (l : Launch) (Z : State) (a0 : Array Value) (hw : ∀ d ∈ tables_1, d.before a0 Z = true) (ws : List Jvm.Cond) (a1 : Addr) (a2 : Addr) (i1 : Int32) (i2 : Int32) (s2 : Addr) (t2 : Addr) (k2 : ClassId) (y0 : Int32) (i_COMPACT_STRINGS : Int32) (v_SIOOBE_FORMATTER : Value) (h0 : Heap) (n0 : Nat) (O0 : Old Z n0 h0) (E_a1 : Exa Z h0 a1 "com/example/wirecall/wirecall/demo/User") (F_a1_userId : Fld Z h0 a1 "com/example/wirecall/wirecall/demo/User" "userId" "I" (.int i1)) (F_a1_userName : Fld Z h0 a1 "com/example/wirecall/wirecall/demo/User" "userName" "Ljava/lang/String;" .null) (E_a2 : Exa Z h0 a2 "com/example/wirecall/wirecall/demo/User") (F_a2_userId : Fld Z h0 a2 "com/example/wirecall/wirecall/demo/User" "userId" "I" (.int i2)) (F_a2_userName : Fld Z h0 a2 "com/example/wirecall/wirecall/demo/User" "userName" "Ljava/lang/String;" (.ref s2)) (E_s2 : Exa Z h0 s2 "java/lang/String") (F_s2_coder : Fld Z h0 s2 "java/lang/String" "coder" "B" (.int 0)) (F_s2_value : Fld Z h0 s2 "java/lang/String" "value" "[B" (.ref t2)) (V_t2 : Arv Z h0 t2 k2 .byte (1 : Int32) [(.int y0)] (.int 0)) (WW : World1 Z i_COMPACT_STRINGS v_SIOOBE_FORMATTER) :
    Con l Z (⟨"com/example/wirecall/wirecall/demo/User", "equals", "(Ljava/lang/Object;)Z"⟩ : MethodName) prog_20_method_5_code 3 (some .boolean) ws ({ frames := 3, cells := 0, slots := 0, locals := 41 } : Room) #[(.ref a1), (.ref a2)] h0 (fun v h L => v = some (.int (ueI_N1 i1 i2 y0)) ∧ Fr n0 L ∧ h = h0) := by
  refine own_body (plainFor_of_name pn_com_example_wirecall_wirecall_demo_User) ?_
  intro p e s m below meth c s₁ hx hby hml hZ hown hnm hlk hret X0 e0
  have N0 := Fr.nil n0
  refine Go.st (T' := s₁) (f' := (mkF m 0 #[rv a1, rv a2, .unset] [])) (fun _ k => castTop (by first | (simp [entryFrame, mkF, argsToLocals, Value.category]; done) | rfl) k) ?_
  have ⟨S_i_COMPACT_STRINGS, nz_i_COMPACT_STRINGS, S_v_SIOOBE_FORMATTER, r_v_SIOOBE_FORMATTER⟩ := WW
  have lt_a1 := E_a1.lt
  have lt_a2 := E_a2.lt
  have lt_s2 := E_s2.lt
  have lt_t2 := V_t2.lt
  refine Go.st (f' := (mkF m 1 #[rv a1, rv a2, .unset] [(.ref a2)])) (fun _ k => XS.aloadN X0.here hx rfl (hb hby d5_0) rfl rfl k) ?_
  obtain ⟨T1, X1, e1, st1⟩ := instY X0 hx hZ hown (hw _ (List.mem_of_getElem? (i := 25) rfl)) e0 (Ins.self E_a2) (g := (mkF m 1 #[rv a1, rv a2, .unset] [(.ref a2)])) rfl rfl (hb hby d5_1)
  refine Go.st (f' := (mkF m 4 #[rv a1, rv a2, .unset] [(.int 1)])) (fun _ k => st1 _ k) ?_
  refine Go.st (f' := (mkF m 7 #[rv a1, rv a2, .unset] [])) (fun _ k => XS.ifNo X1.here hx rfl (hb hby d5_4) rfl (by decide) k) ?_
  refine Go.st (f' := (mkF m 8 #[rv a1, rv a2, .unset] [(.ref a2)])) (fun _ k => XS.aloadN X1.here hx rfl (hb hby d5_7) rfl rfl k) ?_
  obtain ⟨T2, X2, e2, st2⟩ := castY X1 hx hZ hown (hw _ (List.mem_of_getElem? (i := 25) rfl)) e1 (Ins.self E_a2) (g := (mkF m 8 #[rv a1, rv a2, .unset] [(.ref a2)])) rfl rfl (hb hby d5_8)
  refine Go.st (f' := (mkF m 11 #[rv a1, rv a2, .unset] [(.ref a2)])) (fun _ k => st2 _ k) ?_
  refine Go.st (f' := (mkF m 12 #[rv a1, rv a2, rv a2] [])) (fun _ k => XS.astoreN X2.here hx rfl (hb hby d5_11) rfl rfl (l' := #[rv a1, rv a2, rv a2]) rfl k) ?_
  refine Go.st (f' := (mkF m 13 #[rv a1, rv a2, rv a2] [(.ref a1)])) (fun _ k => XS.aloadN X2.here hx rfl (hb hby d5_12) rfl rfl k) ?_
  obtain ⟨T3, X3, e3, st3⟩ := getF X2 hx hZ hown (host := "") (Or.inl (hw _ (List.mem_of_getElem? (i := 16) rfl))) Via.refl e2 F_a1_userId (g := (mkF m 13 #[rv a1, rv a2, rv a2] [(.ref a1)])) rfl rfl (hb hby d5_13)
  refine Go.st (f' := (mkF m 16 #[rv a1, rv a2, rv a2] [(.int i1)])) (fun _ k => st3 _ k) ?_
  refine Go.st (f' := (mkF m 17 #[rv a1, rv a2, rv a2] [(.ref a2), (.int i1)])) (fun _ k => XS.aloadN X3.here hx rfl (hb hby d5_16) rfl rfl k) ?_
  obtain ⟨T4, X4, e4, st4⟩ := getF X3 hx hZ hown (host := "") (Or.inl (hw _ (List.mem_of_getElem? (i := 16) rfl))) Via.refl e3 F_a2_userId (g := (mkF m 17 #[rv a1, rv a2, rv a2] [(.ref a2), (.int i1)])) rfl rfl (hb hby d5_17)
  refine Go.st (f' := (mkF m 20 #[rv a1, rv a2, rv a2] [(.int i2), (.int i1)])) (fun _ k => st4 _ k) ?_
  by_cases cd5 : i1 = i2
  · refine Go.st (f' := (mkF m 23 #[rv a1, rv a2, rv a2] [])) (fun _ k => XS.icmpNo X4.here hx rfl (hb hby d5_20) rfl (teq cd5).2 k) ?_
    refine Go.st (f' := (mkF m 24 #[rv a1, rv a2, rv a2] [(.ref a1)])) (fun _ k => XS.aloadN X4.here hx rfl (hb hby d5_23) rfl rfl k) ?_
    obtain ⟨T6, X6, e6, st6⟩ := getF X4 hx hZ hown (host := "") (Or.inl (hw _ (List.mem_of_getElem? (i := 18) rfl))) Via.refl e4 F_a1_userName (g := (mkF m 24 #[rv a1, rv a2, rv a2] [(.ref a1)])) rfl rfl (hb hby d5_24)
    refine Go.st (f' := (mkF m 27 #[rv a1, rv a2, rv a2] [.null])) (fun _ k => st6 _ k) ?_
    refine Go.st (f' := (mkF m 28 #[rv a1, rv a2, rv a2] [(.ref a2), .null])) (fun _ k => XS.aloadN X6.here hx rfl (hb hby d5_27) rfl rfl k) ?_
    obtain ⟨T7, X7, e7, st7⟩ := getF X6 hx hZ hown (host := "") (Or.inl (hw _ (List.mem_of_getElem? (i := 18) rfl))) Via.refl e6 F_a2_userName (g := (mkF m 28 #[rv a1, rv a2, rv a2] [(.ref a2), .null])) rfl rfl (hb hby d5_28)
    refine Go.st (f' := (mkF m 31 #[rv a1, rv a2, rv a2] [(.ref s2), .null])) (fun _ k => st7 _ k) ?_
    obtain ⟨_, _, ⟨T8, L8, kk8, nn8⟩, -, X8, ⟨Lc8, hQ8, lq8, yq8, zz8⟩, st8⟩ := Jvm.LawKit.callS X7 hx (y := (⟨"java/util/Objects", "equals", "(Ljava/lang/Object;Ljava/lang/Object;)Z"⟩ : MethodName)) hown (mvT hZ (hw _ (List.mem_of_getElem? (i := 27) rfl))) (mvT hZ (hw _ (List.mem_of_getElem? (i := 28) rfl))) (mvT hZ (hw _ (List.mem_of_getElem? (i := 29) rfl))) (mvT hZ (hw _ (List.mem_of_getElem? (i := 30) rfl))) (by decide) (own_back (W := 0) (ob_N1 l Z a0 hw []  s2 t2 k2 y0 i_COMPACT_STRINGS v_SIOOBE_FORMATTER h0 n0 O0   E_s2 F_s2_coder F_s2_value V_t2 WW) hZ (hw _ (List.mem_of_getElem? (i := 30) rfl)) (hw _ (List.mem_of_getElem? (i := 29) rfl)) (by decide) (by decide)) (g := (mkF m 31 #[rv a1, rv a2, rv a2] [(.ref s2), .null])) rfl (by rw [hml]; rfl) (argsL := [.null, (.ref s2)]) (rest := []) (lenOf pd__Ljava_lang_Object_Ljava_lang_Object__Z rfl) rfl (by show 2 * 0 + _ ≤ _; exact Nat.le_of_eq rfl) (hb hby d5_31) (fun _ _ => ⟨rfl, e7, (by decide : 0 + 0 ≤ _), (by decide : 0 + 0 ≤ _)⟩)
    dsimp only [Pt.U, Pt.locs, Pt.cells, Pt.slots] at X8 lq8 yq8 zz8 st8 hQ8
    subst lq8 yq8 zz8
    obtain ⟨rfl, Nq8, kq8⟩ := hQ8
    have N8 := Fr.app N0 Nq8
    refine Go.st (f' := (mkF m 34 #[rv a1, rv a2, rv a2] [(.int (obI_N1 y0))])) (fun _ k => st8 _ k) ?_
    by_cases cd9 : (obI_N1 y0) = (0 : Int32)
    · refine Go.st (f' := (mkF m 41 #[rv a1, rv a2, rv a2] [])) (fun _ k => XS.ifYes X8.here hx rfl (pc0 := 34) (pc' := 41) rfl (hb hby d5_34) rfl ((if0 _ _).trans (teq cd9).1) (by decide) (by decide) k) ?_
      refine Go.st (f' := (mkF m 42 #[rv a1, rv a2, rv a2] [(.int 0)])) (fun _ k => XS.iconst X8.here hx rfl (hb hby d5_41) k) ?_
      refine Go.retB X8 hlk hx (t := .boolean) hret (by simp) (hb hby d5_42) kq8 ?_ (by decide) (by decide)
      show (some (.int (0 : Int32)) : Option Value) = some (.int (ueI_N1 i1 i2 y0)) ∧ _
      exact ⟨by rw [ueI_N1, if_pos cd5, if_pos cd9], N8, rfl⟩
    · refine Go.st (f' := (mkF m 37 #[rv a1, rv a2, rv a2] [])) (fun _ k => XS.ifNo X8.here hx rfl (hb hby d5_34) rfl ((if0 _ _).trans (feq cd9).1) k) ?_
      refine Go.st (f' := (mkF m 38 #[rv a1, rv a2, rv a2] [(.int 1)])) (fun _ k => XS.iconst X8.here hx rfl (hb hby d5_37) k) ?_
      refine Go.st (f' := (mkF m 42 #[rv a1, rv a2, rv a2] [(.int 1)])) (fun _ k => XS.goto X8.here hx rfl (pc0 := 38) (pc' := 42) rfl (hb hby d5_38) (by decide) (by decide) k) ?_
      refine Go.retB X8 hlk hx (t := .boolean) hret (by simp) (hb hby d5_42) kq8 ?_ (by decide) (by decide)
      show (some (.int (1 : Int32)) : Option Value) = some (.int (ueI_N1 i1 i2 y0)) ∧ _
      exact ⟨by rw [ueI_N1, if_pos cd5, if_neg cd9], N8, rfl⟩
  · refine Go.st (f' := (mkF m 41 #[rv a1, rv a2, rv a2] [])) (fun _ k => XS.icmpYes X4.here hx rfl (pc0 := 20) (pc' := 41) rfl (hb hby d5_20) rfl (feq cd5).2 (by decide) (by decide) k) ?_
    refine Go.st (f' := (mkF m 42 #[rv a1, rv a2, rv a2] [(.int 0)])) (fun _ k => XS.iconst X4.here hx rfl (hb hby d5_41) k) ?_
    refine Go.retB X4 hlk hx (t := .boolean) hret (by simp) (hb hby d5_42) e4 ?_ (by decide) (by decide)
    show (some (.int (0 : Int32)) : Option Value) = some (.int (ueI_N1 i1 i2 y0)) ∧ _
    exact ⟨by rw [ueI_N1, if_neg cd5], N0, rfl⟩
def ueI_N2 (i1 : Int32) (i2 : Int32) (y0 : Int32) (y1 : Int32) : Int32 := (if i1 = i2 then (if (obI_N2 y0 y1) = (0 : Int32) then (0 : Int32) else (1 : Int32)) else (0 : Int32))
set_option maxRecDepth 65536 in
set_option maxHeartbeats 40000000 in
theorem ue_N2 (l : Launch) (Z : State) (a0 : Array Value) (hw : ∀ d ∈ tables_1, d.before a0 Z = true) (ws : List Jvm.Cond) (a1 : Addr) (a2 : Addr) (i1 : Int32) (i2 : Int32) (s2 : Addr) (t2 : Addr) (k2 : ClassId) (y0 : Int32) (y1 : Int32) (i_COMPACT_STRINGS : Int32) (v_SIOOBE_FORMATTER : Value) (h0 : Heap) (n0 : Nat) (O0 : Old Z n0 h0) (E_a1 : Exa Z h0 a1 "com/example/wirecall/wirecall/demo/User") (F_a1_userId : Fld Z h0 a1 "com/example/wirecall/wirecall/demo/User" "userId" "I" (.int i1)) (F_a1_userName : Fld Z h0 a1 "com/example/wirecall/wirecall/demo/User" "userName" "Ljava/lang/String;" .null) (E_a2 : Exa Z h0 a2 "com/example/wirecall/wirecall/demo/User") (F_a2_userId : Fld Z h0 a2 "com/example/wirecall/wirecall/demo/User" "userId" "I" (.int i2)) (F_a2_userName : Fld Z h0 a2 "com/example/wirecall/wirecall/demo/User" "userName" "Ljava/lang/String;" (.ref s2)) (E_s2 : Exa Z h0 s2 "java/lang/String") (F_s2_coder : Fld Z h0 s2 "java/lang/String" "coder" "B" (.int 0)) (F_s2_value : Fld Z h0 s2 "java/lang/String" "value" "[B" (.ref t2)) (V_t2 : Arv Z h0 t2 k2 .byte (2 : Int32) [(.int y0), (.int y1)] (.int 0)) (WW : World1 Z i_COMPACT_STRINGS v_SIOOBE_FORMATTER) :
    Con l Z (⟨"com/example/wirecall/wirecall/demo/User", "equals", "(Ljava/lang/Object;)Z"⟩ : MethodName) prog_20_method_5_code 3 (some .boolean) ws ({ frames := 3, cells := 0, slots := 0, locals := 41 } : Room) #[(.ref a1), (.ref a2)] h0 (fun v h L => v = some (.int (ueI_N2 i1 i2 y0 y1)) ∧ Fr n0 L ∧ h = h0) := by
  refine own_body (plainFor_of_name pn_com_example_wirecall_wirecall_demo_User) ?_
  intro p e s m below meth c s₁ hx hby hml hZ hown hnm hlk hret X0 e0
  have N0 := Fr.nil n0
  refine Go.st (T' := s₁) (f' := (mkF m 0 #[rv a1, rv a2, .unset] [])) (fun _ k => castTop (by first | (simp [entryFrame, mkF, argsToLocals, Value.category]; done) | rfl) k) ?_
  have ⟨S_i_COMPACT_STRINGS, nz_i_COMPACT_STRINGS, S_v_SIOOBE_FORMATTER, r_v_SIOOBE_FORMATTER⟩ := WW
  have lt_a1 := E_a1.lt
  have lt_a2 := E_a2.lt
  have lt_s2 := E_s2.lt
  have lt_t2 := V_t2.lt
  refine Go.st (f' := (mkF m 1 #[rv a1, rv a2, .unset] [(.ref a2)])) (fun _ k => XS.aloadN X0.here hx rfl (hb hby d5_0) rfl rfl k) ?_
  obtain ⟨T1, X1, e1, st1⟩ := instY X0 hx hZ hown (hw _ (List.mem_of_getElem? (i := 25) rfl)) e0 (Ins.self E_a2) (g := (mkF m 1 #[rv a1, rv a2, .unset] [(.ref a2)])) rfl rfl (hb hby d5_1)
  refine Go.st (f' := (mkF m 4 #[rv a1, rv a2, .unset] [(.int 1)])) (fun _ k => st1 _ k) ?_
  refine Go.st (f' := (mkF m 7 #[rv a1, rv a2, .unset] [])) (fun _ k => XS.ifNo X1.here hx rfl (hb hby d5_4) rfl (by decide) k) ?_
  refine Go.st (f' := (mkF m 8 #[rv a1, rv a2, .unset] [(.ref a2)])) (fun _ k => XS.aloadN X1.here hx rfl (hb hby d5_7) rfl rfl k) ?_
  obtain ⟨T2, X2, e2, st2⟩ := castY X1 hx hZ hown (hw _ (List.mem_of_getElem? (i := 25) rfl)) e1 (Ins.self E_a2) (g := (mkF m 8 #[rv a1, rv a2, .unset] [(.ref a2)])) rfl rfl (hb hby d5_8)
  refine Go.st (f' := (mkF m 11 #[rv a1, rv a2, .unset] [(.ref a2)])) (fun _ k => st2 _ k) ?_
  refine Go.st (f' := (mkF m 12 #[rv a1, rv a2, rv a2] [])) (fun _ k => XS.astoreN X2.here hx rfl (hb hby d5_11) rfl rfl (l' := #[rv a1, rv a2, rv a2]) rfl k) ?_
  refine Go.st (f' := (mkF m 13 #[rv a1, rv a2, rv a2] [(.ref a1)])) (fun _ k => XS.aloadN X2.here hx rfl (hb hby d5_12) rfl rfl k) ?_
  obtain ⟨T3, X3, e3, st3⟩ := getF X2 hx hZ hown (host := "") (Or.inl (hw _ (List.mem_of_getElem? (i := 16) rfl))) Via.refl e2 F_a1_userId (g := (mkF m 13 #[rv a1, rv a2, rv a2] [(.ref a1)])) rfl rfl (hb hby d5_13)
  refine Go.st (f' := (mkF m 16 #[rv a1, rv a2, rv a2] [(.int i1)])) (fun _ k => st3 _ k) ?_
  refine Go.st (f' := (mkF m 17 #[rv a1, rv a2, rv a2] [(.ref a2), (.int i1)])) (fun _ k => XS.aloadN X3.here hx rfl (hb hby d5_16) rfl rfl k) ?_
  obtain ⟨T4, X4, e4, st4⟩ := getF X3 hx hZ hown (host := "") (Or.inl (hw _ (List.mem_of_getElem? (i := 16) rfl))) Via.refl e3 F_a2_userId (g := (mkF m 17 #[rv a1, rv a2, rv a2] [(.ref a2), (.int i1)])) rfl rfl (hb hby d5_17)
  refine Go.st (f' := (mkF m 20 #[rv a1, rv a2, rv a2] [(.int i2), (.int i1)])) (fun _ k => st4 _ k) ?_
  by_cases cd5 : i1 = i2
  · refine Go.st (f' := (mkF m 23 #[rv a1, rv a2, rv a2] [])) (fun _ k => XS.icmpNo X4.here hx rfl (hb hby d5_20) rfl (teq cd5).2 k) ?_
    refine Go.st (f' := (mkF m 24 #[rv a1, rv a2, rv a2] [(.ref a1)])) (fun _ k => XS.aloadN X4.here hx rfl (hb hby d5_23) rfl rfl k) ?_
    obtain ⟨T6, X6, e6, st6⟩ := getF X4 hx hZ hown (host := "") (Or.inl (hw _ (List.mem_of_getElem? (i := 18) rfl))) Via.refl e4 F_a1_userName (g := (mkF m 24 #[rv a1, rv a2, rv a2] [(.ref a1)])) rfl rfl (hb hby d5_24)
    refine Go.st (f' := (mkF m 27 #[rv a1, rv a2, rv a2] [.null])) (fun _ k => st6 _ k) ?_
    refine Go.st (f' := (mkF m 28 #[rv a1, rv a2, rv a2] [(.ref a2), .null])) (fun _ k => XS.aloadN X6.here hx rfl (hb hby d5_27) rfl rfl k) ?_
    obtain ⟨T7, X7, e7, st7⟩ := getF X6 hx hZ hown (host := "") (Or.inl (hw _ (List.mem_of_getElem? (i := 18) rfl))) Via.refl e6 F_a2_userName (g := (mkF m 28 #[rv a1, rv a2, rv a2] [(.ref a2), .null])) rfl rfl (hb hby d5_28)
    refine Go.st (f' := (mkF m 31 #[rv a1, rv a2, rv a2] [(.ref s2), .null])) (fun _ k => st7 _ k) ?_
    obtain ⟨_, _, ⟨T8, L8, kk8, nn8⟩, -, X8, ⟨Lc8, hQ8, lq8, yq8, zz8⟩, st8⟩ := Jvm.LawKit.callS X7 hx (y := (⟨"java/util/Objects", "equals", "(Ljava/lang/Object;Ljava/lang/Object;)Z"⟩ : MethodName)) hown (mvT hZ (hw _ (List.mem_of_getElem? (i := 27) rfl))) (mvT hZ (hw _ (List.mem_of_getElem? (i := 28) rfl))) (mvT hZ (hw _ (List.mem_of_getElem? (i := 29) rfl))) (mvT hZ (hw _ (List.mem_of_getElem? (i := 30) rfl))) (by decide) (own_back (W := 0) (ob_N2 l Z a0 hw []  s2 t2 k2 y0 y1 i_COMPACT_STRINGS v_SIOOBE_FORMATTER h0 n0 O0   E_s2 F_s2_coder F_s2_value V_t2 WW) hZ (hw _ (List.mem_of_getElem? (i := 30) rfl)) (hw _ (List.mem_of_getElem? (i := 29) rfl)) (by decide) (by decide)) (g := (mkF m 31 #[rv a1, rv a2, rv a2] [(.ref s2), .null])) rfl (by rw [hml]; rfl) (argsL := [.null, (.ref s2)]) (rest := []) (lenOf pd__Ljava_lang_Object_Ljava_lang_Object__Z rfl) rfl (by show 2 * 0 + _ ≤ _; exact Nat.le_of_eq rfl) (hb hby d5_31) (fun _ _ => ⟨rfl, e7, (by decide : 0 + 0 ≤ _), (by decide : 0 + 0 ≤ _)⟩)
    dsimp only [Pt.U, Pt.locs, Pt.cells, Pt.slots] at X8 lq8 yq8 zz8 st8 hQ8
    subst lq8 yq8 zz8
    obtain ⟨rfl, Nq8, kq8⟩ := hQ8
    have N8 := Fr.app N0 Nq8
    refine Go.st (f' := (mkF m 34 #[rv a1, rv a2, rv a2] [(.int (obI_N2 y0 y1))])) (fun _ k => st8 _ k) ?_
    by_cases cd9 : (obI_N2 y0 y1) = (0 : Int32)
    · refine Go.st (f' := (mkF m 41 #[rv a1, rv a2, rv a2] [])) (fun _ k => XS.ifYes X8.here hx rfl (pc0 := 34) (pc' := 41) rfl (hb hby d5_34) rfl ((if0 _ _).trans (teq cd9).1) (by decide) (by decide) k) ?_
      refine Go.st (f' := (mkF m 42 #[rv a1, rv a2, rv a2] [(.int 0)])) (fun _ k => XS.iconst X8.here hx rfl (hb hby d5_41) k) ?_
      refine Go.retB X8 hlk hx (t := .boolean) hret (by simp) (hb hby d5_42) kq8 ?_ (by decide) (by decide)
      show (some (.int (0 : Int32)) : Option Value) = some (.int (ueI_N2 i1 i2 y0 y1)) ∧ _
      exact ⟨by rw [ueI_N2, if_pos cd5, if_pos cd9], N8, rfl⟩
    · refine Go.st (f' := (mkF m 37 #[rv a1, rv a2, rv a2] [])) (fun _ k => XS.ifNo X8.here hx rfl (hb hby d5_34) rfl ((if0 _ _).trans (feq cd9).1) k) ?_
      refine Go.st (f' := (mkF m 38 #[rv a1, rv a2, rv a2] [(.int 1)])) (fun _ k => XS.iconst X8.here hx rfl (hb hby d5_37) k) ?_
      refine Go.st (f' := (mkF m 42 #[rv a1, rv a2, rv a2] [(.int 1)])) (fun _ k => XS.goto X8.here hx rfl (pc0 := 38) (pc' := 42) rfl (hb hby d5_38) (by decide) (by decide) k) ?_
      refine Go.retB X8 hlk hx (t := .boolean) hret (by simp) (hb hby d5_42) kq8 ?_ (by decide) (by decide)
      show (some (.int (1 : Int32)) : Option Value) = some (.int (ueI_N2 i1 i2 y0 y1)) ∧ _
      exact ⟨by rw [ueI_N2, if_pos cd5, if_neg cd9], N8, rfl⟩
  · refine Go.st (f' := (mkF m 41 #[rv a1, rv a2, rv a2] [])) (fun _ k => XS.icmpYes X4.here hx rfl (pc0 := 20) (pc' := 41) rfl (hb hby d5_20) rfl (feq cd5).2 (by decide) (by decide) k) ?_
    refine Go.st (f' := (mkF m 42 #[rv a1, rv a2, rv a2] [(.int 0)])) (fun _ k => XS.iconst X4.here hx rfl (hb hby d5_41) k) ?_
    refine Go.retB X4 hlk hx (t := .boolean) hret (by simp) (hb hby d5_42) e4 ?_ (by decide) (by decide)
    show (some (.int (0 : Int32)) : Option Value) = some (.int (ueI_N2 i1 i2 y0 y1)) ∧ _
    exact ⟨by rw [ueI_N2, if_neg cd5], N0, rfl⟩
def ueI_0N (i1 : Int32) (i2 : Int32) : Int32 := (if i1 = i2 then (if (obI_0N) = (0 : Int32) then (0 : Int32) else (1 : Int32)) else (0 : Int32))
set_option maxRecDepth 65536 in
set_option maxHeartbeats 40000000 in
theorem ue_0N (l : Launch) (Z : State) (a0 : Array Value) (hw : ∀ d ∈ tables_1, d.before a0 Z = true) (ws : List Jvm.Cond) (a1 : Addr) (a2 : Addr) (i1 : Int32) (i2 : Int32) (s1 : Addr) (t1 : Addr) (k1 : ClassId) (i_COMPACT_STRINGS : Int32) (v_SIOOBE_FORMATTER : Value) (h0 : Heap) (n0 : Nat) (O0 : Old Z n0 h0) (E_a1 : Exa Z h0 a1 "com/example/wirecall/wirecall/demo/User") (F_a1_userId : Fld Z h0 a1 "com/example/wirecall/wirecall/demo/User" "userId" "I" (.int i1)) (F_a1_userName : Fld Z h0 a1 "com/example/wirecall/wirecall/demo/User" "userName" "Ljava/lang/String;" (.ref s1)) (E_a2 : Exa Z h0 a2 "com/example/wirecall/wirecall/demo/User") (F_a2_userId : Fld Z h0 a2 "com/example/wirecall/wirecall/demo/User" "userId" "I" (.int i2)) (F_a2_userName : Fld Z h0 a2 "com/example/wirecall/wirecall/demo/User" "userName" "Ljava/lang/String;" .null) (E_s1 : Exa Z h0 s1 "java/lang/String") (F_s1_coder : Fld Z h0 s1 "java/lang/String" "coder" "B" (.int 0)) (F_s1_value : Fld Z h0 s1 "java/lang/String" "value" "[B" (.ref t1)) (V_t1 : Arv Z h0 t1 k1 .byte (0 : Int32) [] (.int 0)) (WW : World1 Z i_COMPACT_STRINGS v_SIOOBE_FORMATTER) :
    Con l Z (⟨"com/example/wirecall/wirecall/demo/User", "equals", "(Ljava/lang/Object;)Z"⟩ : MethodName) prog_20_method_5_code 3 (some .boolean) ws ({ frames := 3, cells := 0, slots := 0, locals := 41 } : Room) #[(.ref a1), (.ref a2)] h0 (fun v h L => v = some (.int (ueI_0N i1 i2)) ∧ Fr n0 L ∧ h = h0) := by
  refine own_body (plainFor_of_name pn_com_example_wirecall_wirecall_demo_User) ?_
  intro p e s m below meth c s₁ hx hby hml hZ hown hnm hlk hret X0 e0
  have N0 := Fr.nil n0
  refine Go.st (T' := s₁) (f' := (mkF m 0 #[rv a1, rv a2, .unset] [])) (fun _ k => castTop (by first | (simp [entryFrame, mkF, argsToLocals, Value.category]; done) | rfl) k) ?_
  have ⟨S_i_COMPACT_STRINGS, nz_i_COMPACT_STRINGS, S_v_SIOOBE_FORMATTER, r_v_SIOOBE_FORMATTER⟩ := WW
  have lt_a1 := E_a1.lt
  have lt_a2 := E_a2.lt
  have lt_s1 := E_s1.lt
  have lt_t1 := V_t1.lt
  refine Go.st (f' := (mkF m 1 #[rv a1, rv a2, .unset] [(.ref a2)])) (fun _ k => XS.aloadN X0.here hx rfl (hb hby d5_0) rfl rfl k) ?_
  obtain ⟨T1, X1, e1, st1⟩ := instY X0 hx hZ hown (hw _ (List.mem_of_getElem? (i := 25) rfl)) e0 (Ins.self E_a2) (g := (mkF m 1 #[rv a1, rv a2, .unset] [(.ref a2)])) rfl rfl (hb hby d5_1)
  refine Go.st (f' := (mkF m 4 #[rv a1, rv a2, .unset] [(.int 1)])) (fun _ k => st1 _ k) ?_
  refine Go.st (f' := (mkF m 7 #[rv a1, rv a2, .unset] [])) (fun _ k => XS.ifNo X1.here hx rfl (hb hby d5_4) rfl (by decide) k) ?_
  refine Go.st (f' := (mkF m 8 #[rv a1, rv a2, .unset] [(.ref a2)])) (fun _ k => XS.aloadN X1.here hx rfl (hb hby d5_7) rfl rfl k) ?_
  obtain ⟨T2, X2, e2, st2⟩ := castY X1 hx hZ hown (hw _ (List.mem_of_getElem? (i := 25) rfl)) e1 (Ins.self E_a2) (g := (mkF m 8 #[rv a1, rv a2, .unset] [(.ref a2)])) rfl rfl (hb hby d5_8)
  refine Go.st (f' := (mkF m 11 #[rv a1, rv a2, .unset] [(.ref a2)])) (fun _ k => st2 _ k) ?_
  refine Go.st (f' := (mkF m 12 #[rv a1, rv a2, rv a2] [])) (fun _ k => XS.astoreN X2.here hx rfl (hb hby d5_11) rfl rfl (l' := #[rv a1, rv a2, rv a2]) rfl k) ?_
  refine Go.st (f' := (mkF m 13 #[rv a1, rv a2, rv a2] [(.ref a1)])) (fun _ k => XS.aloadN X2.here hx rfl (hb hby d5_12) rfl rfl k) ?_
  obtain ⟨T3, X3, e3, st3⟩ := getF X2 hx hZ hown (host := "") (Or.inl (hw _ (List.mem_of_getElem? (i := 16) rfl))) Via.refl e2 F_a1_userId (g := (mkF m 13 #[rv a1, rv a2, rv a2] [(.ref a1)])) rfl rfl (hb hby d5_13)
  refine Go.st (f' := (mkF m 16 #[rv a1, rv a2, rv a2] [(.int i1)])) (fun _ k => st3 _ k) ?_
  refine Go.st (f' := (mkF m 17 #[rv a1, rv a2, rv a2] [(.ref a2), (.int i1)])) (fun _ k => XS.aloadN X3.here hx rfl (hb hby d5_16) rfl rfl k) ?_
  obtain ⟨T4, X4, e4, st4⟩ := getF X3 hx hZ hown (host := "") (Or.inl (hw _ (List.mem_of_getElem? (i := 16) rfl))) Via.refl e3 F_a2_userId (g := (mkF m 17 #[rv a1, rv a2, rv a2] [(.ref a2), (.int i1)])) rfl rfl (hb hby d5_17)
  refine Go.st (f' := (mkF m 20 #[rv a1, rv a2, rv a2] [(.int i2), (.int i1)])) (fun _ k => st4 _ k) ?_
  by_cases cd5 : i1 = i2
  · refine Go.st (f' := (mkF m 23 #[rv a1, rv a2, rv a2] [])) (fun _ k => XS.icmpNo X4.here hx rfl (hb hby d5_20) rfl (teq cd5).2 k) ?_
    refine Go.st (f' := (mkF m 24 #[rv a1, rv a2, rv a2] [(.ref a1)])) (fun _ k => XS.aloadN X4.here hx rfl (hb hby d5_23) rfl rfl k) ?_
    obtain ⟨T6, X6, e6, st6⟩ := getF X4 hx hZ hown (host := "") (Or.inl (hw _ (List.mem_of_getElem? (i := 18) rfl))) Via.refl e4 F_a1_userName (g := (mkF m 24 #[rv a1, rv a2, rv a2] [(.ref a1)])) rfl rfl (hb hby d5_24)
    refine Go.st (f' := (mkF m 27 #[rv a1, rv a2, rv a2] [(.ref s1)])) (fun _ k => st6 _ k) ?_
    refine Go.st (f' := (mkF m 28 #[rv a1, rv a2, rv a2] [(.ref a2), (.ref s1)])) (fun _ k => XS.aloadN X6.here hx rfl (hb hby d5_27) rfl rfl k) ?_
    obtain ⟨T7, X7, e7, st7⟩ := getF X6 hx hZ hown (host := "") (Or.inl (hw _ (List.mem_of_getElem? (i := 18) rfl))) Via.refl e6 F_a2_userName (g := (mkF m 28 #[rv a1, rv a2, rv a2] [(.ref a2), (.ref s1)])) rfl rfl (hb hby d5_28)
    refine Go.st (f' := (mkF m 31 #[rv a1, rv a2, rv a2] [.null, (.ref s1)])) (fun _ k => st7 _ k) ?_
    obtain ⟨_, _, ⟨T8, L8, kk8, nn8⟩, -, X8, ⟨Lc8, hQ8, lq8, yq8, zz8⟩, st8⟩ := Jvm.LawKit.callS X7 hx (y := (⟨"java/util/Objects", "equals", "(Ljava/lang/Object;Ljava/lang/Object;)Z"⟩ : MethodName)) hown (mvT hZ (hw _ (List.mem_of_getElem? (i := 27) rfl))) (mvT hZ (hw _ (List.mem_of_getElem? (i := 28) rfl))) (mvT hZ (hw _ (List.mem_of_getElem? (i := 29) rfl))) (mvT hZ (hw _ (List.mem_of_getElem? (i := 30) rfl))) (by decide) (own_back (W := 0) (ob_0N l Z a0 hw [] s1 t1 k1   i_COMPACT_STRINGS v_SIOOBE_FORMATTER h0 n0 O0  E_s1 F_s1_coder F_s1_value V_t1  WW) hZ (hw _ (List.mem_of_getElem? (i := 30) rfl)) (hw _ (List.mem_of_getElem? (i := 29) rfl)) (by decide) (by decide)) (g := (mkF m 31 #[rv a1, rv a2, rv a2] [.null, (.ref s1)])) rfl (by rw [hml]; rfl) (argsL := [(.ref s1), .null]) (rest := []) (lenOf pd__Ljava_lang_Object_Ljava_lang_Object__Z rfl) rfl (by show 2 * 0 + _ ≤ _; exact Nat.le_of_eq rfl) (hb hby d5_31) (fun _ _ => ⟨rfl, e7, (by decide : 0 + 0 ≤ _), (by decide : 0 + 0 ≤ _)⟩)
    dsimp only [Pt.U, Pt.locs, Pt.cells, Pt.slots] at X8 lq8 yq8 zz8 st8 hQ8
    subst lq8 yq8 zz8
    obtain ⟨rfl, Nq8, kq8⟩ := hQ8
    have N8 := Fr.app N0 Nq8
    refine Go.st (f' := (mkF m 34 #[rv a1, rv a2, rv a2] [(.int (obI_0N))])) (fun _ k => st8 _ k) ?_
    by_cases cd9 : (obI_0N) = (0 : Int32)
    · refine Go.st (f' := (mkF m 41 #[rv a1, rv a2, rv a2] [])) (fun _ k => XS.ifYes X8.here hx rfl (pc0 := 34) (pc' := 41) rfl (hb hby d5_34) rfl ((if0 _ _).trans (teq cd9).1) (by decide) (by decide) k) ?_
      refine Go.st (f' := (mkF m 42 #[rv a1, rv a2, rv a2] [(.int 0)])) (fun _ k => XS.iconst X8.here hx rfl (hb hby d5_41) k) ?_
      refine Go.retB X8 hlk hx (t := .boolean) hret (by simp) (hb hby d5_42) kq8 ?_ (by decide) (by decide)
      show (some (.int (0 : Int32)) : Option Value) = some (.int (ueI_0N i1 i2)) ∧ _
      exact ⟨by rw [ueI_0N, if_pos cd5, if_pos cd9], N8, rfl⟩
    · refine Go.st (f' := (mkF m 37 #[rv a1, rv a2, rv a2] [])) (fun _ k => XS.ifNo X8.here hx rfl (hb hby d5_34) rfl ((if0 _ _).trans (feq cd9).1) k) ?_
      refine Go.st (f' := (mkF m 38 #[rv a1, rv a2, rv a2] [(.int 1)])) (fun _ k => XS.iconst X8.here hx rfl (hb hby d5_37) k) ?_
      refine Go.st (f' := (mkF m 42 #[rv a1, rv a2, rv a2] [(.int 1)])) (fun _ k => XS.goto X8.here hx rfl (pc0 := 38) (pc' := 42) rfl (hb hby d5_38) (by decide) (by decide) k) ?_
      refine Go.retB X8 hlk hx (t := .boolean) hret (by simp) (hb hby d5_42) kq8 ?_ (by decide) (by decide)
      show (some (.int (1 : Int32)) : Option Value) = some (.int (ueI_0N i1 i2)) ∧ _
      exact ⟨by rw [ueI_0N, if_pos cd5, if_neg cd9], N8, rfl⟩
  · refine Go.st (f' := (mkF m 41 #[rv a1, rv a2, rv a2] [])) (fun _ k => XS.icmpYes X4.here hx rfl (pc0 := 20) (pc' := 41) rfl (hb hby d5_20) rfl (feq cd5).2 (by decide) (by decide) k) ?_
    refine Go.st (f' := (mkF m 42 #[rv a1, rv a2, rv a2] [(.int 0)])) (fun _ k => XS.iconst X4.here hx rfl (hb hby d5_41) k) ?_
    refine Go.retB X4 hlk hx (t := .boolean) hret (by simp) (hb hby d5_42) e4 ?_ (by decide) (by decide)
    show (some (.int (0 : Int32)) : Option Value) = some (.int (ueI_0N i1 i2)) ∧ _
    exact ⟨by rw [ueI_0N, if_neg cd5], N0, rfl⟩
def ueI_00 (i1 : Int32) (i2 : Int32) : Int32 := (if i1 = i2 then (if (obI_00) = (0 : Int32) then (0 : Int32) else (1 : Int32)) else (0 : Int32))
set_option maxRecDepth 65536 in
set_option maxHeartbeats 40000000 in
theorem ue_00 (l : Launch) (Z : State) (a0 : Array Value) (hw : ∀ d ∈ tables_1, d.before a0 Z = true) (ws : List Jvm.Cond) (a1 : Addr) (a2 : Addr) (i1 : Int32) (i2 : Int32) (s1 : Addr) (t1 : Addr) (k1 : ClassId) (s2 : Addr) (t2 : Addr) (k2 : ClassId) (i_COMPACT_STRINGS : Int32) (v_SIOOBE_FORMATTER : Value) (h0 : Heap) (n0 : Nat) (O0 : Old Z n0 h0) (E_a1 : Exa Z h0 a1 "com/example/wirecall/wirecall/demo/User") (F_a1_userId : Fld Z h0 a1 "com/example/wirecall/wirecall/demo/User" "userId" "I" (.int i1)) (F_a1_userName : Fld Z h0 a1 "com/example/wirecall/wirecall/demo/User" "userName" "Ljava/lang/String;" (.ref s1)) (E_a2 : Exa Z h0 a2 "com/example/wirecall/wirecall/demo/User") (F_a2_userId : Fld Z h0 a2 "com/example/wirecall/wirecall/demo/User" "userId" "I" (.int i2)) (F_a2_userName : Fld Z h0 a2 "com/example/wirecall/wirecall/demo/User" "userName" "Ljava/lang/String;" (.ref s2)) (ne12 : s1 ≠ s2) (E_s1 : Exa Z h0 s1 "java/lang/String") (F_s1_coder : Fld Z h0 s1 "java/lang/String" "coder" "B" (.int 0)) (F_s1_value : Fld Z h0 s1 "java/lang/String" "value" "[B" (.ref t1)) (V_t1 : Arv Z h0 t1 k1 .byte (0 : Int32) [] (.int 0)) (E_s2 : Exa Z h0 s2 "java/lang/String") (F_s2_coder : Fld Z h0 s2 "java/lang/String" "coder" "B" (.int 0)) (F_s2_value : Fld Z h0 s2 "java/lang/String" "value" "[B" (.ref t2)) (V_t2 : Arv Z h0 t2 k2 .byte (0 : Int32) [] (.int 0)) (WW : World1 Z i_COMPACT_STRINGS v_SIOOBE_FORMATTER) :
    Con l Z (⟨"com/example/wirecall/wirecall/demo/User", "equals", "(Ljava/lang/Object;)Z"⟩ : MethodName) prog_20_method_5_code 3 (some .boolean) ws ({ frames := 3, cells := 0, slots := 0, locals := 41 } : Room) #[(.ref a1), (.ref a2)] h0 (fun v h L => v = some (.int (ueI_00 i1 i2)) ∧ Fr n0 L ∧ h = h0) := by
  refine own_body (plainFor_of_name pn_com_example_wirecall_wirecall_demo_User) ?_
  intro p e s m below meth c s₁ hx hby hml hZ hown hnm hlk hret X0 e0
  have N0 := Fr.nil n0
  refine Go.st (T' := s₁) (f' := (mkF m 0 #[rv a1, rv a2, .unset] [])) (fun _ k => castTop (by first | (simp [entryFrame, mkF, argsToLocals, Value.category]; done) | rfl) k) ?_
  have ⟨S_i_COMPACT_STRINGS, nz_i_COMPACT_STRINGS, S_v_SIOOBE_FORMATTER, r_v_SIOOBE_FORMATTER⟩ := WW
  have lt_a1 := E_a1.lt
  have lt_a2 := E_a2.lt
  have lt_s1 := E_s1.lt
  have lt_t1 := V_t1.lt
  have lt_s2 := E_s2.lt
  have lt_t2 := V_t2.lt
  refine Go.st (f' := (mkF m 1 #[rv a1, rv a2, .unset] [(.ref a2)])) (fun _ k => XS.aloadN X0.here hx rfl (hb hby d5_0) rfl rfl k) ?_
  obtain ⟨T1, X1, e1, st1⟩ := instY X0 hx hZ hown (hw _ (List.mem_of_getElem? (i := 25) rfl)) e0 (Ins.self E_a2) (g := (mkF m 1 #[rv a1, rv a2, .unset] [(.ref a2)])) rfl rfl (hb hby d5_1)
  refine Go.st (f' := (mkF m 4 #[rv a1, rv a2, .unset] [(.int 1)])) (fun _ k => st1 _ k) ?_
  refine Go.st (f' := (mkF m 7 #[rv a1, rv a2, .unset] [])) (fun _ k => XS.ifNo X1.here hx rfl (hb hby d5_4) rfl (by decide) k) ?_
  refine Go.st (f' := (mkF m 8 #[rv a1, rv a2, .unset] [(.ref a2)])) (fun _ k => XS.aloadN X1.here hx rfl (hb hby d5_7) rfl rfl k) ?_
  obtain ⟨T2, X2, e2, st2⟩ := castY X1 hx hZ hown (hw _ (List.mem_of_getElem? (i := 25) rfl)) e1 (Ins.self E_a2) (g := (mkF m 8 #[rv a1, rv a2, .unset] [(.ref a2)])) rfl rfl (hb hby d5_8)
  refine Go.st (f' := (mkF m 11 #[rv a1, rv a2, .unset] [(.ref a2)])) (fun _ k => st2 _ k) ?_
  refine Go.st (f' := (mkF m 12 #[rv a1, rv a2, rv a2] [])) (fun _ k => XS.astoreN X2.here hx rfl (hb hby d5_11) rfl rfl (l' := #[rv a1, rv a2, rv a2]) rfl k) ?_
  refine Go.st (f' := (mkF m 13 #[rv a1, rv a2, rv a2] [(.ref a1)])) (fun _ k => XS.aloadN X2.here hx rfl (hb hby d5_12) rfl rfl k) ?_
  obtain ⟨T3, X3, e3, st3⟩ := getF X2 hx hZ hown (host := "") (Or.inl (hw _ (List.mem_of_getElem? (i := 16) rfl))) Via.refl e2 F_a1_userId (g := (mkF m 13 #[rv a1, rv a2, rv a2] [(.ref a1)])) rfl rfl (hb hby d5_13)
  refine Go.st (f' := (mkF m 16 #[rv a1, rv a2, rv a2] [(.int i1)])) (fun _ k => st3 _ k) ?_
  refine Go.st (f' := (mkF m 17 #[rv a1, rv a2, rv a2] [(.ref a2), (.int i1)])) (fun _ k => XS.aloadN X3.here hx rfl (hb hby d5_16) rfl rfl k) ?_
  obtain ⟨T4, X4, e4, st4⟩ := getF X3 hx hZ hown (host := "") (Or.inl (hw _ (List.mem_of_getElem? (i := 16) rfl))) Via.refl e3 F_a2_userId (g := (mkF m 17 #[rv a1, rv a2, rv a2] [(.ref a2), (.int i1)])) rfl rfl (hb hby d5_17)
  refine Go.st (f' := (mkF m 20 #[rv a1, rv a2, rv a2] [(.int i2), (.int i1)])) (fun _ k => st4 _ k) ?_
  by_cases cd5 : i1 = i2
  · refine Go.st (f' := (mkF m 23 #[rv a1, rv a2, rv a2] [])) (fun _ k => XS.icmpNo X4.here hx rfl (hb hby d5_20) rfl (teq cd5).2 k) ?_
    refine Go.st (f' := (mkF m 24 #[rv a1, rv a2, rv a2] [(.ref a1)])) (fun _ k => XS.aloadN X4.here hx rfl (hb hby d5_23) rfl rfl k) ?_
    obtain ⟨T6, X6, e6, st6⟩ := getF X4 hx hZ hown (host := "") (Or.inl (hw _ (List.mem_of_getElem? (i := 18) rfl))) Via.refl e4 F_a1_userName (g := (mkF m 24 #[rv a1, rv a2, rv a2] [(.ref a1)])) rfl rfl (hb hby d5_24)
    refine Go.st (f' := (mkF m 27 #[rv a1, rv a2, rv a2] [(.ref s1)])) (fun _ k => st6 _ k) ?_
    refine Go.st (f' := (mkF m 28 #[rv a1, rv a2, rv a2] [(.ref a2), (.ref s1)])) (fun _ k => XS.aloadN X6.here hx rfl (hb hby d5_27) rfl rfl k) ?_
    obtain ⟨T7, X7, e7, st7⟩ := getF X6 hx hZ hown (host := "") (Or.inl (hw _ (List.mem_of_getElem? (i := 18) rfl))) Via.refl e6 F_a2_userName (g := (mkF m 28 #[rv a1, rv a2, rv a2] [(.ref a2), (.ref s1)])) rfl rfl (hb hby d5_28)
    refine Go.st (f' := (mkF m 31 #[rv a1, rv a2, rv a2] [(.ref s2), (.ref s1)])) (fun _ k => st7 _ k) ?_
    obtain ⟨_, _, ⟨T8, L8, kk8, nn8⟩, -, X8, ⟨Lc8, hQ8, lq8, yq8, zz8⟩, st8⟩ := Jvm.LawKit.callS X7 hx (y := (⟨"java/util/Objects", "equals", "(Ljava/lang/Object;Ljava/lang/Object;)Z"⟩ : MethodName)) hown (mvT hZ (hw _ (List.mem_of_getElem? (i := 27) rfl))) (mvT hZ (hw _ (List.mem_of_getElem? (i := 28) rfl))) (mvT hZ (hw _ (List.mem_of_getElem? (i := 29) rfl))) (mvT hZ (hw _ (List.mem_of_getElem? (i := 30) rfl))) (by decide) (own_back (W := 0) (ob_00 l Z a0 hw [] s1 t1 k1  s2 t2 k2  i_COMPACT_STRINGS v_SIOOBE_FORMATTER h0 n0 O0 ne12 E_s1 F_s1_coder F_s1_value V_t1 E_s2 F_s2_coder F_s2_value V_t2 WW) hZ (hw _ (List.mem_of_getElem? (i := 30) rfl)) (hw _ (List.mem_of_getElem? (i := 29) rfl)) (by decide) (by decide)) (g := (mkF m 31 #[rv a1, rv a2, rv a2] [(.ref s2), (.ref s1)])) rfl (by rw [hml]; rfl) (argsL := [(.ref s1), (.ref s2)]) (rest := []) (lenOf pd__Ljava_lang_Object_Ljava_lang_Object__Z rfl) rfl (by show 2 * 0 + _ ≤ _; exact Nat.le_of_eq rfl) (hb hby d5_31) (fun _ _ => ⟨rfl, e7, (by decide : 0 + 0 ≤ _), (by decide : 0 + 0 ≤ _)⟩)
    dsimp only [Pt.U, Pt.locs, Pt.cells, Pt.slots] at X8 lq8 yq8 zz8 st8 hQ8
    subst lq8 yq8 zz8
    obtain ⟨rfl, Nq8, kq8⟩ := hQ8
    have N8 := Fr.app N0 Nq8
    refine Go.st (f' := (mkF m 34 #[rv a1, rv a2, rv a2] [(.int (obI_00))])) (fun _ k => st8 _ k) ?_
    by_cases cd9 : (obI_00) = (0 : Int32)
    · refine Go.st (f' := (mkF m 41 #[rv a1, rv a2, rv a2] [])) (fun _ k => XS.ifYes X8.here hx rfl (pc0 := 34) (pc' := 41) rfl (hb hby d5_34) rfl ((if0 _ _).trans (teq cd9).1) (by decide) (by decide) k) ?_
      refine Go.st (f' := (mkF m 42 #[rv a1, rv a2, rv a2] [(.int 0)])) (fun _ k => XS.iconst X8.here hx rfl (hb hby d5_41) k) ?_
      refine Go.retB X8 hlk hx (t := .boolean) hret (by simp) (hb hby d5_42) kq8 ?_ (by decide) (by decide)
      show (some (.int (0 : Int32)) : Option Value) = some (.int (ueI_00 i1 i2)) ∧ _
      exact ⟨by rw [ueI_00, if_pos cd5, if_pos cd9], N8, rfl⟩
    · refine Go.st (f' := (mkF m 37 #[rv a1, rv a2, rv a2] [])) (fun _ k => XS.ifNo X8.here hx rfl (hb hby d5_34) rfl ((if0 _ _).trans (feq cd9).1) k) ?_
      refine Go.st (f' := (mkF m 38 #[rv a1, rv a2, rv a2] [(.int 1)])) (fun _ k => XS.iconst X8.here hx rfl (hb hby d5_37) k) ?_
      refine Go.st (f' := (mkF m 42 #[rv a1, rv a2, rv a2] [(.int 1)])) (fun _ k => XS.goto X8.here hx rfl (pc0 := 38) (pc' := 42) rfl (hb hby d5_38) (by decide) (by decide) k) ?_
      refine Go.retB X8 hlk hx (t := .boolean) hret (by simp) (hb hby d5_42) kq8 ?_ (by decide) (by decide)
      show (some (.int (1 : Int32)) : Option Value) = some (.int (ueI_00 i1 i2)) ∧ _
      exact ⟨by rw [ueI_00, if_pos cd5, if_neg cd9], N8, rfl⟩
  · refine Go.st (f' := (mkF m 41 #[rv a1, rv a2, rv a2] [])) (fun _ k => XS.icmpYes X4.here hx rfl (pc0 := 20) (pc' := 41) rfl (hb hby d5_20) rfl (feq cd5).2 (by decide) (by decide) k) ?_
    refine Go.st (f' := (mkF m 42 #[rv a1, rv a2, rv a2] [(.int 0)])) (fun _ k => XS.iconst X4.here hx rfl (hb hby d5_41) k) ?_
    refine Go.retB X4 hlk hx (t := .boolean) hret (by simp) (hb hby d5_42) e4 ?_ (by decide) (by decide)
    show (some (.int (0 : Int32)) : Option Value) = some (.int (ueI_00 i1 i2)) ∧ _
    exact ⟨by rw [ueI_00, if_neg cd5], N0, rfl⟩
def ueI_01 (i1 : Int32) (i2 : Int32) (y0 : Int32) : Int32 := (if i1 = i2 then (if (obI_01 y0) = (0 : Int32) then (0 : Int32) else (1 : Int32)) else (0 : Int32))
set_option maxRecDepth 65536 in
set_option maxHeartbeats 40000000 in
theorem ue_01 (l : Launch) (Z : State) (a0 : Array Value) (hw : ∀ d ∈ tables_1, d.before a0 Z = true) (ws : List Jvm.Cond) (a1 : Addr) (a2 : Addr) (i1 : Int32) (i2 : Int32) (s1 : Addr) (t1 : Addr) (k1 : ClassId) (s2 : Addr) (t2 : Addr) (k2 : ClassId) (y0 : Int32) (i_COMPACT_STRINGS : Int32) (v_SIOOBE_FORMATTER : Value) (h0 : Heap) (n0 : Nat) (O0 : Old Z n0 h0) (E_a1 : Exa Z h0 a1 "com/example/wirecall/wirecall/demo/User") (F_a1_userId : Fld Z h0 a1 "com/example/wirecall/wirecall/demo/User" "userId" "I" (.int i1)) (F_a1_userName : Fld Z h0 a1 "com/example/wirecall/wirecall/demo/User" "userName" "Ljava/lang/String;" (.ref s1)) (E_a2 : Exa Z h0 a2 "com/example/wirecall/wirecall/demo/User") (F_a2_userId : Fld Z h0 a2 "com/example/wirecall/wirecall/demo/User" "userId" "I" (.int i2)) (F_a2_userName : Fld Z h0 a2 "com/example/wirecall/wirecall/demo/User" "userName" "Ljava/lang/String;" (.ref s2)) (ne12 : s1 ≠ s2) (E_s1 : Exa Z h0 s1 "java/lang/String") (F_s1_coder : Fld Z h0 s1 "java/lang/String" "coder" "B" (.int 0)) (F_s1_value : Fld Z h0 s1 "java/lang/String" "value" "[B" (.ref t1)) (V_t1 : Arv Z h0 t1 k1 .byte (0 : Int32) [] (.int 0)) (E_s2 : Exa Z h0 s2 "java/lang/String") (F_s2_coder : Fld Z h0 s2 "java/lang/String" "coder" "B" (.int 0)) (F_s2_value : Fld Z h0 s2 "java/lang/String" "value" "[B" (.ref t2)) (V_t2 : Arv Z h0 t2 k2 .byte (1 : Int32) [(.int y0)] (.int 0)) (WW : World1 Z i_COMPACT_STRINGS v_SIOOBE_FORMATTER) :
    Con l Z (⟨"com/example/wirecall/wirecall/demo/User", "equals", "(Ljava/lang/Object;)Z"⟩ : MethodName) prog_20_method_5_code 3 (some .boolean) ws ({ frames := 3, cells := 0, slots := 0, locals := 41 } : Room) #[(.ref a1), (.ref a2)] h0 (fun v h L => v = some (.int (ueI_01 i1 i2 y0)) ∧ Fr n0 L ∧ h = h0) := by
  refine own_body (plainFor_of_name pn_com_example_wirecall_wirecall_demo_User) ?_
  intro p e s m below meth c s₁ hx hby hml hZ hown hnm hlk hret X0 e0
  have N0 := Fr.nil n0
  refine Go.st (T' := s₁) (f' := (mkF m 0 #[rv a1, rv a2, .unset] [])) (fun _ k => castTop (by first | (simp [entryFrame, mkF, argsToLocals, Value.category]; done) | rfl) k) ?_
  have ⟨S_i_COMPACT_STRINGS, nz_i_COMPACT_STRINGS, S_v_SIOOBE_FORMATTER, r_v_SIOOBE_FORMATTER⟩ := WW
  have lt_a1 := E_a1.lt
  have lt_a2 := E_a2.lt
  have lt_s1 := E_s1.lt
  have lt_t1 := V_t1.lt
  have lt_s2 := E_s2.lt
  have lt_t2 := V_t2.lt
  refine Go.st (f' := (mkF m 1 #[rv a1, rv a2, .unset] [(.ref a2)])) (fun _ k => XS.aloadN X0.here hx rfl (hb hby d5_0) rfl rfl k) ?_
  obtain ⟨T1, X1, e1, st1⟩ := instY X0 hx hZ hown (hw _ (List.mem_of_getElem? (i := 25) rfl)) e0 (Ins.self E_a2) (g := (mkF m 1 #[rv a1, rv a2, .unset] [(.ref a2)])) rfl rfl (hb hby d5_1)
  refine Go.st (f' := (mkF m 4 #[rv a1, rv a2, .unset] [(.int 1)])) (fun _ k => st1 _ k) ?_
  refine Go.st (f' := (mkF m 7 #[rv a1, rv a2, .unset] [])) (fun _ k => XS.ifNo X1.here hx rfl (hb hby d5_4) rfl (by decide) k) ?_
  refine Go.st (f' := (mkF m 8 #[rv a1, rv a2, .unset] [(.ref a2)])) (fun _ k => XS.aloadN X1.here hx rfl (hb hby d5_7) rfl rfl k) ?_
  obtain ⟨T2, X2, e2, st2⟩ := castY X1 hx hZ hown (hw _ (List.mem_of_getElem? (i := 25) rfl)) e1 (Ins.self E_a2) (g := (mkF m 8 #[rv a1, rv a2, .unset] [(.ref a2)])) rfl rfl (hb hby d5_8)
  refine Go.st (f' := (mkF m 11 #[rv a1, rv a2, .unset] [(.ref a2)])) (fun _ k => st2 _ k) ?_
  refine Go.st (f' := (mkF m 12 #[rv a1, rv a2, rv a2] [])) (fun _ k => XS.astoreN X2.here hx rfl (hb hby d5_11) rfl rfl (l' := #[rv a1, rv a2, rv a2]) rfl k) ?_
  refine Go.st (f' := (mkF m 13 #[rv a1, rv a2, rv a2] [(.ref a1)])) (fun _ k => XS.aloadN X2.here hx rfl (hb hby d5_12) rfl rfl k) ?_
  obtain ⟨T3, X3, e3, st3⟩ := getF X2 hx hZ hown (host := "") (Or.inl (hw _ (List.mem_of_getElem? (i := 16) rfl))) Via.refl e2 F_a1_userId (g := (mkF m 13 #[rv a1, rv a2, rv a2] [(.ref a1)])) rfl rfl (hb hby d5_13)
  refine Go.st (f' := (mkF m 16 #[rv a1, rv a2, rv a2] [(.int i1)])) (fun _ k => st3 _ k) ?_
  refine Go.st (f' := (mkF m 17 #[rv a1, rv a2, rv a2] [(.ref a2), (.int i1)])) (fun _ k => XS.aloadN X3.here hx rfl (hb hby d5_16) rfl rfl k) ?_
  obtain ⟨T4, X4, e4, st4⟩ := getF X3 hx hZ hown (host := "") (Or.inl (hw _ (List.mem_of_getElem? (i := 16) rfl))) Via.refl e3 F_a2_userId (g := (mkF m 17 #[rv a1, rv a2, rv a2] [(.ref a2), (.int i1)])) rfl rfl (hb hby d5_17)
  refine Go.st (f' := (mkF m 20 #[rv a1, rv a2, rv a2] [(.int i2), (.int i1)])) (fun _ k => st4 _ k) ?_
  by_cases cd5 : i1 = i2
  · refine Go.st (f' := (mkF m 23 #[rv a1, rv a2, rv a2] [])) (fun _ k => XS.icmpNo X4.here hx rfl (hb hby d5_20) rfl (teq cd5).2 k) ?_
    refine Go.st (f' := (mkF m 24 #[rv a1, rv a2, rv a2] [(.ref a1)])) (fun _ k => XS.aloadN X4.here hx rfl (hb hby d5_23) rfl rfl k) ?_
    obtain ⟨T6, X6, e6, st6⟩ := getF X4 hx hZ hown (host := "") (Or.inl (hw _ (List.mem_of_getElem? (i := 18) rfl))) Via.refl e4 F_a1_userName (g := (mkF m 24 #[rv a1, rv a2, rv a2] [(.ref a1)])) rfl rfl (hb hby d5_24)
    refine Go.st (f' := (mkF m 27 #[rv a1, rv a2, rv a2] [(.ref s1)])) (fun _ k => st6 _ k) ?_
    refine Go.st (f' := (mkF m 28 #[rv a1, rv a2, rv a2] [(.ref a2), (.ref s1)])) (fun _ k => XS.aloadN X6.here hx rfl (hb hby d5_27) rfl rfl k) ?_
    obtain ⟨T7, X7, e7, st7⟩ := getF X6 hx hZ hown (host := "") (Or.inl (hw _ (List.mem_of_getElem? (i := 18) rfl))) Via.refl e6 F_a2_userName (g := (mkF m 28 #[rv a1, rv a2, rv a2] [(.ref a2), (.ref s1)])) rfl rfl (hb hby d5_28)
    refine Go.st (f' := (mkF m 31 #[rv a1, rv a2, rv a2] [(.ref s2), (.ref s1)])) (fun _ k => st7 _ k) ?_
    obtain ⟨_, _, ⟨T8, L8, kk8, nn8⟩, -, X8, ⟨Lc8, hQ8, lq8, yq8, zz8⟩, st8⟩ := Jvm.LawKit.callS X7 hx (y := (⟨"java/util/Objects", "equals", "(Ljava/lang/Object;Ljava/lang/Object;)Z"⟩ : MethodName)) hown (mvT hZ (hw _ (List.mem_of_getElem? (i := 27) rfl))) (mvT hZ (hw _ (List.mem_of_getElem? (i := 28) rfl))) (mvT hZ (hw _ (List.mem_of_getElem? (i := 29) rfl))) (mvT hZ (hw _ (List.mem_of_getElem? (i := 30) rfl))) (by decide) (own_back (W := 0) (ob_01 l Z a0 hw [] s1 t1 k1  s2 t2 k2 y0 i_COMPACT_STRINGS v_SIOOBE_FORMATTER h0 n0 O0 ne12 E_s1 F_s1_coder F_s1_value V_t1 E_s2 F_s2_coder F_s2_value V_t2 WW) hZ (hw _ (List.mem_of_getElem? (i := 30) rfl)) (hw _ (List.mem_of_getElem? (i := 29) rfl)) (by decide) (by decide)) (g := (mkF m 31 #[rv a1, rv a2, rv a2] [(.ref s2), (.ref s1)])) rfl (by rw [hml]; rfl) (argsL := [(.ref s1), (.ref s2)]) (rest := []) (lenOf pd__Ljava_lang_Object_Ljava_lang_Object__Z rfl) rfl (by show 2 * 0 + _ ≤ _; exact Nat.le_of_eq rfl) (hb hby d5_31) (fun _ _ => ⟨rfl, e7, (by decide : 0 + 0 ≤ _), (by decide : 0 + 0 ≤ _)⟩)
    dsimp only [Pt.U, Pt.locs, Pt.cells, Pt.slots] at X8 lq8 yq8 zz8 st8 hQ8
    subst lq8 yq8 zz8
    obtain ⟨rfl, Nq8, kq8⟩ := hQ8
    have N8 := Fr.app N0 Nq8
    refine Go.st (f' := (mkF m 34 #[rv a1, rv a2, rv a2] [(.int (obI_01 y0))])) (fun _ k => st8 _ k) ?_
    by_cases cd9 : (obI_01 y0) = (0 : Int32)
    · refine Go.st (f' := (mkF m 41 #[rv a1, rv a2, rv a2] [])) (fun _ k => XS.ifYes X8.here hx rfl (pc0 := 34) (pc' := 41) rfl (hb hby d5_34) rfl ((if0 _ _).trans (teq cd9).1) (by decide) (by decide) k) ?_
      refine Go.st (f' := (mkF m 42 #[rv a1, rv a2, rv a2] [(.int 0)])) (fun _ k => XS.iconst X8.here hx rfl (hb hby d5_41) k) ?_
      refine Go.retB X8 hlk hx (t := .boolean) hret (by simp) (hb hby d5_42) kq8 ?_ (by decide) (by decide)
      show (some (.int (0 : Int32)) : Option Value) = some (.int (ueI_01 i1 i2 y0)) ∧ _
      exact ⟨by rw [ueI_01, if_pos cd5, if_pos cd9], N8, rfl⟩
    · refine Go.st (f' := (mkF m 37 #[rv a1, rv a2, rv a2] [])) (fun _ k => XS.ifNo X8.here hx rfl (hb hby d5_34) rfl ((if0 _ _).trans (feq cd9).1) k) ?_
      refine Go.st (f' := (mkF m 38 #[rv a1, rv a2, rv a2] [(.int 1)])) (fun _ k => XS.iconst X8.here hx rfl (hb hby d5_37) k) ?_
      refine Go.st (f' := (mkF m 42 #[rv a1, rv a2, rv a2] [(.int 1)])) (fun _ k => XS.goto X8.here hx rfl (pc0 := 38) (pc' := 42) rfl (hb hby d5_38) (by decide) (by decide) k) ?_
      refine Go.retB X8 hlk hx (t := .boolean) hret (by simp) (hb hby d5_42) kq8 ?_ (by decide) (by decide)
      show (some (.int (1 : Int32)) : Option Value) = some (.int (ueI_01 i1 i2 y0)) ∧ _
      exact ⟨by rw [ueI_01, if_pos cd5, if_neg cd9], N8, rfl⟩
  · refine Go.st (f' := (mkF m 41 #[rv a1, rv a2, rv a2] [])) (fun _ k => XS.icmpYes X4.here hx rfl (pc0 := 20) (pc' := 41) rfl (hb hby d5_20) rfl (feq cd5).2 (by decide) (by decide) k) ?_
    refine Go.st (f' := (mkF m 42 #[rv a1, rv a2, rv a2] [(.int 0)])) (fun _ k => XS.iconst X4.here hx rfl (hb hby d5_41) k) ?_
    refine Go.retB X4 hlk hx (t := .boolean) hret (by simp) (hb hby d5_42) e4 ?_ (by decide) (by decide)
    show (some (.int (0 : Int32)) : Option Value) = some (.int (ueI_01 i1 i2 y0)) ∧ _
    exact ⟨by rw [ueI_01, if_neg cd5], N0, rfl⟩
def ueI_02 (i1 : Int32) (i2 : Int32) (y0 : Int32) (y1 : Int32) : Int32 := (if i1 = i2 then (if (obI_02 y0 y1) = (0 : Int32) then (0 : Int32) else (1 : Int32)) else (0 : Int32))
set_option maxRecDepth 65536 in
set_option maxHeartbeats 40000000 in
theorem ue_02 (l : Launch) (Z : State) (a0 : Array Value) (hw : ∀ d ∈ tables_1, d.before a0 Z = true) (ws : List Jvm.Cond) (a1 : Addr) (a2 : Addr) (i1 : Int32) (i2 : Int32) (s1 : Addr) (t1 : Addr) (k1 : ClassId) (s2 : Addr) (t2 : Addr) (k2 : ClassId) (y0 : Int32) (y1 : Int32) (i_COMPACT_STRINGS : Int32) (v_SIOOBE_FORMATTER : Value) (h0 : Heap) (n0 : Nat) (O0 : Old Z n0 h0) (E_a1 : Exa Z h0 a1 "com/example/wirecall/wirecall/demo/User") (F_a1_userId : Fld Z h0 a1 "com/example/wirecall/wirecall/demo/User" "userId" "I" (.int i1)) (F_a1_userName : Fld Z h0 a1 "com/example/wirecall/wirecall/demo/User" "userName" "Ljava/lang/String;" (.ref s1)) (E_a2 : Exa Z h0 a2 "com/example/wirecall/wirecall/demo/User") (F_a2_userId : Fld Z h0 a2 "com/example/wirecall/wirecall/demo/User" "userId" "I" (.int i2)) (F_a2_userName : Fld Z h0 a2 "com/example/wirecall/wirecall/demo/User" "userName" "Ljava/lang/String;" (.ref s2)) (ne12 : s1 ≠ s2) (E_s1 : Exa Z h0 s1 "java/lang/String") (F_s1_coder : Fld Z h0 s1 "java/lang/String" "coder" "B" (.int 0)) (F_s1_value : Fld Z h0 s1 "java/lang/String" "value" "[B" (.ref t1)) (V_t1 : Arv Z h0 t1 k1 .byte (0 : Int32) [] (.int 0)) (E_s2 : Exa Z h0 s2 "java/lang/String") (F_s2_coder : Fld Z h0 s2 "java/lang/String" "coder" "B" (.int 0)) (F_s2_value : Fld Z h0 s2 "java/lang/String" "value" "[B" (.ref t2)) (V_t2 : Arv Z h0 t2 k2 .byte (2 : Int32) [(.int y0), (.int y1)] (.int 0)) (WW : World1 Z i_COMPACT_STRINGS v_SIOOBE_FORMATTER) :
    Con l Z (⟨"com/example/wirecall/wirecall/demo/User", "equals", "(Ljava/lang/Object;)Z"⟩ : MethodName) prog_20_method_5_code 3 (some .boolean) ws ({ frames := 3, cells := 0, slots := 0, locals := 41 } : Room) #[(.ref a1), (.ref a2)] h0 (fun v h L => v = some (.int (ueI_02 i1 i2 y0 y1)) ∧ Fr n0 L ∧ h = h0) := by
  refine own_body (plainFor_of_name pn_com_example_wirecall_wirecall_demo_User) ?_
  intro p e s m below meth c s₁ hx hby hml hZ hown hnm hlk hret X0 e0
  have N0 := Fr.nil n0
  refine Go.st (T' := s₁) (f' := (mkF m 0 #[rv a1, rv a2, .unset] [])) (fun _ k => castTop (by first | (simp [entryFrame, mkF, argsToLocals, Value.category]; done) | rfl) k) ?_
  have ⟨S_i_COMPACT_STRINGS, nz_i_COMPACT_STRINGS, S_v_SIOOBE_FORMATTER, r_v_SIOOBE_FORMATTER⟩ := WW
  have lt_a1 := E_a1.lt
  have lt_a2 := E_a2.lt
  have lt_s1 := E_s1.lt
  have lt_t1 := V_t1.lt
  have lt_s2 := E_s2.lt
  have lt_t2 := V_t2.lt
  refine Go.st (f' := (mkF m 1 #[rv a1, rv a2, .unset] [(.ref a2)])) (fun _ k => XS.aloadN X0.here hx rfl (hb hby d5_0) rfl rfl k) ?_
  obtain ⟨T1, X1, e1, st1⟩ := instY X0 hx hZ hown (hw _ (List.mem_of_getElem? (i := 25) rfl)) e0 (Ins.self E_a2) (g := (mkF m 1 #[rv a1, rv a2, .unset] [(.ref a2)])) rfl rfl (hb hby d5_1)
  refine Go.st (f' := (mkF m 4 #[rv a1, rv a2, .unset] [(.int 1)])) (fun _ k => st1 _ k) ?_
  refine Go.st (f' := (mkF m 7 #[rv a1, rv a2, .unset] [])) (fun _ k => XS.ifNo X1.here hx rfl (hb hby d5_4) rfl (by decide) k) ?_
  refine Go.st (f' := (mkF m 8 #[rv a1, rv a2, .unset] [(.ref a2)])) (fun _ k => XS.aloadN X1.here hx rfl (hb hby d5_7) rfl rfl k) ?_
  obtain ⟨T2, X2, e2, st2⟩ := castY X1 hx hZ hown (hw _ (List.mem_of_getElem? (i := 25) rfl)) e1 (Ins.self E_a2) (g := (mkF m 8 #[rv a1, rv a2, .unset] [(.ref a2)])) rfl rfl (hb hby d5_8)
  refine Go.st (f' := (mkF m 11 #[rv a1, rv a2, .unset] [(.ref a2)])) (fun _ k => st2 _ k) ?_
  refine Go.st (f' := (mkF m 12 #[rv a1, rv a2, rv a2] [])) (fun _ k => XS.astoreN X2.here hx rfl (hb hby d5_11) rfl rfl (l' := #[rv a1, rv a2, rv a2]) rfl k) ?_
  refine Go.st (f' := (mkF m 13 #[rv a1, rv a2, rv a2] [(.ref a1)])) (fun _ k => XS.aloadN X2.here hx rfl (hb hby d5_12) rfl rfl k) ?_
  obtain ⟨T3, X3, e3, st3⟩ := getF X2 hx hZ hown (host := "") (Or.inl (hw _ (List.mem_of_getElem? (i := 16) rfl))) Via.refl e2 F_a1_userId (g := (mkF m 13 #[rv a1, rv a2, rv a2] [(.ref a1)])) rfl rfl (hb hby d5_13)
  refine Go.st (f' := (mkF m 16 #[rv a1, rv a2, rv a2] [(.int i1)])) (fun _ k => st3 _ k) ?_
  refine Go.st (f' := (mkF m 17 #[rv a1, rv a2, rv a2] [(.ref a2), (.int i1)])) (fun _ k => XS.aloadN X3.here hx rfl (hb hby d5_16) rfl rfl k) ?_
  obtain ⟨T4, X4, e4, st4⟩ := getF X3 hx hZ hown (host := "") (Or.inl (hw _ (List.mem_of_getElem? (i := 16) rfl))) Via.refl e3 F_a2_userId (g := (mkF m 17 #[rv a1, rv a2, rv a2] [(.ref a2), (.int i1)])) rfl rfl (hb hby d5_17)
  refine Go.st (f' := (mkF m 20 #[rv a1, rv a2, rv a2] [(.int i2), (.int i1)])) (fun _ k => st4 _ k) ?_
  by_cases cd5 : i1 = i2
  · refine Go.st (f' := (mkF m 23 #[rv a1, rv a2, rv a2] [])) (fun _ k => XS.icmpNo X4.here hx rfl (hb hby d5_20) rfl (teq cd5).2 k) ?_
    refine Go.st (f' := (mkF m 24 #[rv a1, rv a2, rv a2] [(.ref a1)])) (fun _ k => XS.aloadN X4.here hx rfl (hb hby d5_23) rfl rfl k) ?_
    obtain ⟨T6, X6, e6, st6⟩ := getF X4 hx hZ hown (host := "") (Or.inl (hw _ (List.mem_of_getElem? (i := 18) rfl))) Via.refl e4 F_a1_userName (g := (mkF m 24 #[rv a1, rv a2, rv a2] [(.ref a1)])) rfl rfl (hb hby d5_24)
    refine Go.st (f' := (mkF m 27 #[rv a1, rv a2, rv a2] [(.ref s1)])) (fun _ k => st6 _ k) ?_
    refine Go.st (f' := (mkF m 28 #[rv a1, rv a2, rv a2] [(.ref a2), (.ref s1)])) (fun _ k => XS.aloadN X6.here hx rfl (hb hby d5_27) rfl rfl k) ?_
    obtain ⟨T7, X7, e7, st7⟩ := getF X6 hx hZ hown (host := "") (Or.inl (hw _ (List.mem_of_getElem? (i := 18) rfl))) Via.refl e6 F_a2_userName (g := (mkF m 28 #[rv a1, rv a2, rv a2] [(.ref a2), (.ref s1)])) rfl rfl (hb hby d5_28)
    refine Go.st (f' := (mkF m 31 #[rv a1, rv a2, rv a2] [(.ref s2), (.ref s1)])) (fun _ k => st7 _ k) ?_
    obtain ⟨_, _, ⟨T8, L8, kk8, nn8⟩, -, X8, ⟨Lc8, hQ8, lq8, yq8, zz8⟩, st8⟩ := Jvm.LawKit.callS X7 hx (y := (⟨"java/util/Objects", "equals", "(Ljava/lang/Object;Ljava/lang/Object;)Z"⟩ : MethodName)) hown (mvT hZ (hw _ (List.mem_of_getElem? (i := 27) rfl))) (mvT hZ (hw _ (List.mem_of_getElem? (i := 28) rfl))) (mvT hZ (hw _ (List.mem_of_getElem? (i := 29) rfl))) (mvT hZ (hw _ (List.mem_of_getElem? (i := 30) rfl))) (by decide) (own_back (W := 0) (ob_02 l Z a0 hw [] s1 t1 k1  s2 t2 k2 y0 y1 i_COMPACT_STRINGS v_SIOOBE_FORMATTER h0 n0 O0 ne12 E_s1 F_s1_coder F_s1_value V_t1 E_s2 F_s2_coder F_s2_value V_t2 WW) hZ (hw _ (List.mem_of_getElem? (i := 30) rfl)) (hw _ (List.mem_of_getElem? (i := 29) rfl)) (by decide) (by decide)) (g := (mkF m 31 #[rv a1, rv a2, rv a2] [(.ref s2), (.ref s1)])) rfl (by rw [hml]; rfl) (argsL := [(.ref s1), (.ref s2)]) (rest := []) (lenOf pd__Ljava_lang_Object_Ljava_lang_Object__Z rfl) rfl (by show 2 * 0 + _ ≤ _; exact Nat.le_of_eq rfl) (hb hby d5_31) (fun _ _ => ⟨rfl, e7, (by decide : 0 + 0 ≤ _), (by decide : 0 + 0 ≤ _)⟩)
    dsimp only [Pt.U, Pt.locs, Pt.cells, Pt.slots] at X8 lq8 yq8 zz8 st8 hQ8
    subst lq8 yq8 zz8
    obtain ⟨rfl, Nq8, kq8⟩ := hQ8
    have N8 := Fr.app N0 Nq8
    refine Go.st (f' := (mkF m 34 #[rv a1, rv a2, rv a2] [(.int (obI_02 y0 y1))])) (fun _ k => st8 _ k) ?_
    by_cases cd9 : (obI_02 y0 y1) = (0 : Int32)
    · refine Go.st (f' := (mkF m 41 #[rv a1, rv a2, rv a2] [])) (fun _ k => XS.ifYes X8.here hx rfl (pc0 := 34) (pc' := 41) rfl (hb hby d5_34) rfl ((if0 _ _).trans (teq cd9).1) (by decide) (by decide) k) ?_
      refine Go.st (f' := (mkF m 42 #[rv a1, rv a2, rv a2] [(.int 0)])) (fun _ k => XS.iconst X8.here hx rfl (hb hby d5_41) k) ?_
      refine Go.retB X8 hlk hx (t := .boolean) hret (by simp) (hb hby d5_42) kq8 ?_ (by decide) (by decide)
      show (some (.int (0 : Int32)) : Option Value) = some (.int (ueI_02 i1 i2 y0 y1)) ∧ _
      exact ⟨by rw [ueI_02, if_pos cd5, if_pos cd9], N8, rfl⟩
    · refine Go.st (f' := (mkF m 37 #[rv a1, rv a2, rv a2] [])) (fun _ k => XS.ifNo X8.here hx rfl (hb hby d5_34) rfl ((if0 _ _).trans (feq cd9).1) k) ?_
      refine Go.st (f' := (mkF m 38 #[rv a1, rv a2, rv a2] [(.int 1)])) (fun _ k => XS.iconst X8.here hx rfl (hb hby d5_37) k) ?_
      refine Go.st (f' := (mkF m 42 #[rv a1, rv a2, rv a2] [(.int 1)])) (fun _ k => XS.goto X8.here hx rfl (pc0 := 38) (pc' := 42) rfl (hb hby d5_38) (by decide) (by decide) k) ?_
      refine Go.retB X8 hlk hx (t := .boolean) hret (by simp) (hb hby d5_42) kq8 ?_ (by decide) (by decide)
      show (some (.int (1 : Int32)) : Option Value) = some (.int (ueI_02 i1 i2 y0 y1)) ∧ _
      exact ⟨by rw [ueI_02, if_pos cd5, if_neg cd9], N8, rfl⟩
  · refine Go.st (f' := (mkF m 41 #[rv a1, rv a2, rv a2] [])) (fun _ k => XS.icmpYes X4.here hx rfl (pc0 := 20) (pc' := 41) rfl (hb hby d5_20) rfl (feq cd5).2 (by decide) (by decide) k) ?_
    refine Go.st (f' := (mkF m 42 #[rv a1, rv a2, rv a2] [(.int 0)])) (fun _ k => XS.iconst X4.here hx rfl (hb hby d5_41) k) ?_
    refine Go.retB X4 hlk hx (t := .boolean) hret (by simp) (hb hby d5_42) e4 ?_ (by decide) (by decide)
    show (some (.int (0 : Int32)) : Option Value) = some (.int (ueI_02 i1 i2 y0 y1)) ∧ _
    exact ⟨by rw [ueI_02, if_neg cd5], N0, rfl⟩
def ueI_1N (i1 : Int32) (i2 : Int32) (x0 : Int32) : Int32 := (if i1 = i2 then (if (obI_1N x0) = (0 : Int32) then (0 : Int32) else (1 : Int32)) else (0 : Int32))
set_option maxRecDepth 65536 in
set_option maxHeartbeats 40000000 in
theorem ue_1N (l : Launch) (Z : State) (a0 : Array Value) (hw : ∀ d ∈ tables_1, d.before a0 Z = true) (ws : List Jvm.Cond) (a1 : Addr) (a2 : Addr) (i1 : Int32) (i2 : Int32) (s1 : Addr) (t1 : Addr) (k1 : ClassId) (x0 : Int32) (i_COMPACT_STRINGS : Int32) (v_SIOOBE_FORMATTER : Value) (h0 : Heap) (n0 : Nat) (O0 : Old Z n0 h0) (E_a1 : Exa Z h0 a1 "com/example/wirecall/wirecall/demo/User") (F_a1_userId : Fld Z h0 a1 "com/example/wirecall/wirecall/demo/User" "userId" "I" (.int i1)) (F_a1_userName : Fld Z h0 a1 "com/example/wirecall/wirecall/demo/User" "userName" "Ljava/lang/String;" (.ref s1)) (E_a2 : Exa Z h0 a2 "com/example/wirecall/wirecall/demo/User") (F_a2_userId : Fld Z h0 a2 "com/example/wirecall/wirecall/demo/User" "userId" "I" (.int i2)) (F_a2_userName : Fld Z h0 a2 "com/example/wirecall/wirecall/demo/User" "userName" "Ljava/lang/String;" .null) (E_s1 : Exa Z h0 s1 "java/lang/String") (F_s1_coder : Fld Z h0 s1 "java/lang/String" "coder" "B" (.int 0)) (F_s1_value : Fld Z h0 s1 "java/lang/String" "value" "[B" (.ref t1)) (V_t1 : Arv Z h0 t1 k1 .byte (1 : Int32) [(.int x0)] (.int 0)) (WW : World1 Z i_COMPACT_STRINGS v_SIOOBE_FORMATTER) :
    Con l Z (⟨"com/example/wirecall/wirecall/demo/User", "equals", "(Ljava/lang/Object;)Z"⟩ : MethodName) prog_20_method_5_code 3 (some .boolean) ws ({ frames := 3, cells := 0, slots := 0, locals := 41 } : Room) #[(.ref a1), (.ref a2)] h0 (fun v h L => v = some (.int (ueI_1N i1 i2 x0)) ∧ Fr n0 L ∧ h = h0) := by
  refine own_body (plainFor_of_name pn_com_example_wirecall_wirecall_demo_User) ?_
  intro p e s m below meth c s₁ hx hby hml hZ hown hnm hlk hret X0 e0
  have N0 := Fr.nil n0
  refine Go.st (T' := s₁) (f' := (mkF m 0 #[rv a1, rv a2, .unset] [])) (fun _ k => castTop (by first | (simp [entryFrame, mkF, argsToLocals, Value.category]; done) | rfl) k) ?_
  have ⟨S_i_COMPACT_STRINGS, nz_i_COMPACT_STRINGS, S_v_SIOOBE_FORMATTER, r_v_SIOOBE_FORMATTER⟩ := WW
  have lt_a1 := E_a1.lt
  have lt_a2 := E_a2.lt
  have lt_s1 := E_s1.lt
  have lt_t1 := V_t1.lt
  refine Go.st (f' := (mkF m 1 #[rv a1, rv a2, .unset] [(.ref a2)])) (fun _ k => XS.aloadN X0.here hx rfl (hb hby d5_0) rfl rfl k) ?_
  obtain ⟨T1, X1, e1, st1⟩ := instY X0 hx hZ hown (hw _ (List.mem_of_getElem? (i := 25) rfl)) e0 (Ins.self E_a2) (g := (mkF m 1 #[rv a1, rv a2, .unset] [(.ref a2)])) rfl rfl (hb hby d5_1)
  refine Go.st (f' := (mkF m 4 #[rv a1, rv a2, .unset] [(.int 1)])) (fun _ k => st1 _ k) ?_
  refine Go.st (f' := (mkF m 7 #[rv a1, rv a2, .unset] [])) (fun _ k => XS.ifNo X1.here hx rfl (hb hby d5_4) rfl (by decide) k) ?_
  refine Go.st (f' := (mkF m 8 #[rv a1, rv a2, .unset] [(.ref a2)])) (fun _ k => XS.aloadN X1.here hx rfl (hb hby d5_7) rfl rfl k) ?_
  obtain ⟨T2, X2, e2, st2⟩ := castY X1 hx hZ hown (hw _ (List.mem_of_getElem? (i := 25) rfl)) e1 (Ins.self E_a2) (g := (mkF m 8 #[rv a1, rv a2, .unset] [(.ref a2)])) rfl rfl (hb hby d5_8)
  refine Go.st (f' := (mkF m 11 #[rv a1, rv a2, .unset] [(.ref a2)])) (fun _ k => st2 _ k) ?_
  refine Go.st (f' := (mkF m 12 #[rv a1, rv a2, rv a2] [])) (fun _ k => XS.astoreN X2.here hx rfl (hb hby d5_11) rfl rfl (l' := #[rv a1, rv a2, rv a2]) rfl k) ?_
  refine Go.st (f' := (mkF m 13 #[rv a1, rv a2, rv a2] [(.ref a1)])) (fun _ k => XS.aloadN X2.here hx rfl (hb hby d5_12) rfl rfl k) ?_
  obtain ⟨T3, X3, e3, st3⟩ := getF X2 hx hZ hown (host := "") (Or.inl (hw _ (List.mem_of_getElem? (i := 16) rfl))) Via.refl e2 F_a1_userId (g := (mkF m 13 #[rv a1, rv a2, rv a2] [(.ref a1)])) rfl rfl (hb hby d5_13)
  refine Go.st (f' := (mkF m 16 #[rv a1, rv a2, rv a2] [(.int i1)])) (fun _ k => st3 _ k) ?_
  refine Go.st (f' := (mkF m 17 #[rv a1, rv a2, rv a2] [(.ref a2), (.int i1)])) (fun _ k => XS.aloadN X3.here hx rfl (hb hby d5_16) rfl rfl k) ?_
  obtain ⟨T4, X4, e4, st4⟩ := getF X3 hx hZ hown (host := "") (Or.inl (hw _ (List.mem_of_getElem? (i := 16) rfl))) Via.refl e3 F_a2_userId (g := (mkF m 17 #[rv a1, rv a2, rv a2] [(.ref a2), (.int i1)])) rfl rfl (hb hby d5_17)
  refine Go.st (f' := (mkF m 20 #[rv a1, rv a2, rv a2] [(.int i2), (.int i1)])) (fun _ k => st4 _ k) ?_
  by_cases cd5 : i1 = i2
  · refine Go.st (f' := (mkF m 23 #[rv a1, rv a2, rv a2] [])) (fun _ k => XS.icmpNo X4.here hx rfl (hb hby d5_20) rfl (teq cd5).2 k) ?_
    refine Go.st (f' := (mkF m 24 #[rv a1, rv a2, rv a2] [(.ref a1)])) (fun _ k => XS.aloadN X4.here hx rfl (hb hby d5_23) rfl rfl k) ?_
    obtain ⟨T6, X6, e6, st6⟩ := getF X4 hx hZ hown (host := "") (Or.inl (hw _ (List.mem_of_getElem? (i := 18) rfl))) Via.refl e4 F_a1_userName (g := (mkF m 24 #[rv a1, rv a2, rv a2] [(.ref a1)])) rfl rfl (hb hby d5_24)
    refine Go.st (f' := (mkF m 27 #[rv a1, rv a2, rv a2] [(.ref s1)])) (fun _ k => st6 _ k) ?_
    refine Go.st (f' := (mkF m 28 #[rv a1, rv a2, rv a2] [(.ref a2), (.ref s1)])) (fun _ k => XS.aloadN X6.here hx rfl (hb hby d5_27) rfl rfl k) ?_
    obtain ⟨T7, X7, e7, st7⟩ := getF X6 hx hZ hown (host := "") (Or.inl (hw _ (List.mem_of_getElem? (i := 18) rfl))) Via.refl e6 F_a2_userName (g := (mkF m 28 #[rv a1, rv a2, rv a2] [(.ref a2), (.ref s1)])) rfl rfl (hb hby d5_28)
    refine Go.st (f' := (mkF m 31 #[rv a1, rv a2, rv a2] [.null, (.ref s1)])) (fun _ k => st7 _ k) ?_
    obtain ⟨_, _, ⟨T8, L8, kk8, nn8⟩, -, X8, ⟨Lc8, hQ8, lq8, yq8, zz8⟩, st8⟩ := Jvm.LawKit.callS X7 hx (y := (⟨"java/util/Objects", "equals", "(Ljava/lang/Object;Ljava/lang/Object;)Z"⟩ : MethodName)) hown (mvT hZ (hw _ (List.mem_of_getElem? (i := 27) rfl))) (mvT hZ (hw _ (List.mem_of_getElem? (i := 28) rfl))) (mvT hZ (hw _ (List.mem_of_getElem? (i := 29) rfl))) (mvT hZ (hw _ (List.mem_of_getElem? (i := 30) rfl))) (by decide) (own_back (W := 0) (ob_1N l Z a0 hw [] s1 t1 k1 x0  i_COMPACT_STRINGS v_SIOOBE_FORMATTER h0 n0 O0  E_s1 F_s1_coder F_s1_value V_t1  WW) hZ (hw _ (List.mem_of_getElem? (i := 30) rfl)) (hw _ (List.mem_of_getElem? (i := 29) rfl)) (by decide) (by decide)) (g := (mkF m 31 #[rv a1, rv a2, rv a2] [.null, (.ref s1)])) rfl (by rw [hml]; rfl) (argsL := [(.ref s1), .null]) (rest := []) (lenOf pd__Ljava_lang_Object_Ljava_lang_Object__Z rfl) rfl (by show 2 * 0 + _ ≤ _; exact Nat.le_of_eq rfl) (hb hby d5_31) (fun _ _ => ⟨rfl, e7, (by decide : 0 + 0 ≤ _), (by decide : 0 + 0 ≤ _)⟩)
    dsimp only [Pt.U, Pt.locs, Pt.cells, Pt.slots] at X8 lq8 yq8 zz8 st8 hQ8
    subst lq8 yq8 zz8
    obtain ⟨rfl, Nq8, kq8⟩ := hQ8
    have N8 := Fr.app N0 Nq8
    refine Go.st (f' := (mkF m 34 #[rv a1, rv a2, rv a2] [(.int (obI_1N x0))])) (fun _ k => st8 _ k) ?_
    by_cases cd9 : (obI_1N x0) = (0 : Int32)
    · refine Go.st (f' := (mkF m 41 #[rv a1, rv a2, rv a2] [])) (fun _ k => XS.ifYes X8.here hx rfl (pc0 := 34) (pc' := 41) rfl (hb hby d5_34) rfl ((if0 _ _).trans (teq cd9).1) (by decide) (by decide) k) ?_
      refine Go.st (f' := (mkF m 42 #[rv a1, rv a2, rv a2] [(.int 0)])) (fun _ k => XS.iconst X8.here hx rfl (hb hby d5_41) k) ?_
      refine Go.retB X8 hlk hx (t := .boolean) hret (by simp) (hb hby d5_42) kq8 ?_ (by decide) (by decide)
      show (some (.int (0 : Int32)) : Option Value) = some (.int (ueI_1N i1 i2 x0)) ∧ _
      exact ⟨by rw [ueI_1N, if_pos cd5, if_pos cd9], N8, rfl⟩
    · refine Go.st (f' := (mkF m 37 #[rv a1, rv a2, rv a2] [])) (fun _ k => XS.ifNo X8.here hx rfl (hb hby d5_34) rfl ((if0 _ _).trans (feq cd9).1) k) ?_
      refine Go.st (f' := (mkF m 38 #[rv a1, rv a2, rv a2] [(.int 1)])) (fun _ k => XS.iconst X8.here hx rfl (hb hby d5_37) k) ?_
      refine Go.st (f' := (mkF m 42 #[rv a1, rv a2, rv a2] [(.int 1)])) (fun _ k => XS.goto X8.here hx rfl (pc0 := 38) (pc' := 42) rfl (hb hby d5_38) (by decide) (by decide) k) ?_
      refine Go.retB X8 hlk hx (t := .boolean) hret (by simp) (hb hby d5_42) kq8 ?_ (by decide) (by decide)
      show (some (.int (1 : Int32)) : Option Value) = some (.int (ueI_1N i1 i2 x0)) ∧ _
      exact ⟨by rw [ueI_1N, if_pos cd5, if_neg cd9], N8, rfl⟩
  · refine Go.st (f' := (mkF m 41 #[rv a1, rv a2, rv a2] [])) (fun _ k => XS.icmpYes X4.here hx rfl (pc0 := 20) (pc' := 41) rfl (hb hby d5_20) rfl (feq cd5).2 (by decide) (by decide) k) ?_
    refine Go.st (f' := (mkF m 42 #[rv a1, rv a2, rv a2] [(.int 0)])) (fun _ k => XS.iconst X4.here hx rfl (hb hby d5_41) k) ?_
    refine Go.retB X4 hlk hx (t := .boolean) hret (by simp) (hb hby d5_42) e4 ?_ (by decide) (by decide)
    show (some (.int (0 : Int32)) : Option Value) = some (.int (ueI_1N i1 i2 x0)) ∧ _
    exact ⟨by rw [ueI_1N, if_neg cd5], N0, rfl⟩
def ueI_10 (i1 : Int32) (i2 : Int32) (x0 : Int32) : Int32 := (if i1 = i2 then (if (obI_10 x0) = (0 : Int32) then (0 : Int32) else (1 : Int32)) else (0 : Int32))
set_option maxRecDepth 65536 in
set_option maxHeartbeats 40000000 in
theorem ue_10 (l : Launch) (Z : State) (a0 : Array Value) (hw : ∀ d ∈ tables_1, d.before a0 Z = true) (ws : List Jvm.Cond) (a1 : Addr) (a2 : Addr) (i1 : Int32) (i2 : Int32) (s1 : Addr) (t1 : Addr) (k1 : ClassId) (x0 : Int32) (s2 : Addr) (t2 : Addr) (k2 : ClassId) (i_COMPACT_STRINGS : Int32) (v_SIOOBE_FORMATTER : Value) (h0 : Heap) (n0 : Nat) (O0 : Old Z n0 h0) (E_a1 : Exa Z h0 a1 "com/example/wirecall/wirecall/demo/User") (F_a1_userId : Fld Z h0 a1 "com/example/wirecall/wirecall/demo/User" "userId" "I" (.int i1)) (F_a1_userName : Fld Z h0 a1 "com/example/wirecall/wirecall/demo/User" "userName" "Ljava/lang/String;" (.ref s1)) (E_a2 : Exa Z h0 a2 "com/example/wirecall/wirecall/demo/User") (F_a2_userId : Fld Z h0 a2 "com/example/wirecall/wirecall/demo/User" "userId" "I" (.int i2)) (F_a2_userName : Fld Z h0 a2 "com/example/wirecall/wirecall/demo/User" "userName" "Ljava/lang/String;" (.ref s2)) (ne12 : s1 ≠ s2) (E_s1 : Exa Z h0 s1 "java/lang/String") (F_s1_coder : Fld Z h0 s1 "java/lang/String" "coder" "B" (.int 0)) (F_s1_value : Fld Z h0 s1 "java/lang/String" "value" "[B" (.ref t1)) (V_t1 : Arv Z h0 t1 k1 .byte (1 : Int32) [(.int x0)] (.int 0)) (E_s2 : Exa Z h0 s2 "java/lang/String") (F_s2_coder : Fld Z h0 s2 "java/lang/String" "coder" "B" (.int 0)) (F_s2_value : Fld Z h0 s2 "java/lang/String" "value" "[B" (.ref t2)) (V_t2 : Arv Z h0 t2 k2 .byte (0 : Int32) [] (.int 0)) (WW : World1 Z i_COMPACT_STRINGS v_SIOOBE_FORMATTER) :
    Con l Z (⟨"com/example/wirecall/wirecall/demo/User", "equals", "(Ljava/lang/Object;)Z"⟩ : MethodName) prog_20_method_5_code 3 (some .boolean) ws ({ frames := 3, cells := 0, slots := 0, locals := 41 } : Room) #[(.ref a1), (.ref a2)] h0 (fun v h L => v = some (.int (ueI_10 i1 i2 x0)) ∧ Fr n0 L ∧ h = h0) := by
  refine own_body (plainFor_of_name pn_com_example_wirecall_wirecall_demo_User) ?_
  intro p e s m below meth c s₁ hx hby hml hZ hown hnm hlk hret X0 e0
  have N0 := Fr.nil n0
  refine Go.st (T' := s₁) (f' := (mkF m 0 #[rv a1, rv a2, .unset] [])) (fun _ k => castTop (by first | (simp [entryFrame, mkF, argsToLocals, Value.category]; done) | rfl) k) ?_
  have ⟨S_i_COMPACT_STRINGS, nz_i_COMPACT_STRINGS, S_v_SIOOBE_FORMATTER, r_v_SIOOBE_FORMATTER⟩ := WW
  have lt_a1 := E_a1.lt
  have lt_a2 := E_a2.lt
  have lt_s1 := E_s1.lt
  have lt_t1 := V_t1.lt
  have lt_s2 := E_s2.lt
  have lt_t2 := V_t2.lt
  refine Go.st (f' := (mkF m 1 #[rv a1, rv a2, .unset] [(.ref a2)])) (fun _ k => XS.aloadN X0.here hx rfl (hb hby d5_0) rfl rfl k) ?_
  obtain ⟨T1, X1, e1, st1⟩ := instY X0 hx hZ hown (hw _ (List.mem_of_getElem? (i := 25) rfl)) e0 (Ins.self E_a2) (g := (mkF m 1 #[rv a1, rv a2, .unset] [(.ref a2)])) rfl rfl (hb hby d5_1)
  refine Go.st (f' := (mkF m 4 #[rv a1, rv a2, .unset] [(.int 1)])) (fun _ k => st1 _ k) ?_
  refine Go.st (f' := (mkF m 7 #[rv a1, rv a2, .unset] [])) (fun _ k => XS.ifNo X1.here hx rfl (hb hby d5_4) rfl (by decide) k) ?_
  refine Go.st (f' := (mkF m 8 #[rv a1, rv a2, .unset] [(.ref a2)])) (fun _ k => XS.aloadN X1.here hx rfl (hb hby d5_7) rfl rfl k) ?_
  obtain ⟨T2, X2, e2, st2⟩ := castY X1 hx hZ hown (hw _ (List.mem_of_getElem? (i := 25) rfl)) e1 (Ins.self E_a2) (g := (mkF m 8 #[rv a1, rv a2, .unset] [(.ref a2)])) rfl rfl (hb hby d5_8)
  refine Go.st (f' := (mkF m 11 #[rv a1, rv a2, .unset] [(.ref a2)])) (fun _ k => st2 _ k) ?_
  refine Go.st (f' := (mkF m 12 #[rv a1, rv a2, rv a2] [])) (fun _ k => XS.astoreN X2.here hx rfl (hb hby d5_11) rfl rfl (l' := #[rv a1, rv a2, rv a2]) rfl k) ?_
  refine Go.st (f' := (mkF m 13 #[rv a1, rv a2, rv a2] [(.ref a1)])) (fun _ k => XS.aloadN X2.here hx rfl (hb hby d5_12) rfl rfl k) ?_
  obtain ⟨T3, X3, e3, st3⟩ := getF X2 hx hZ hown (host := "") (Or.inl (hw _ (List.mem_of_getElem? (i := 16) rfl))) Via.refl e2 F_a1_userId (g := (mkF m 13 #[rv a1, rv a2, rv a2] [(.ref a1)])) rfl rfl (hb hby d5_13)
  refine Go.st (f' := (mkF m 16 #[rv a1, rv a2, rv a2] [(.int i1)])) (fun _ k => st3 _ k) ?_
  refine Go.st (f' := (mkF m 17 #[rv a1, rv a2, rv a2] [(.ref a2), (.int i1)])) (fun _ k => XS.aloadN X3.here hx rfl (hb hby d5_16) rfl rfl k) ?_
  obtain ⟨T4, X4, e4, st4⟩ := getF X3 hx hZ hown (host := "") (Or.inl (hw _ (List.mem_of_getElem? (i := 16) rfl))) Via.refl e3 F_a2_userId (g := (mkF m 17 #[rv a1, rv a2, rv a2] [(.ref a2), (.int i1)])) rfl rfl (hb hby d5_17)
  refine Go.st (f' := (mkF m 20 #[rv a1, rv a2, rv a2] [(.int i2), (.int i1)])) (fun _ k => st4 _ k) ?_
  by_cases cd5 : i1 = i2
  · refine Go.st (f' := (mkF m 23 #[rv a1, rv a2, rv a2] [])) (fun _ k => XS.icmpNo X4.here hx rfl (hb hby d5_20) rfl (teq cd5).2 k) ?_
    refine Go.st (f' := (mkF m 24 #[rv a1, rv a2, rv a2] [(.ref a1)])) (fun _ k => XS.aloadN X4.here hx rfl (hb hby d5_23) rfl rfl k) ?_
    obtain ⟨T6, X6, e6, st6⟩ := getF X4 hx hZ hown (host := "") (Or.inl (hw _ (List.mem_of_getElem? (i := 18) rfl))) Via.refl e4 F_a1_userName (g := (mkF m 24 #[rv a1, rv a2, rv a2] [(.ref a1)])) rfl rfl (hb hby d5_24)
    refine Go.st (f' := (mkF m 27 #[rv a1, rv a2, rv a2] [(.ref s1)])) (fun _ k => st6 _ k) ?_
    refine Go.st (f' := (mkF m 28 #[rv a1, rv a2, rv a2] [(.ref a2), (.ref s1)])) (fun _ k => XS.aloadN X6.here hx rfl (hb hby d5_27) rfl rfl k) ?_
    obtain ⟨T7, X7, e7, st7⟩ := getF X6 hx hZ hown (host := "") (Or.inl (hw _ (List.mem_of_getElem? (i := 18) rfl))) Via.refl e6 F_a2_userName (g := (mkF m 28 #[rv a1, rv a2, rv a2] [(.ref a2), (.ref s1)])) rfl rfl (hb hby d5_28)
    refine Go.st (f' := (mkF m 31 #[rv a1, rv a2, rv a2] [(.ref s2), (.ref s1)])) (fun _ k => st7 _ k) ?_
    obtain ⟨_, _, ⟨T8, L8, kk8, nn8⟩, -, X8, ⟨Lc8, hQ8, lq8, yq8, zz8⟩, st8⟩ := Jvm.LawKit.callS X7 hx (y := (⟨"java/util/Objects", "equals", "(Ljava/lang/Object;Ljava/lang/Object;)Z"⟩ : MethodName)) hown (mvT hZ (hw _ (List.mem_of_getElem? (i := 27) rfl))) (mvT hZ (hw _ (List.mem_of_getElem? (i := 28) rfl))) (mvT hZ (hw _ (List.mem_of_getElem? (i := 29) rfl))) (mvT hZ (hw _ (List.mem_of_getElem? (i := 30) rfl))) (by decide) (own_back (W := 0) (ob_10 l Z a0 hw [] s1 t1 k1 x0 s2 t2 k2  i_COMPACT_STRINGS v_SIOOBE_FORMATTER h0 n0 O0 ne12 E_s1 F_s1_coder F_s1_value V_t1 E_s2 F_s2_coder F_s2_value V_t2 WW) hZ (hw _ (List.mem_of_getElem? (i := 30) rfl)) (hw _ (List.mem_of_getElem? (i := 29) rfl)) (by decide) (by decide)) (g := (mkF m 31 #[rv a1, rv a2, rv a2] [(.ref s2), (.ref s1)])) rfl (by rw [hml]; rfl) (argsL := [(.ref s1), (.ref s2)]) (rest := []) (lenOf pd__Ljava_lang_Object_Ljava_lang_Object__Z rfl) rfl (by show 2 * 0 + _ ≤ _; exact Nat.le_of_eq rfl) (hb hby d5_31) (fun _ _ => ⟨rfl, e7, (by decide : 0 + 0 ≤ _), (by decide : 0 + 0 ≤ _)⟩)
    dsimp only [Pt.U, Pt.locs, Pt.cells, Pt.slots] at X8 lq8 yq8 zz8 st8 hQ8
    subst lq8 yq8 zz8
    obtain ⟨rfl, Nq8, kq8⟩ := hQ8
    have N8 := Fr.app N0 Nq8
    refine Go.st (f' := (mkF m 34 #[rv a1, rv a2, rv a2] [(.int (obI_10 x0))])) (fun _ k => st8 _ k) ?_
    by_cases cd9 : (obI_10 x0) = (0 : Int32)
    · refine Go.st (f' := (mkF m 41 #[rv a1, rv a2, rv a2] [])) (fun _ k => XS.ifYes X8.here hx rfl (pc0 := 34) (pc' := 41) rfl (hb hby d5_34) rfl ((if0 _ _).trans (teq cd9).1) (by decide) (by decide) k) ?_
      refine Go.st (f' := (mkF m 42 #[rv a1, rv a2, rv a2] [(.int 0)])) (fun _ k => XS.iconst X8.here hx rfl (hb hby d5_41) k) ?_
      refine Go.retB X8 hlk hx (t := .boolean) hret (by simp) (hb hby d5_42) kq8 ?_ (by decide) (by decide)
      show (some (.int (0 : Int32)) : Option Value) = some (.int (ueI_10 i1 i2 x0)) ∧ _
      exact ⟨by rw [ueI_10, if_pos cd5, if_pos cd9], N8, rfl⟩
    · refine Go.st (f' := (mkF m 37 #[rv a1, rv a2, rv a2] [])) (fun _ k => XS.ifNo X8.here hx rfl (hb hby d5_34) rfl ((if0 _ _).trans (feq cd9).1) k) ?_
      refine Go.st (f' := (mkF m 38 #[rv a1, rv a2, rv a2] [(.int 1)])) (fun _ k => XS.iconst X8.here hx rfl (hb hby d5_37) k) ?_
      refine Go.st (f' := (mkF m 42 #[rv a1, rv a2, rv a2] [(.int 1)])) (fun _ k => XS.goto X8.here hx rfl (pc0 := 38) (pc' := 42) rfl (hb hby d5_38) (by decide) (by decide) k) ?_
      refine Go.retB X8 hlk hx (t := .boolean) hret (by simp) (hb hby d5_42) kq8 ?_ (by decide) (by decide)
      show (some (.int (1 : Int32)) : Option Value) = some (.int (ueI_10 i1 i2 x0)) ∧ _
      exact ⟨by rw [ueI_10, if_pos cd5, if_neg cd9], N8, rfl⟩
  · refine Go.st (f' := (mkF m 41 #[rv a1, rv a2, rv a2] [])) (fun _ k => XS.icmpYes X4.here hx rfl (pc0 := 20) (pc' := 41) rfl (hb hby d5_20) rfl (feq cd5).2 (by decide) (by decide) k) ?_
    refine Go.st (f' := (mkF m 42 #[rv a1, rv a2, rv a2] [(.int 0)])) (fun _ k => XS.iconst X4.here hx rfl (hb hby d5_41) k) ?_
    refine Go.retB X4 hlk hx (t := .boolean) hret (by simp) (hb hby d5_42) e4 ?_ (by decide) (by decide)
    show (some (.int (0 : Int32)) : Option Value) = some (.int (ueI_10 i1 i2 x0)) ∧ _
    exact ⟨by rw [ueI_10, if_neg cd5], N0, rfl⟩
def ueI_11 (i1 : Int32) (i2 : Int32) (x0 : Int32) (y0 : Int32) : Int32 := (if i1 = i2 then (if (obI_11 x0 y0) = (0 : Int32) then (0 : Int32) else (1 : Int32)) else (0 : Int32))
set_option maxRecDepth 65536 in
set_option maxHeartbeats 40000000 in
theorem ue_11 (l : Launch) (Z : State) (a0 : Array Value) (hw : ∀ d ∈ tables_1, d.before a0 Z = true) (ws : List Jvm.Cond) (a1 : Addr) (a2 : Addr) (i1 : Int32) (i2 : Int32) (s1 : Addr) (t1 : Addr) (k1 : ClassId) (x0 : Int32) (s2 : Addr) (t2 : Addr) (k2 : ClassId) (y0 : Int32) (i_COMPACT_STRINGS : Int32) (v_SIOOBE_FORMATTER : Value) (h0 : Heap) (n0 : Nat) (O0 : Old Z n0 h0) (E_a1 : Exa Z h0 a1 "com/example/wirecall/wirecall/demo/User") (F_a1_userId : Fld Z h0 a1 "com/example/wirecall/wirecall/demo/User" "userId" "I" (.int i1)) (F_a1_userName : Fld Z h0 a1 "com/example/wirecall/wirecall/demo/User" "userName" "Ljava/lang/String;" (.ref s1)) (E_a2 : Exa Z h0 a2 "com/example/wirecall/wirecall/demo/User") (F_a2_userId : Fld Z h0 a2 "com/example/wirecall/wirecall/demo/User" "userId" "I" (.int i2)) (F_a2_userName : Fld Z h0 a2 "com/example/wirecall/wirecall/demo/User" "userName" "Ljava/lang/String;" (.ref s2)) (ne12 : s1 ≠ s2) (E_s1 : Exa Z h0 s1 "java/lang/String") (F_s1_coder : Fld Z h0 s1 "java/lang/String" "coder" "B" (.int 0)) (F_s1_value : Fld Z h0 s1 "java/lang/String" "value" "[B" (.ref t1)) (V_t1 : Arv Z h0 t1 k1 .byte (1 : Int32) [(.int x0)] (.int 0)) (E_s2 : Exa Z h0 s2 "java/lang/String") (F_s2_coder : Fld Z h0 s2 "java/lang/String" "coder" "B" (.int 0)) (F_s2_value : Fld Z h0 s2 "java/lang/String" "value" "[B" (.ref t2)) (V_t2 : Arv Z h0 t2 k2 .byte (1 : Int32) [(.int y0)] (.int 0)) (WW : World1 Z i_COMPACT_STRINGS v_SIOOBE_FORMATTER) :
    Con l Z (⟨"com/example/wirecall/wirecall/demo/User", "equals", "(Ljava/lang/Object;)Z"⟩ : MethodName) prog_20_method_5_code 3 (some .boolean) ws ({ frames := 3, cells := 0, slots := 0, locals := 41 } : Room) #[(.ref a1), (.ref a2)] h0 (fun v h L => v = some (.int (ueI_11 i1 i2 x0 y0)) ∧ Fr n0 L ∧ h = h0) := by
  refine own_body (plainFor_of_name pn_com_example_wirecall_wirecall_demo_User) ?_
  intro p e s m below meth c s₁ hx hby hml hZ hown hnm hlk hret X0 e0
  have N0 := Fr.nil n0
  refine Go.st (T' := s₁) (f' := (mkF m 0 #[rv a1, rv a2, .unset] [])) (fun _ k => castTop (by first | (simp [entryFrame, mkF, argsToLocals, Value.category]; done) | rfl) k) ?_
  have ⟨S_i_COMPACT_STRINGS, nz_i_COMPACT_STRINGS, S_v_SIOOBE_FORMATTER, r_v_SIOOBE_FORMATTER⟩ := WW
  have lt_a1 := E_a1.lt
  have lt_a2 := E_a2.lt
  have lt_s1 := E_s1.lt
  have lt_t1 := V_t1.lt
  have lt_s2 := E_s2.lt
  have lt_t2 := V_t2.lt
  refine Go.st (f' := (mkF m 1 #[rv a1, rv a2, .unset] [(.ref a2)])) (fun _ k => XS.aloadN X0.here hx rfl (hb hby d5_0) rfl rfl k) ?_
  obtain ⟨T1, X1, e1, st1⟩ := instY X0 hx hZ hown (hw _ (List.mem_of_getElem? (i := 25) rfl)) e0 (Ins.self E_a2) (g := (mkF m 1 #[rv a1, rv a2, .unset] [(.ref a2)])) rfl rfl (hb hby d5_1)
  refine Go.st (f' := (mkF m 4 #[rv a1, rv a2, .unset] [(.int 1)])) (fun _ k => st1 _ k) ?_
  refine Go.st (f' := (mkF m 7 #[rv a1, rv a2, .unset] [])) (fun _ k => XS.ifNo X1.here hx rfl (hb hby d5_4) rfl (by decide) k) ?_
  refine Go.st (f' := (mkF m 8 #[rv a1, rv a2, .unset] [(.ref a2)])) (fun _ k => XS.aloadN X1.here hx rfl (hb hby d5_7) rfl rfl k) ?_
  obtain ⟨T2, X2, e2, st2⟩ := castY X1 hx hZ hown (hw _ (List.mem_of_getElem? (i := 25) rfl)) e1 (Ins.self E_a2) (g := (mkF m 8 #[rv a1, rv a2, .unset] [(.ref a2)])) rfl rfl (hb hby d5_8)
  refine Go.st (f' := (mkF m 11 #[rv a1, rv a2, .unset] [(.ref a2)])) (fun _ k => st2 _ k) ?_
  refine Go.st (f' := (mkF m 12 #[rv a1, rv a2, rv a2] [])) (fun _ k => XS.astoreN X2.here hx rfl (hb hby d5_11) rfl rfl (l' := #[rv a1, rv a2, rv a2]) rfl k) ?_
  refine Go.st (f' := (mkF m 13 #[rv a1, rv a2, rv a2] [(.ref a1)])) (fun _ k => XS.aloadN X2.here hx rfl (hb hby d5_12) rfl rfl k) ?_
  obtain ⟨T3, X3, e3, st3⟩ := getF X2 hx hZ hown (host := "") (Or.inl (hw _ (List.mem_of_getElem? (i := 16) rfl))) Via.refl e2 F_a1_userId (g := (mkF m 13 #[rv a1, rv a2, rv a2] [(.ref a1)])) rfl rfl (hb hby d5_13)
  refine Go.st (f' := (mkF m 16 #[rv a1, rv a2, rv a2] [(.int i1)])) (fun _ k => st3 _ k) ?_
  refine Go.st (f' := (mkF m 17 #[rv a1, rv a2, rv a2] [(.ref a2), (.int i1)])) (fun _ k => XS.aloadN X3.here hx rfl (hb hby d5_16) rfl rfl k) ?_
  obtain ⟨T4, X4, e4, st4⟩ := getF X3 hx hZ hown (host := "") (Or.inl (hw _ (List.mem_of_getElem? (i := 16) rfl))) Via.refl e3 F_a2_userId (g := (mkF m 17 #[rv a1, rv a2, rv a2] [(.ref a2), (.int i1)])) rfl rfl (hb hby d5_17)
  refine Go.st (f' := (mkF m 20 #[rv a1, rv a2, rv a2] [(.int i2), (.int i1)])) (fun _ k => st4 _ k) ?_
  by_cases cd5 : i1 = i2
  · refine Go.st (f' := (mkF m 23 #[rv a1, rv a2, rv a2] [])) (fun _ k => XS.icmpNo X4.here hx rfl (hb hby d5_20) rfl (teq cd5).2 k) ?_
    refine Go.st (f' := (mkF m 24 #[rv a1, rv a2, rv a2] [(.ref a1)])) (fun _ k => XS.aloadN X4.here hx rfl (hb hby d5_23) rfl rfl k) ?_
    obtain ⟨T6, X6, e6, st6⟩ := getF X4 hx hZ hown (host := "") (Or.inl (hw _ (List.mem_of_getElem? (i := 18) rfl))) Via.refl e4 F_a1_userName (g := (mkF m 24 #[rv a1, rv a2, rv a2] [(.ref a1)])) rfl rfl (hb hby d5_24)
    refine Go.st (f' := (mkF m 27 #[rv a1, rv a2, rv a2] [(.ref s1)])) (fun _ k => st6 _ k) ?_
    refine Go.st (f' := (mkF m 28 #[rv a1, rv a2, rv a2] [(.ref a2), (.ref s1)])) (fun _ k => XS.aloadN X6.here hx rfl (hb hby d5_27) rfl rfl k) ?_
    obtain ⟨T7, X7, e7, st7⟩ := getF X6 hx hZ hown (host := "") (Or.inl (hw _ (List.mem_of_getElem? (i := 18) rfl))) Via.refl e6 F_a2_userName (g := (mkF m 28 #[rv a1, rv a2, rv a2] [(.ref a2), (.ref s1)])) rfl rfl (hb hby d5_28)
    refine Go.st (f' := (mkF m 31 #[rv a1, rv a2, rv a2] [(.ref s2), (.ref s1)])) (fun _ k => st7 _ k) ?_
    obtain ⟨_, _, ⟨T8, L8, kk8, nn8⟩, -, X8, ⟨Lc8, hQ8, lq8, yq8, zz8⟩, st8⟩ := Jvm.LawKit.callS X7 hx (y := (⟨"java/util/Objects", "equals", "(Ljava/lang/Object;Ljava/lang/Object;)Z"⟩ : MethodName)) hown (mvT hZ (hw _ (List.mem_of_getElem? (i := 27) rfl))) (mvT hZ (hw _ (List.mem_of_getElem? (i := 28) rfl))) (mvT hZ (hw _ (List.mem_of_getElem? (i := 29) rfl))) (mvT hZ (hw _ (List.mem_of_getElem? (i := 30) rfl))) (by decide) (own_back (W := 0) (ob_11 l Z a0 hw [] s1 t1 k1 x0 s2 t2 k2 y0 i_COMPACT_STRINGS v_SIOOBE_FORMATTER h0 n0 O0 ne12 E_s1 F_s1_coder F_s1_value V_t1 E_s2 F_s2_coder F_s2_value V_t2 WW) hZ (hw _ (List.mem_of_getElem? (i := 30) rfl)) (hw _ (List.mem_of_getElem? (i := 29) rfl)) (by decide) (by decide)) (g := (mkF m 31 #[rv a1, rv a2, rv a2] [(.ref s2), (.ref s1)])) rfl (by rw [hml]; rfl) (argsL := [(.ref s1), (.ref s2)]) (rest := []) (lenOf pd__Ljava_lang_Object_Ljava_lang_Object__Z rfl) rfl (by show 2 * 0 + _ ≤ _; exact Nat.le_of_eq rfl) (hb hby d5_31) (fun _ _ => ⟨rfl, e7, (by decide : 0 + 0 ≤ _), (by decide : 0 + 0 ≤ _)⟩)
    dsimp only [Pt.U, Pt.locs, Pt.cells, Pt.slots] at X8 lq8 yq8 zz8 st8 hQ8
    subst lq8 yq8 zz8
    obtain ⟨rfl, Nq8, kq8⟩ := hQ8
    have N8 := Fr.app N0 Nq8
    refine Go.st (f' := (mkF m 34 #[rv a1, rv a2, rv a2] [(.int (obI_11 x0 y0))])) (fun _ k => st8 _ k) ?_
    by_cases cd9 : (obI_11 x0 y0) = (0 : Int32)
    · refine Go.st (f' := (mkF m 41 #[rv a1, rv a2, rv a2] [])) (fun _ k => XS.ifYes X8.here hx rfl (pc0 := 34) (pc' := 41) rfl (hb hby d5_34) rfl ((if0 _ _).trans (teq cd9).1) (by decide) (by decide) k) ?_
      refine Go.st (f' := (mkF m 42 #[rv a1, rv a2, rv a2] [(.int 0)])) (fun _ k => XS.iconst X8.here hx rfl (hb hby d5_41) k) ?_
      refine Go.retB X8 hlk hx (t := .boolean) hret (by simp) (hb hby d5_42) kq8 ?_ (by decide) (by decide)
      show (some (.int (0 : Int32)) : Option Value) = some (.int (ueI_11 i1 i2 x0 y0)) ∧ _
      exact ⟨by rw [ueI_11, if_pos cd5, if_pos cd9], N8, rfl⟩
    · refine Go.st (f' := (mkF m 37 #[rv a1, rv a2, rv a2] [])) (fun _ k => XS.ifNo X8.here hx rfl (hb hby d5_34) rfl ((if0 _ _).trans (feq cd9).1) k) ?_
      refine Go.st (f' := (mkF m 38 #[rv a1, rv a2, rv a2] [(.int 1)])) (fun _ k => XS.iconst X8.here hx rfl (hb hby d5_37) k) ?_
      refine Go.st (f' := (mkF m 42 #[rv a1, rv a2, rv a2] [(.int 1)])) (fun _ k => XS.goto X8.here hx rfl (pc0 := 38) (pc' := 42) rfl (hb hby d5_38) (by decide) (by decide) k) ?_
      refine Go.retB X8 hlk hx (t := .boolean) hret (by simp) (hb hby d5_42) kq8 ?_ (by decide) (by decide)
      show (some (.int (1 : Int32)) : Option Value) = some (.int (ueI_11 i1 i2 x0 y0)) ∧ _
      exact ⟨by rw [ueI_11, if_pos cd5, if_neg cd9], N8, rfl⟩
  · refine Go.st (f' := (mkF m 41 #[rv a1, rv a2, rv a2] [])) (fun _ k => XS.icmpYes X4.here hx rfl (pc0 := 20) (pc' := 41) rfl (hb hby d5_20) rfl (feq cd5).2 (by decide) (by decide) k) ?_
    refine Go.st (f' := (mkF m 42 #[rv a1, rv a2, rv a2] [(.int 0)])) (fun _ k => XS.iconst X4.here hx rfl (hb hby d5_41) k) ?_
    refine Go.retB X4 hlk hx (t := .boolean) hret (by simp) (hb hby d5_42) e4 ?_ (by decide) (by decide)
    show (some (.int (0 : Int32)) : Option Value) = some (.int (ueI_11 i1 i2 x0 y0)) ∧ _
    exact ⟨by rw [ueI_11, if_neg cd5], N0, rfl⟩
def ueI_12 (i1 : Int32) (i2 : Int32) (x0 : Int32) (y0 : Int32) (y1 : Int32) : Int32 := (if i1 = i2 then (if (obI_12 x0 y0 y1) = (0 : Int32) then (0 : Int32) else (1 : Int32)) else (0 : Int32))
set_option maxRecDepth 65536 in
set_option maxHeartbeats 40000000 in
theorem ue_12 (l : Launch) (Z : State) (a0 : Array Value) (hw : ∀ d ∈ tables_1, d.before a0 Z = true) (ws : List Jvm.Cond) (a1 : Addr) (a2 : Addr) (i1 : Int32) (i2 : Int32) (s1 : Addr) (t1 : Addr) (k1 : ClassId) (x0 : Int32) (s2 : Addr) (t2 : Addr) (k2 : ClassId) (y0 : Int32) (y1 : Int32) (i_COMPACT_STRINGS : Int32) (v_SIOOBE_FORMATTER : Value) (h0 : Heap) (n0 : Nat) (O0 : Old Z n0 h0) (E_a1 : Exa Z h0 a1 "com/example/wirecall/wirecall/demo/User") (F_a1_userId : Fld Z h0 a1 "com/example/wirecall/wirecall/demo/User" "userId" "I" (.int i1)) (F_a1_userName : Fld Z h0 a1 "com/example/wirecall/wirecall/demo/User" "userName" "Ljava/lang/String;" (.ref s1)) (E_a2 : Exa Z h0 a2 "com/example/wirecall/wirecall/demo/User") (F_a2_userId : Fld Z h0 a2 "com/example/wirecall/wirecall/demo/User" "userId" "I" (.int i2)) (F_a2_userName : Fld Z h0 a2 "com/example/wirecall/wirecall/demo/User" "userName" "Ljava/lang/String;" (.ref s2)) (ne12 : s1 ≠ s2) (E_s1 : Exa Z h0 s1 "java/lang/String") (F_s1_coder : Fld Z h0 s1 "java/lang/String" "coder" "B" (.int 0)) (F_s1_value : Fld Z h0 s1 "java/lang/String" "value" "[B" (.ref t1)) (V_t1 : Arv Z h0 t1 k1 .byte (1 : Int32) [(.int x0)] (.int 0)) (E_s2 : Exa Z h0 s2 "java/lang/String") (F_s2_coder : Fld Z h0 s2 "java/lang/String" "coder" "B" (.int 0)) (F_s2_value : Fld Z h0 s2 "java/lang/String" "value" "[B" (.ref t2)) (V_t2 : Arv Z h0 t2 k2 .byte (2 : Int32) [(.int y0), (.int y1)] (.int 0)) (WW : World1 Z i_COMPACT_STRINGS v_SIOOBE_FORMATTER) :
    Con l Z (⟨"com/example/wirecall/wirecall/demo/User", "equals", "(Ljava/lang/Object;)Z"⟩ : MethodName) prog_20_method_5_code 3 (some .boolean) ws ({ frames := 3, cells := 0, slots := 0, locals := 41 } : Room) #[(.ref a1), (.ref a2)] h0 (fun v h L => v = some (.int (ueI_12 i1 i2 x0 y0 y1)) ∧ Fr n0 L ∧ h = h0) := by
  refine own_body (plainFor_of_name pn_com_example_wirecall_wirecall_demo_User) ?_
  intro p e s m below meth c s₁ hx hby hml hZ hown hnm hlk hret X0 e0
  have N0 := Fr.nil n0
  refine Go.st (T' := s₁) (f' := (mkF m 0 #[rv a1, rv a2, .unset] [])) (fun _ k => castTop (by first | (simp [entryFrame, mkF, argsToLocals, Value.category]; done) | rfl) k) ?_
  have ⟨S_i_COMPACT_STRINGS, nz_i_COMPACT_STRINGS, S_v_SIOOBE_FORMATTER, r_v_SIOOBE_FORMATTER⟩ := WW
  have lt_a1 := E_a1.lt
  have lt_a2 := E_a2.lt
  have lt_s1 := E_s1.lt
  have lt_t1 := V_t1.lt
  have lt_s2 := E_s2.lt
  have lt_t2 := V_t2.lt
  refine Go.st (f' := (mkF m 1 #[rv a1, rv a2, .unset] [(.ref a2)])) (fun _ k => XS.aloadN X0.here hx rfl (hb hby d5_0) rfl rfl k) ?_
  obtain ⟨T1, X1, e1, st1⟩ := instY X0 hx hZ hown (hw _ (List.mem_of_getElem? (i := 25) rfl)) e0 (Ins.self E_a2) (g := (mkF m 1 #[rv a1, rv a2, .unset] [(.ref a2)])) rfl rfl (hb hby d5_1)
  refine Go.st (f' := (mkF m 4 #[rv a1, rv a2, .unset] [(.int 1)])) (fun _ k => st1 _ k) ?_
  refine Go.st (f' := (mkF m 7 #[rv a1, rv a2, .unset] [])) (fun _ k => XS.ifNo X1.here hx rfl (hb hby d5_4) rfl (by decide) k) ?_
  refine Go.st (f' := (mkF m 8 #[rv a1, rv a2, .unset] [(.ref a2)])) (fun _ k => XS.aloadN X1.here hx rfl (hb hby d5_7) rfl rfl k) ?_
  obtain ⟨T2, X2, e2, st2⟩ := castY X1 hx hZ hown (hw _ (List.mem_of_getElem? (i := 25) rfl)) e1 (Ins.self E_a2) (g := (mkF m 8 #[rv a1, rv a2, .unset] [(.ref a2)])) rfl rfl (hb hby d5_8)
  refine Go.st (f' := (mkF m 11 #[rv a1, rv a2, .unset] [(.ref a2)])) (fun _ k => st2 _ k) ?_
  refine Go.st (f' := (mkF m 12 #[rv a1, rv a2, rv a2] [])) (fun _ k => XS.astoreN X2.here hx rfl (hb hby d5_11) rfl rfl (l' := #[rv a1, rv a2, rv a2]) rfl k) ?_
  refine Go.st (f' := (mkF m 13 #[rv a1, rv a2, rv a2] [(.ref a1)])) (fun _ k => XS.aloadN X2.here hx rfl (hb hby d5_12) rfl rfl k) ?_
  obtain ⟨T3, X3, e3, st3⟩ := getF X2 hx hZ hown (host := "") (Or.inl (hw _ (List.mem_of_getElem? (i := 16) rfl))) Via.refl e2 F_a1_userId (g := (mkF m 13 #[rv a1, rv a2, rv a2] [(.ref a1)])) rfl rfl (hb hby d5_13)
  refine Go.st (f' := (mkF m 16 #[rv a1, rv a2, rv a2] [(.int i1)])) (fun _ k => st3 _ k) ?_
  refine Go.st (f' := (mkF m 17 #[rv a1, rv a2, rv a2] [(.ref a2), (.int i1)])) (fun _ k => XS.aloadN X3.here hx rfl (hb hby d5_16) rfl rfl k) ?_
  obtain ⟨T4, X4, e4, st4⟩ := getF X3 hx hZ hown (host := "") (Or.inl (hw _ (List.mem_of_getElem? (i := 16) rfl))) Via.refl e3 F_a2_userId (g := (mkF m 17 #[rv a1, rv a2, rv a2] [(.ref a2), (.int i1)])) rfl rfl (hb hby d5_17)
  refine Go.st (f' := (mkF m 20 #[rv a1, rv a2, rv a2] [(.int i2), (.int i1)])) (fun _ k => st4 _ k) ?_
  by_cases cd5 : i1 = i2
  · refine Go.st (f' := (mkF m 23 #[rv a1, rv a2, rv a2] [])) (fun _ k => XS.icmpNo X4.here hx rfl (hb hby d5_20) rfl (teq cd5).2 k) ?_
    refine Go.st (f' := (mkF m 24 #[rv a1, rv a2, rv a2] [(.ref a1)])) (fun _ k => XS.aloadN X4.here hx rfl (hb hby d5_23) rfl rfl k) ?_
    obtain ⟨T6, X6, e6, st6⟩ := getF X4 hx hZ hown (host := "") (Or.inl (hw _ (List.mem_of_getElem? (i := 18) rfl))) Via.refl e4 F_a1_userName (g := (mkF m 24 #[rv a1, rv a2, rv a2] [(.ref a1)])) rfl rfl (hb hby d5_24)
    refine Go.st (f' := (mkF m 27 #[rv a1, rv a2, rv a2] [(.ref s1)])) (fun _ k => st6 _ k) ?_
    refine Go.st (f' := (mkF m 28 #[rv a1, rv a2, rv a2] [(.ref a2), (.ref s1)])) (fun _ k => XS.aloadN X6.here hx rfl (hb hby d5_27) rfl rfl k) ?_
    obtain ⟨T7, X7, e7, st7⟩ := getF X6 hx hZ hown (host := "") (Or.inl (hw _ (List.mem_of_getElem? (i := 18) rfl))) Via.refl e6 F_a2_userName (g := (mkF m 28 #[rv a1, rv a2, rv a2] [(.ref a2), (.ref s1)])) rfl rfl (hb hby d5_28)
    refine Go.st (f' := (mkF m 31 #[rv a1, rv a2, rv a2] [(.ref s2), (.ref s1)])) (fun _ k => st7 _ k) ?_
    obtain ⟨_, _, ⟨T8, L8, kk8, nn8⟩, -, X8, ⟨Lc8, hQ8, lq8, yq8, zz8⟩, st8⟩ := Jvm.LawKit.callS X7 hx (y := (⟨"java/util/Objects", "equals", "(Ljava/lang/Object;Ljava/lang/Object;)Z"⟩ : MethodName)) hown (mvT hZ (hw _ (List.mem_of_getElem? (i := 27) rfl))) (mvT hZ (hw _ (List.mem_of_getElem? (i := 28) rfl))) (mvT hZ (hw _ (List.mem_of_getElem? (i := 29) rfl))) (mvT hZ (hw _ (List.mem_of_getElem? (i := 30) rfl))) (by decide) (own_back (W := 0) (ob_12 l Z a0 hw [] s1 t1 k1 x0 s2 t2 k2 y0 y1 i_COMPACT_STRINGS v_SIOOBE_FORMATTER h0 n0 O0 ne12 E_s1 F_s1_coder F_s1_value V_t1 E_s2 F_s2_coder F_s2_value V_t2 WW) hZ (hw _ (List.mem_of_getElem? (i := 30) rfl)) (hw _ (List.mem_of_getElem? (i := 29) rfl)) (by decide) (by decide)) (g := (mkF m 31 #[rv a1, rv a2, rv a2] [(.ref s2), (.ref s1)])) rfl (by rw [hml]; rfl) (argsL := [(.ref s1), (.ref s2)]) (rest := []) (lenOf pd__Ljava_lang_Object_Ljava_lang_Object__Z rfl) rfl (by show 2 * 0 + _ ≤ _; exact Nat.le_of_eq rfl) (hb hby d5_31) (fun _ _ => ⟨rfl, e7, (by decide : 0 + 0 ≤ _), (by decide : 0 + 0 ≤ _)⟩)
    dsimp only [Pt.U, Pt.locs, Pt.cells, Pt.slots] at X8 lq8 yq8 zz8 st8 hQ8
    subst lq8 yq8 zz8
    obtain ⟨rfl, Nq8, kq8⟩ := hQ8
    have N8 := Fr.app N0 Nq8
    refine Go.st (f' := (mkF m 34 #[rv a1, rv a2, rv a2] [(.int (obI_12 x0 y0 y1))])) (fun _ k => st8 _ k) ?_
    by_cases cd9 : (obI_12 x0 y0 y1) = (0 : Int32)
    · refine Go.st (f' := (mkF m 41 #[rv a1, rv a2, rv a2] [])) (fun _ k => XS.ifYes X8.here hx rfl (pc0 := 34) (pc' := 41) rfl (hb hby d5_34) rfl ((if0 _ _).trans (teq cd9).1) (by decide) (by decide) k) ?_
      refine Go.st (f' := (mkF m 42 #[rv a1, rv a2, rv a2] [(.int 0)])) (fun _ k => XS.iconst X8.here hx rfl (hb hby d5_41) k) ?_
      refine Go.retB X8 hlk hx (t := .boolean) hret (by simp) (hb hby d5_42) kq8 ?_ (by decide) (by decide)
      show (some (.int (0 : Int32)) : Option Value) = some (.int (ueI_12 i1 i2 x0 y0 y1)) ∧ _
      exact ⟨by rw [ueI_12, if_pos cd5, if_pos cd9], N8, rfl⟩
    · refine Go.st (f' := (mkF m 37 #[rv a1, rv a2, rv a2] [])) (fun _ k => XS.ifNo X8.here hx rfl (hb hby d5_34) rfl ((if0 _ _).trans (feq cd9).1) k) ?_
      refine Go.st (f' := (mkF m 38 #[rv a1, rv a2, rv a2] [(.int 1)])) (fun _ k => XS.iconst X8.here hx rfl (hb hby d5_37) k) ?_
      refine Go.st (f' := (mkF m 42 #[rv a1, rv a2, rv a2] [(.int 1)])) (fun _ k => XS.goto X8.here hx rfl (pc0 := 38) (pc' := 42) rfl (hb hby d5_38) (by decide) (by decide) k) ?_
      refine Go.retB X8 hlk hx (t := .boolean) hret (by simp) (hb hby d5_42) kq8 ?_ (by decide) (by decide)
      show (some (.int (1 : Int32)) : Option Value) = some (.int (ueI_12 i1 i2 x0 y0 y1)) ∧ _
      exact ⟨by rw [ueI_12, if_pos cd5, if_neg cd9], N8, rfl⟩
  · refine Go.st (f' := (mkF m 41 #[rv a1, rv a2, rv a2] [])) (fun _ k => XS.icmpYes X4.here hx rfl (pc0 := 20) (pc' := 41) rfl (hb hby d5_20) rfl (feq cd5).2 (by decide) (by decide) k) ?_
    refine Go.st (f' := (mkF m 42 #[rv a1, rv a2, rv a2] [(.int 0)])) (fun _ k => XS.iconst X4.here hx rfl (hb hby d5_41) k) ?_
    refine Go.retB X4 hlk hx (t := .boolean) hret (by simp) (hb hby d5_42) e4 ?_ (by decide) (by decide)
    show (some (.int (0 : Int32)) : Option Value) = some (.int (ueI_12 i1 i2 x0 y0 y1)) ∧ _
    exact ⟨by rw [ueI_12, if_neg cd5], N0, rfl⟩
def ueI_2N (i1 : Int32) (i2 : Int32) (x0 : Int32) (x1 : Int32) : Int32 := (if i1 = i2 then (if (obI_2N x0 x1) = (0 : Int32) then (0 : Int32) else (1 : Int32)) else (0 : Int32))
set_option maxRecDepth 65536 in
set_option maxHeartbeats 40000000 in
theorem ue_2N (l : Launch) (Z : State) (a0 : Array Value) (hw : ∀ d ∈ tables_1, d.before a0 Z = true) (ws : List Jvm.Cond) (a1 : Addr) (a2 : Addr) (i1 : Int32) (i2 : Int32) (s1 : Addr) (t1 : Addr) (k1 : ClassId) (x0 : Int32) (x1 : Int32) (i_COMPACT_STRINGS : Int32) (v_SIOOBE_FORMATTER : Value) (h0 : Heap) (n0 : Nat) (O0 : Old Z n0 h0) (E_a1 : Exa Z h0 a1 "com/example/wirecall/wirecall/demo/User") (F_a1_userId : Fld Z h0 a1 "com/example/wirecall/wirecall/demo/User" "userId" "I" (.int i1)) (F_a1_userName : Fld Z h0 a1 "com/example/wirecall/wirecall/demo/User" "userName" "Ljava/lang/String;" (.ref s1)) (E_a2 : Exa Z h0 a2 "com/example/wirecall/wirecall/demo/User") (F_a2_userId : Fld Z h0 a2 "com/example/wirecall/wirecall/demo/User" "userId" "I" (.int i2)) (F_a2_userName : Fld Z h0 a2 "com/example/wirecall/wirecall/demo/User" "userName" "Ljava/lang/String;" .null) (E_s1 : Exa Z h0 s1 "java/lang/String") (F_s1_coder : Fld Z h0 s1 "java/lang/String" "coder" "B" (.int 0)) (F_s1_value : Fld Z h0 s1 "java/lang/String" "value" "[B" (.ref t1)) (V_t1 : Arv Z h0 t1 k1 .byte (2 : Int32) [(.int x0), (.int x1)] (.int 0)) (WW : World1 Z i_COMPACT_STRINGS v_SIOOBE_FORMATTER) :
    Con l Z (⟨"com/example/wirecall/wirecall/demo/User", "equals", "(Ljava/lang/Object;)Z"⟩ : MethodName) prog_20_method_5_code 3 (some .boolean) ws ({ frames := 3, cells := 0, slots := 0, locals := 41 } : Room) #[(.ref a1), (.ref a2)] h0 (fun v h L => v = some (.int (ueI_2N i1 i2 x0 x1)) ∧ Fr n0 L ∧ h = h0) := by
  refine own_body (plainFor_of_name pn_com_example_wirecall_wirecall_demo_User) ?_
  intro p e s m below meth c s₁ hx hby hml hZ hown hnm hlk hret X0 e0
  have N0 := Fr.nil n0
  refine Go.st (T' := s₁) (f' := (mkF m 0 #[rv a1, rv a2, .unset] [])) (fun _ k => castTop (by first | (simp [entryFrame, mkF, argsToLocals, Value.category]; done) | rfl) k) ?_
  have ⟨S_i_COMPACT_STRINGS, nz_i_COMPACT_STRINGS, S_v_SIOOBE_FORMATTER, r_v_SIOOBE_FORMATTER⟩ := WW
  have lt_a1 := E_a1.lt
  have lt_a2 := E_a2.lt
  have lt_s1 := E_s1.lt
  have lt_t1 := V_t1.lt
  refine Go.st (f' := (mkF m 1 #[rv a1, rv a2, .unset] [(.ref a2)])) (fun _ k => XS.aloadN X0.here hx rfl (hb hby d5_0) rfl rfl k) ?_
  obtain ⟨T1, X1, e1, st1⟩ := instY X0 hx hZ hown (hw _ (List.mem_of_getElem? (i := 25) rfl)) e0 (Ins.self E_a2) (g := (mkF m 1 #[rv a1, rv a2, .unset] [(.ref a2)])) rfl rfl (hb hby d5_1)
  refine Go.st (f' := (mkF m 4 #[rv a1, rv a2, .unset] [(.int 1)])) (fun _ k => st1 _ k) ?_
  refine Go.st (f' := (mkF m 7 #[rv a1, rv a2, .unset] [])) (fun _ k => XS.ifNo X1.here hx rfl (hb hby d5_4) rfl (by decide) k) ?_
  refine Go.st (f' := (mkF m 8 #[rv a1, rv a2, .unset] [(.ref a2)])) (fun _ k => XS.aloadN X1.here hx rfl (hb hby d5_7) rfl rfl k) ?_
  obtain ⟨T2, X2, e2, st2⟩ := castY X1 hx hZ hown (hw _ (List.mem_of_getElem? (i := 25) rfl)) e1 (Ins.self E_a2) (g := (mkF m 8 #[rv a1, rv a2, .unset] [(.ref a2)])) rfl rfl (hb hby d5_8)
  refine Go.st (f' := (mkF m 11 #[rv a1, rv a2, .unset] [(.ref a2)])) (fun _ k => st2 _ k) ?_
  refine Go.st (f' := (mkF m 12 #[rv a1, rv a2, rv a2] [])) (fun _ k => XS.astoreN X2.here hx rfl (hb hby d5_11) rfl rfl (l' := #[rv a1, rv a2, rv a2]) rfl k) ?_
  refine Go.st (f' := (mkF m 13 #[rv a1, rv a2, rv a2] [(.ref a1)])) (fun _ k => XS.aloadN X2.here hx rfl (hb hby d5_12) rfl rfl k) ?_
  obtain ⟨T3, X3, e3, st3⟩ := getF X2 hx hZ hown (host := "") (Or.inl (hw _ (List.mem_of_getElem? (i := 16) rfl))) Via.refl e2 F_a1_userId (g := (mkF m 13 #[rv a1, rv a2, rv a2] [(.ref a1)])) rfl rfl (hb hby d5_13)
  refine Go.st (f' := (mkF m 16 #[rv a1, rv a2, rv a2] [(.int i1)])) (fun _ k => st3 _ k) ?_
  refine Go.st (f' := (mkF m 17 #[rv a1, rv a2, rv a2] [(.ref a2), (.int i1)])) (fun _ k => XS.aloadN X3.here hx rfl (hb hby d5_16) rfl rfl k) ?_
  obtain ⟨T4, X4, e4, st4⟩ := getF X3 hx hZ hown (host := "") (Or.inl (hw _ (List.mem_of_getElem? (i := 16) rfl))) Via.refl e3 F_a2_userId (g := (mkF m 17 #[rv a1, rv a2, rv a2] [(.ref a2), (.int i1)])) rfl rfl (hb hby d5_17)
  refine Go.st (f' := (mkF m 20 #[rv a1, rv a2, rv a2] [(.int i2), (.int i1)])) (fun _ k => st4 _ k) ?_
  by_cases cd5 : i1 = i2
  · refine Go.st (f' := (mkF m 23 #[rv a1, rv a2, rv a2] [])) (fun _ k => XS.icmpNo X4.here hx rfl (hb hby d5_20) rfl (teq cd5).2 k) ?_
    refine Go.st (f' := (mkF m 24 #[rv a1, rv a2, rv a2] [(.ref a1)])) (fun _ k => XS.aloadN X4.here hx rfl (hb hby d5_23) rfl rfl k) ?_
    obtain ⟨T6, X6, e6, st6⟩ := getF X4 hx hZ hown (host := "") (Or.inl (hw _ (List.mem_of_getElem? (i := 18) rfl))) Via.refl e4 F_a1_userName (g := (mkF m 24 #[rv a1, rv a2, rv a2] [(.ref a1)])) rfl rfl (hb hby d5_24)
    refine Go.st (f' := (mkF m 27 #[rv a1, rv a2, rv a2] [(.ref s1)])) (fun _ k => st6 _ k) ?_
    refine Go.st (f' := (mkF m 28 #[rv a1, rv a2, rv a2] [(.ref a2), (.ref s1)])) (fun _ k => XS.aloadN X6.here hx rfl (hb hby d5_27) rfl rfl k) ?_
    obtain ⟨T7, X7, e7, st7⟩ := getF X6 hx hZ hown (host := "") (Or.inl (hw _ (List.mem_of_getElem? (i := 18) rfl))) Via.refl e6 F_a2_userName (g := (mkF m 28 #[rv a1, rv a2, rv a2] [(.ref a2), (.ref s1)])) rfl rfl (hb hby d5_28)
    refine Go.st (f' := (mkF m 31 #[rv a1, rv a2, rv a2] [.null, (.ref s1)])) (fun _ k => st7 _ k) ?_
    obtain ⟨_, _, ⟨T8, L8, kk8, nn8⟩, -, X8, ⟨Lc8, hQ8, lq8, yq8, zz8⟩, st8⟩ := Jvm.LawKit.callS X7 hx (y := (⟨"java/util/Objects", "equals", "(Ljava/lang/Object;Ljava/lang/Object;)Z"⟩ : MethodName)) hown (mvT hZ (hw _ (List.mem_of_getElem? (i := 27) rfl))) (mvT hZ (hw _ (List.mem_of_getElem? (i := 28) rfl))) (mvT hZ (hw _ (List.mem_of_getElem? (i := 29) rfl))) (mvT hZ (hw _ (List.mem_of_getElem? (i := 30) rfl))) (by decide) (own_back (W := 0) (ob_2N l Z a0 hw [] s1 t1 k1 x0 x1  i_COMPACT_STRINGS v_SIOOBE_FORMATTER h0 n0 O0  E_s1 F_s1_coder F_s1_value V_t1  WW) hZ (hw _ (List.mem_of_getElem? (i := 30) rfl)) (hw _ (List.mem_of_getElem? (i := 29) rfl)) (by decide) (by decide)) (g := (mkF m 31 #[rv a1, rv a2, rv a2] [.null, (.ref s1)])) rfl (by rw [hml]; rfl) (argsL := [(.ref s1), .null]) (rest := []) (lenOf pd__Ljava_lang_Object_Ljava_lang_Object__Z rfl) rfl (by show 2 * 0 + _ ≤ _; exact Nat.le_of_eq rfl) (hb hby d5_31) (fun _ _ => ⟨rfl, e7, (by decide : 0 + 0 ≤ _), (by decide : 0 + 0 ≤ _)⟩)
    dsimp only [Pt.U, Pt.locs, Pt.cells, Pt.slots] at X8 lq8 yq8 zz8 st8 hQ8
    subst lq8 yq8 zz8
    obtain ⟨rfl, Nq8, kq8⟩ := hQ8
    have N8 := Fr.app N0 Nq8
    refine Go.st (f' := (mkF m 34 #[rv a1, rv a2, rv a2] [(.int (obI_2N x0 x1))])) (fun _ k => st8 _ k) ?_
    by_cases cd9 : (obI_2N x0 x1) = (0 : Int32)
    · refine Go.st (f' := (mkF m 41 #[rv a1, rv a2, rv a2] [])) (fun _ k => XS.ifYes X8.here hx rfl (pc0 := 34) (pc' := 41) rfl (hb hby d5_34) rfl ((if0 _ _).trans (teq cd9).1) (by decide) (by decide) k) ?_
      refine Go.st (f' := (mkF m 42 #[rv a1, rv a2, rv a2] [(.int 0)])) (fun _ k => XS.iconst X8.here hx rfl (hb hby d5_41) k) ?_
      refine Go.retB X8 hlk hx (t := .boolean) hret (by simp) (hb hby d5_42) kq8 ?_ (by decide) (by decide)
      show (some (.int (0 : Int32)) : Option Value) = some (.int (ueI_2N i1 i2 x0 x1)) ∧ _
      exact ⟨by rw [ueI_2N, if_pos cd5, if_pos cd9], N8, rfl⟩
    · refine Go.st (f' := (mkF m 37 #[rv a1, rv a2, rv a2] [])) (fun _ k => XS.ifNo X8.here hx rfl (hb hby d5_34) rfl ((if0 _ _).trans (feq cd9).1) k) ?_
      refine Go.st (f' := (mkF m 38 #[rv a1, rv a2, rv a2] [(.int 1)])) (fun _ k => XS.iconst X8.here hx rfl (hb hby d5_37) k) ?_
      refine Go.st (f' := (mkF m 42 #[rv a1, rv a2, rv a2] [(.int 1)])) (fun _ k => XS.goto X8.here hx rfl (pc0 := 38) (pc' := 42) rfl (hb hby d5_38) (by decide) (by decide) k) ?_
      refine Go.retB X8 hlk hx (t := .boolean) hret (by simp) (hb hby d5_42) kq8 ?_ (by decide) (by decide)
      show (some (.int (1 : Int32)) : Option Value) = some (.int (ueI_2N i1 i2 x0 x1)) ∧ _
      exact ⟨by rw [ueI_2N, if_pos cd5, if_neg cd9], N8, rfl⟩
  · refine Go.st (f' := (mkF m 41 #[rv a1, rv a2, rv a2] [])) (fun _ k => XS.icmpYes X4.here hx rfl (pc0 := 20) (pc' := 41) rfl (hb hby d5_20) rfl (feq cd5).2 (by decide) (by decide) k) ?_
    refine Go.st (f' := (mkF m 42 #[rv a1, rv a2, rv a2] [(.int 0)])) (fun _ k => XS.iconst X4.here hx rfl (hb hby d5_41) k) ?_
    refine Go.retB X4 hlk hx (t := .boolean) hret (by simp) (hb hby d5_42) e4 ?_ (by decide) (by decide)
    show (some (.int (0 : Int32)) : Option Value) = some (.int (ueI_2N i1 i2 x0 x1)) ∧ _
    exact ⟨by rw [ueI_2N, if_neg cd5], N0, rfl⟩
def ueI_20 (i1 : Int32) (i2 : Int32) (x0 : Int32) (x1 : Int32) : Int32 := (if i1 = i2 then (if (obI_20 x0 x1) = (0 : Int32) then (0 : Int32) else (1 : Int32)) else (0 : Int32))
set_option maxRecDepth 65536 in
set_option maxHeartbeats 40000000 in
theorem ue_20 (l : Launch) (Z : State) (a0 : Array Value) (hw : ∀ d ∈ tables_1, d.before a0 Z = true) (ws : List Jvm.Cond) (a1 : Addr) (a2 : Addr) (i1 : Int32) (i2 : Int32) (s1 : Addr) (t1 : Addr) (k1 : ClassId) (x0 : Int32) (x1 : Int32) (s2 : Addr) (t2 : Addr) (k2 : ClassId) (i_COMPACT_STRINGS : Int32) (v_SIOOBE_FORMATTER : Value) (h0 : Heap) (n0 : Nat) (O0 : Old Z n0 h0) (E_a1 : Exa Z h0 a1 "com/example/wirecall/wirecall/demo/User") (F_a1_userId : Fld Z h0 a1 "com/example/wirecall/wirecall/demo/User" "userId" "I" (.int i1)) (F_a1_userName : Fld Z h0 a1 "com/example/wirecall/wirecall/demo/User" "userName" "Ljava/lang/String;" (.ref s1)) (E_a2 : Exa Z h0 a2 "com/example/wirecall/wirecall/demo/User") (F_a2_userId : Fld Z h0 a2 "com/example/wirecall/wirecall/demo/User" "userId" "I" (.int i2)) (F_a2_userName : Fld Z h0 a2 "com/example/wirecall/wirecall/demo/User" "userName" "Ljava/lang/String;" (.ref s2)) (ne12 : s1 ≠ s2) (E_s1 : Exa Z h0 s1 "java/lang/String") (F_s1_coder : Fld Z h0 s1 "java/lang/String" "coder" "B" (.int 0)) (F_s1_value : Fld Z h0 s1 "java/lang/String" "value" "[B" (.ref t1)) (V_t1 : Arv Z h0 t1 k1 .byte (2 : Int32) [(.int x0), (.int x1)] (.int 0)) (E_s2 : Exa Z h0 s2 "java/lang/String") (F_s2_coder : Fld Z h0 s2 "java/lang/String" "coder" "B" (.int 0)) (F_s2_value : Fld Z h0 s2 "java/lang/String" "value" "[B" (.ref t2)) (V_t2 : Arv Z h0 t2 k2 .byte (0 : Int32) [] (.int 0)) (WW : World1 Z i_COMPACT_STRINGS v_SIOOBE_FORMATTER) :
    Con l Z (⟨"com/example/wirecall/wirecall/demo/User", "equals", "(Ljava/lang/Object;)Z"⟩ : MethodName) prog_20_method_5_code 3 (some .boolean) ws ({ frames := 3, cells := 0, slots := 0, locals := 41 } : Room) #[(.ref a1), (.ref a2)] h0 (fun v h L => v = some (.int (ueI_20 i1 i2 x0 x1)) ∧ Fr n0 L ∧ h = h0) := by
  refine own_body (plainFor_of_name pn_com_example_wirecall_wirecall_demo_User) ?_
  intro p e s m below meth c s₁ hx hby hml hZ hown hnm hlk hret X0 e0
  have N0 := Fr.nil n0
  refine Go.st (T' := s₁) (f' := (mkF m 0 #[rv a1, rv a2, .unset] [])) (fun _ k => castTop (by first | (simp [entryFrame, mkF, argsToLocals, Value.category]; done) | rfl) k) ?_
  have ⟨S_i_COMPACT_STRINGS, nz_i_COMPACT_STRINGS, S_v_SIOOBE_FORMATTER, r_v_SIOOBE_FORMATTER⟩ := WW
  have lt_a1 := E_a1.lt
  have lt_a2 := E_a2.lt
  have lt_s1 := E_s1.lt
  have lt_t1 := V_t1.lt
  have lt_s2 := E_s2.lt
  have lt_t2 := V_t2.lt
  refine Go.st (f' := (mkF m 1 #[rv a1, rv a2, .unset] [(.ref a2)])) (fun _ k => XS.aloadN X0.here hx rfl (hb hby d5_0) rfl rfl k) ?_
  obtain ⟨T1, X1, e1, st1⟩ := instY X0 hx hZ hown (hw _ (List.mem_of_getElem? (i := 25) rfl)) e0 (Ins.self E_a2) (g := (mkF m 1 #[rv a1, rv a2, .unset] [(.ref a2)])) rfl rfl (hb hby d5_1)
  refine Go.st (f' := (mkF m 4 #[rv a1, rv a2, .unset] [(.int 1)])) (fun _ k => st1 _ k) ?_
  refine Go.st (f' := (mkF m 7 #[rv a1, rv a2, .unset] [])) (fun _ k => XS.ifNo X1.here hx rfl (hb hby d5_4) rfl (by decide) k) ?_
  refine Go.st (f' := (mkF m 8 #[rv a1, rv a2, .unset] [(.ref a2)])) (fun _ k => XS.aloadN X1.here hx rfl (hb hby d5_7) rfl rfl k) ?_
  obtain ⟨T2, X2, e2, st2⟩ := castY X1 hx hZ hown (hw _ (List.mem_of_getElem? (i := 25) rfl)) e1 (Ins.self E_a2) (g := (mkF m 8 #[rv a1, rv a2, .unset] [(.ref a2)])) rfl rfl (hb hby d5_8)
  refine Go.st (f' := (mkF m 11 #[rv a1, rv a2, .unset] [(.ref a2)])) (fun _ k => st2 _ k) ?_
  refine Go.st (f' := (mkF m 12 #[rv a1, rv a2, rv a2] [])) (fun _ k => XS.astoreN X2.here hx rfl (hb hby d5_11) rfl rfl (l' := #[rv a1, rv a2, rv a2]) rfl k) ?_
  refine Go.st (f' := (mkF m 13 #[rv a1, rv a2, rv a2] [(.ref a1)])) (fun _ k => XS.aloadN X2.here hx rfl (hb hby d5_12) rfl rfl k) ?_
  obtain ⟨T3, X3, e3, st3⟩ := getF X2 hx hZ hown (host := "") (Or.inl (hw _ (List.mem_of_getElem? (i := 16) rfl))) Via.refl e2 F_a1_userId (g := (mkF m 13 #[rv a1, rv a2, rv a2] [(.ref a1)])) rfl rfl (hb hby d5_13)
  refine Go.st (f' := (mkF m 16 #[rv a1, rv a2, rv a2] [(.int i1)])) (fun _ k => st3 _ k) ?_
  refine Go.st (f' := (mkF m 17 #[rv a1, rv a2, rv a2] [(.ref a2), (.int i1)])) (fun _ k => XS.aloadN X3.here hx rfl (hb hby d5_16) rfl rfl k) ?_
  obtain ⟨T4, X4, e4, st4⟩ := getF X3 hx hZ hown (host := "") (Or.inl (hw _ (List.mem_of_getElem? (i := 16) rfl))) Via.refl e3 F_a2_userId (g := (mkF m 17 #[rv a1, rv a2, rv a2] [(.ref a2), (.int i1)])) rfl rfl (hb hby d5_17)
  refine Go.st (f' := (mkF m 20 #[rv a1, rv a2, rv a2] [(.int i2), (.int i1)])) (fun _ k => st4 _ k) ?_
  by_cases cd5 : i1 = i2
  · refine Go.st (f' := (mkF m 23 #[rv a1, rv a2, rv a2] [])) (fun _ k => XS.icmpNo X4.here hx rfl (hb hby d5_20) rfl (teq cd5).2 k) ?_
    refine Go.st (f' := (mkF m 24 #[rv a1, rv a2, rv a2] [(.ref a1)])) (fun _ k => XS.aloadN X4.here hx rfl (hb hby d5_23) rfl rfl k) ?_
    obtain ⟨T6, X6, e6, st6⟩ := getF X4 hx hZ hown (host := "") (Or.inl (hw _ (List.mem_of_getElem? (i := 18) rfl))) Via.refl e4 F_a1_userName (g := (mkF m 24 #[rv a1, rv a2, rv a2] [(.ref a1)])) rfl rfl (hb hby d5_24)
    refine Go.st (f' := (mkF m 27 #[rv a1, rv a2, rv a2] [(.ref s1)])) (fun _ k => st6 _ k) ?_
    refine Go.st (f' := (mkF m 28 #[rv a1, rv a2, rv a2] [(.ref a2), (.ref s1)])) (fun _ k => XS.aloadN X6.here hx rfl (hb hby d5_27) rfl rfl k) ?_
    obtain ⟨T7, X7, e7, st7⟩ := getF X6 hx hZ hown (host := "") (Or.inl (hw _ (List.mem_of_getElem? (i := 18) rfl))) Via.refl e6 F_a2_userName (g := (mkF m 28 #[rv a1, rv a2, rv a2] [(.ref a2), (.ref s1)])) rfl rfl (hb hby d5_28)
    refine Go.st (f' := (mkF m 31 #[rv a1, rv a2, rv a2] [(.ref s2), (.ref s1)])) (fun _ k => st7 _ k) ?_
    obtain ⟨_, _, ⟨T8, L8, kk8, nn8⟩, -, X8, ⟨Lc8, hQ8, lq8, yq8, zz8⟩, st8⟩ := Jvm.LawKit.callS X7 hx (y := (⟨"java/util/Objects", "equals", "(Ljava/lang/Object;Ljava/lang/Object;)Z"⟩ : MethodName)) hown (mvT hZ (hw _ (List.mem_of_getElem? (i := 27) rfl))) (mvT hZ (hw _ (List.mem_of_getElem? (i := 28) rfl))) (mvT hZ (hw _ (List.mem_of_getElem? (i := 29) rfl))) (mvT hZ (hw _ (List.mem_of_getElem? (i := 30) rfl))) (by decide) (own_back (W := 0) (ob_20 l Z a0 hw [] s1 t1 k1 x0 x1 s2 t2 k2  i_COMPACT_STRINGS v_SIOOBE_FORMATTER h0 n0 O0 ne12 E_s1 F_s1_coder F_s1_value V_t1 E_s2 F_s2_coder F_s2_value V_t2 WW) hZ (hw _ (List.mem_of_getElem? (i := 30) rfl)) (hw _ (List.mem_of_getElem? (i := 29) rfl)) (by decide) (by decide)) (g := (mkF m 31 #[rv a1, rv a2, rv a2] [(.ref s2), (.ref s1)])) rfl (by rw [hml]; rfl) (argsL := [(.ref s1), (.ref s2)]) (rest := []) (lenOf pd__Ljava_lang_Object_Ljava_lang_Object__Z rfl) rfl (by show 2 * 0 + _ ≤ _; exact Nat.le_of_eq rfl) (hb hby d5_31) (fun _ _ => ⟨rfl, e7, (by decide : 0 + 0 ≤ _), (by decide : 0 + 0 ≤ _)⟩)
    dsimp only [Pt.U, Pt.locs, Pt.cells, Pt.slots] at X8 lq8 yq8 zz8 st8 hQ8
    subst lq8 yq8 zz8
    obtain ⟨rfl, Nq8, kq8⟩ := hQ8
    have N8 := Fr.app N0 Nq8
    refine Go.st (f' := (mkF m 34 #[rv a1, rv a2, rv a2] [(.int (obI_20 x0 x1))])) (fun _ k => st8 _ k) ?_
    by_cases cd9 : (obI_20 x0 x1) = (0 : Int32)
    · refine Go.st (f' := (mkF m 41 #[rv a1, rv a2, rv a2] [])) (fun _ k => XS.ifYes X8.here hx rfl (pc0 := 34) (pc' := 41) rfl (hb hby d5_34) rfl ((if0 _ _).trans (teq cd9).1) (by decide) (by decide) k) ?_
      refine Go.st (f' := (mkF m 42 #[rv a1, rv a2, rv a2] [(.int 0)])) (fun _ k => XS.iconst X8.here hx rfl (hb hby d5_41) k) ?_
      refine Go.retB X8 hlk hx (t := .boolean) hret (by simp) (hb hby d5_42) kq8 ?_ (by decide) (by decide)
      show (some (.int (0 : Int32)) : Option Value) = some (.int (ueI_20 i1 i2 x0 x1)) ∧ _
      exact ⟨by rw [ueI_20, if_pos cd5, if_pos cd9], N8, rfl⟩
    · refine Go.st (f' := (mkF m 37 #[rv a1, rv a2, rv a2] [])) (fun _ k => XS.ifNo X8.here hx rfl (hb hby d5_34) rfl ((if0 _ _).trans (feq cd9).1) k) ?_
      refine Go.st (f' := (mkF m 38 #[rv a1, rv a2, rv a2] [(.int 1)])) (fun _ k => XS.iconst X8.here hx rfl (hb hby d5_37) k) ?_
      refine Go.st (f' := (mkF m 42 #[rv a1, rv a2, rv a2] [(.int 1)])) (fun _ k => XS.goto X8.here hx rfl (pc0 := 38) (pc' := 42) rfl (hb hby d5_38) (by decide) (by decide) k) ?_
      refine Go.retB X8 hlk hx (t := .boolean) hret (by simp) (hb hby d5_42) kq8 ?_ (by decide) (by decide)
      show (some (.int (1 : Int32)) : Option Value) = some (.int (ueI_20 i1 i2 x0 x1)) ∧ _
      exact ⟨by rw [ueI_20, if_pos cd5, if_neg cd9], N8, rfl⟩
  · refine Go.st (f' := (mkF m 41 #[rv a1, rv a2, rv a2] [])) (fun _ k => XS.icmpYes X4.here hx rfl (pc0 := 20) (pc' := 41) rfl (hb hby d5_20) rfl (feq cd5).2 (by decide) (by decide) k) ?_
    refine Go.st (f' := (mkF m 42 #[rv a1, rv a2, rv a2] [(.int 0)])) (fun _ k => XS.iconst X4.here hx rfl (hb hby d5_41) k) ?_
    refine Go.retB X4 hlk hx (t := .boolean) hret (by simp) (hb hby d5_42) e4 ?_ (by decide) (by decide)
    show (some (.int (0 : Int32)) : Option Value) = some (.int (ueI_20 i1 i2 x0 x1)) ∧ _
    exact ⟨by rw [ueI_20, if_neg cd5], N0, rfl⟩
def ueI_21 (i1 : Int32) (i2 : Int32) (x0 : Int32) (x1 : Int32) (y0 : Int32) : Int32 := (if i1 = i2 then (if (obI_21 x0 x1 y0) = (0 : Int32) then (0 : Int32) else (1 : Int32)) else (0 : Int32))
set_option maxRecDepth 65536 in
set_option maxHeartbeats 40000000 in
theorem ue_21 (l : Launch) (Z : State) (a0 : Array Value) (hw : ∀ d ∈ tables_1, d.before a0 Z = true) (ws : List Jvm.Cond) (a1 : Addr) (a2 : Addr) (i1 : Int32) (i2 : Int32) (s1 : Addr) (t1 : Addr) (k1 : ClassId) (x0 : Int32) (x1 : Int32) (s2 : Addr) (t2 : Addr) (k2 : ClassId) (y0 : Int32) (i_COMPACT_STRINGS : Int32) (v_SIOOBE_FORMATTER : Value) (h0 : Heap) (n0 : Nat) (O0 : Old Z n0 h0) (E_a1 : Exa Z h0 a1 "com/example/wirecall/wirecall/demo/User") (F_a1_userId : Fld Z h0 a1 "com/example/wirecall/wirecall/demo/User" "userId" "I" (.int i1)) (F_a1_userName : Fld Z h0 a1 "com/example/wirecall/wirecall/demo/User" "userName" "Ljava/lang/String;" (.ref s1)) (E_a2 : Exa Z h0 a2 "com/example/wirecall/wirecall/demo/User") (F_a2_userId : Fld Z h0 a2 "com/example/wirecall/wirecall/demo/User" "userId" "I" (.int i2)) (F_a2_userName : Fld Z h0 a2 "com/example/wirecall/wirecall/demo/User" "userName" "Ljava/lang/String;" (.ref s2)) (ne12 : s1 ≠ s2) (E_s1 : Exa Z h0 s1 "java/lang/String") (F_s1_coder : Fld Z h0 s1 "java/lang/String" "coder" "B" (.int 0)) (F_s1_value : Fld Z h0 s1 "java/lang/String" "value" "[B" (.ref t1)) (V_t1 : Arv Z h0 t1 k1 .byte (2 : Int32) [(.int x0), (.int x1)] (.int 0)) (E_s2 : Exa Z h0 s2 "java/lang/String") (F_s2_coder : Fld Z h0 s2 "java/lang/String" "coder" "B" (.int 0)) (F_s2_value : Fld Z h0 s2 "java/lang/String" "value" "[B" (.ref t2)) (V_t2 : Arv Z h0 t2 k2 .byte (1 : Int32) [(.int y0)] (.int 0)) (WW : World1 Z i_COMPACT_STRINGS v_SIOOBE_FORMATTER) :
    Con l Z (⟨"com/example/wirecall/wirecall/demo/User", "equals", "(Ljava/lang/Object;)Z"⟩ : MethodName) prog_20_method_5_code 3 (some .boolean) ws ({ frames := 3, cells := 0, slots := 0, locals := 41 } : Room) #[(.ref a1), (.ref a2)] h0 (fun v h L => v = some (.int (ueI_21 i1 i2 x0 x1 y0)) ∧ Fr n0 L ∧ h = h0) := by
  refine own_body (plainFor_of_name pn_com_example_wirecall_wirecall_demo_User) ?_
  intro p e s m below meth c s₁ hx hby hml hZ hown hnm hlk hret X0 e0
  have N0 := Fr.nil n0
  refine Go.st (T' := s₁) (f' := (mkF m 0 #[rv a1, rv a2, .unset] [])) (fun _ k => castTop (by first | (simp [entryFrame, mkF, argsToLocals, Value.category]; done) | rfl) k) ?_
  have ⟨S_i_COMPACT_STRINGS, nz_i_COMPACT_STRINGS, S_v_SIOOBE_FORMATTER, r_v_SIOOBE_FORMATTER⟩ := WW
  have lt_a1 := E_a1.lt
  have lt_a2 := E_a2.lt
  have lt_s1 := E_s1.lt
  have lt_t1 := V_t1.lt
  have lt_s2 := E_s2.lt
  have lt_t2 := V_t2.lt
  refine Go.st (f' := (mkF m 1 #[rv a1, rv a2, .unset] [(.ref a2)])) (fun _ k => XS.aloadN X0.here hx rfl (hb hby d5_0) rfl rfl k) ?_
  obtain ⟨T1, X1, e1, st1⟩ := instY X0 hx hZ hown (hw _ (List.mem_of_getElem? (i := 25) rfl)) e0 (Ins.self E_a2) (g := (mkF m 1 #[rv a1, rv a2, .unset] [(.ref a2)])) rfl rfl (hb hby d5_1)
  refine Go.st (f' := (mkF m 4 #[rv a1, rv a2, .unset] [(.int 1)])) (fun _ k => st1 _ k) ?_
  refine Go.st (f' := (mkF m 7 #[rv a1, rv a2, .unset] [])) (fun _ k => XS.ifNo X1.here hx rfl (hb hby d5_4) rfl (by decide) k) ?_
  refine Go.st (f' := (mkF m 8 #[rv a1, rv a2, .unset] [(.ref a2)])) (fun _ k => XS.aloadN X1.here hx rfl (hb hby d5_7) rfl rfl k) ?_
  obtain ⟨T2, X2, e2, st2⟩ := castY X1 hx hZ hown (hw _ (List.mem_of_getElem? (i := 25) rfl)) e1 (Ins.self E_a2) (g := (mkF m 8 #[rv a1, rv a2, .unset] [(.ref a2)])) rfl rfl (hb hby d5_8)
  refine Go.st (f' := (mkF m 11 #[rv a1, rv a2, .unset] [(.ref a2)])) (fun _ k => st2 _ k) ?_
  refine Go.st (f' := (mkF m 12 #[rv a1, rv a2, rv a2] [])) (fun _ k => XS.astoreN X2.here hx rfl (hb hby d5_11) rfl rfl (l' := #[rv a1, rv a2, rv a2]) rfl k) ?_
  refine Go.st (f' := (mkF m 13 #[rv a1, rv a2, rv a2] [(.ref a1)])) (fun _ k => XS.aloadN X2.here hx rfl (hb hby d5_12) rfl rfl k) ?_
  obtain ⟨T3, X3, e3, st3⟩ := getF X2 hx hZ hown (host := "") (Or.inl (hw _ (List.mem_of_getElem? (i := 16) rfl))) Via.refl e2 F_a1_userId (g := (mkF m 13 #[rv a1, rv a2, rv a2] [(.ref a1)])) rfl rfl (hb hby d5_13)
  refine Go.st (f' := (mkF m 16 #[rv a1, rv a2, rv a2] [(.int i1)])) (fun _ k => st3 _ k) ?_
  refine Go.st (f' := (mkF m 17 #[rv a1, rv a2, rv a2] [(.ref a2), (.int i1)])) (fun _ k => XS.aloadN X3.here hx rfl (hb hby d5_16) rfl rfl k) ?_
  obtain ⟨T4, X4, e4, st4⟩ := getF X3 hx hZ hown (host := "") (Or.inl (hw _ (List.mem_of_getElem? (i := 16) rfl))) Via.refl e3 F_a2_userId (g := (mkF m 17 #[rv a1, rv a2, rv a2] [(.ref a2), (.int i1)])) rfl rfl (hb hby d5_17)
  refine Go.st (f' := (mkF m 20 #[rv a1, rv a2, rv a2] [(.int i2), (.int i1)])) (fun _ k => st4 _ k) ?_
  by_cases cd5 : i1 = i2
  · refine Go.st (f' := (mkF m 23 #[rv a1, rv a2, rv a2] [])) (fun _ k => XS.icmpNo X4.here hx rfl (hb hby d5_20) rfl (teq cd5).2 k) ?_
    refine Go.st (f' := (mkF m 24 #[rv a1, rv a2, rv a2] [(.ref a1)])) (fun _ k => XS.aloadN X4.here hx rfl (hb hby d5_23) rfl rfl k) ?_
    obtain ⟨T6, X6, e6, st6⟩ := getF X4 hx hZ hown (host := "") (Or.inl (hw _ (List.mem_of_getElem? (i := 18) rfl))) Via.refl e4 F_a1_userName (g := (mkF m 24 #[rv a1, rv a2, rv a2] [(.ref a1)])) rfl rfl (hb hby d5_24)
    refine Go.st (f' := (mkF m 27 #[rv a1, rv a2, rv a2] [(.ref s1)])) (fun _ k => st6 _ k) ?_
    refine Go.st (f' := (mkF m 28 #[rv a1, rv a2, rv a2] [(.ref a2), (.ref s1)])) (fun _ k => XS.aloadN X6.here hx rfl (hb hby d5_27) rfl rfl k) ?_
    obtain ⟨T7, X7, e7, st7⟩ := getF X6 hx hZ hown (host := "") (Or.inl (hw _ (List.mem_of_getElem? (i := 18) rfl))) Via.refl e6 F_a2_userName (g := (mkF m 28 #[rv a1, rv a2, rv a2] [(.ref a2), (.ref s1)])) rfl rfl (hb hby d5_28)
    refine Go.st (f' := (mkF m 31 #[rv a1, rv a2, rv a2] [(.ref s2), (.ref s1)])) (fun _ k => st7 _ k) ?_
    obtain ⟨_, _, ⟨T8, L8, kk8, nn8⟩, -, X8, ⟨Lc8, hQ8, lq8, yq8, zz8⟩, st8⟩ := Jvm.LawKit.callS X7 hx (y := (⟨"java/util/Objects", "equals", "(Ljava/lang/Object;Ljava/lang/Object;)Z"⟩ : MethodName)) hown (mvT hZ (hw _ (List.mem_of_getElem? (i := 27) rfl))) (mvT hZ (hw _ (List.mem_of_getElem? (i := 28) rfl))) (mvT hZ (hw _ (List.mem_of_getElem? (i := 29) rfl))) (mvT hZ (hw _ (List.mem_of_getElem? (i := 30) rfl))) (by decide) (own_back (W := 0) (ob_21 l Z a0 hw [] s1 t1 k1 x0 x1 s2 t2 k2 y0 i_COMPACT_STRINGS v_SIOOBE_FORMATTER h0 n0 O0 ne12 E_s1 F_s1_coder F_s1_value V_t1 E_s2 F_s2_coder F_s2_value V_t2 WW) hZ (hw _ (List.mem_of_getElem? (i := 30) rfl)) (hw _ (List.mem_of_getElem? (i := 29) rfl)) (by decide) (by decide)) (g := (mkF m 31 #[rv a1, rv a2, rv a2] [(.ref s2), (.ref s1)])) rfl (by rw [hml]; rfl) (argsL := [(.ref s1), (.ref s2)]) (rest := []) (lenOf pd__Ljava_lang_Object_Ljava_lang_Object__Z rfl) rfl (by show 2 * 0 + _ ≤ _; exact Nat.le_of_eq rfl) (hb hby d5_31) (fun _ _ => ⟨rfl, e7, (by decide : 0 + 0 ≤ _), (by decide : 0 + 0 ≤ _)⟩)
    dsimp only [Pt.U, Pt.locs, Pt.cells, Pt.slots] at X8 lq8 yq8 zz8 st8 hQ8
    subst lq8 yq8 zz8
    obtain ⟨rfl, Nq8, kq8⟩ := hQ8
    have N8 := Fr.app N0 Nq8
    refine Go.st (f' := (mkF m 34 #[rv a1, rv a2, rv a2] [(.int (obI_21 x0 x1 y0))])) (fun _ k => st8 _ k) ?_
    by_cases cd9 : (obI_21 x0 x1 y0) = (0 : Int32)
    · refine Go.st (f' := (mkF m 41 #[rv a1, rv a2, rv a2] [])) (fun _ k => XS.ifYes X8.here hx rfl (pc0 := 34) (pc' := 41) rfl (hb hby d5_34) rfl ((if0 _ _).trans (teq cd9).1) (by decide) (by decide) k) ?_
      refine Go.st (f' := (mkF m 42 #[rv a1, rv a2, rv a2] [(.int 0)])) (fun _ k => XS.iconst X8.here hx rfl (hb hby d5_41) k) ?_
      refine Go.retB X8 hlk hx (t := .boolean) hret (by simp) (hb hby d5_42) kq8 ?_ (by decide) (by decide)
      show (some (.int (0 : Int32)) : Option Value) = some (.int (ueI_21 i1 i2 x0 x1 y0)) ∧ _
      exact ⟨by rw [ueI_21, if_pos cd5, if_pos cd9], N8, rfl⟩
    · refine Go.st (f' := (mkF m 37 #[rv a1, rv a2, rv a2] [])) (fun _ k => XS.ifNo X8.here hx rfl (hb hby d5_34) rfl ((if0 _ _).trans (feq cd9).1) k) ?_
      refine Go.st (f' := (mkF m 38 #[rv a1, rv a2, rv a2] [(.int 1)])) (fun _ k => XS.iconst X8.here hx rfl (hb hby d5_37) k) ?_
      refine Go.st (f' := (mkF m 42 #[rv a1, rv a2, rv a2] [(.int 1)])) (fun _ k => XS.goto X8.here hx rfl (pc0 := 38) (pc' := 42) rfl (hb hby d5_38) (by decide) (by decide) k) ?_
      refine Go.retB X8 hlk hx (t := .boolean) hret (by simp) (hb hby d5_42) kq8 ?_ (by decide) (by decide)
      show (some (.int (1 : Int32)) : Option Value) = some (.int (ueI_21 i1 i2 x0 x1 y0)) ∧ _
      exact ⟨by rw [ueI_21, if_pos cd5, if_neg cd9], N8, rfl⟩
  · refine Go.st (f' := (mkF m 41 #[rv a1, rv a2, rv a2] [])) (fun _ k => XS.icmpYes X4.here hx rfl (pc0 := 20) (pc' := 41) rfl (hb hby d5_20) rfl (feq cd5).2 (by decide) (by decide) k) ?_
    refine Go.st (f' := (mkF m 42 #[rv a1, rv a2, rv a2] [(.int 0)])) (fun _ k => XS.iconst X4.here hx rfl (hb hby d5_41) k) ?_
    refine Go.retB X4 hlk hx (t := .boolean) hret (by simp) (hb hby d5_42) e4 ?_ (by decide) (by decide)
    show (some (.int (0 : Int32)) : Option Value) = some (.int (ueI_21 i1 i2 x0 x1 y0)) ∧ _
    exact ⟨by rw [ueI_21, if_neg cd5], N0, rfl⟩
def ueI_22 (i1 : Int32) (i2 : Int32) (x0 : Int32) (x1 : Int32) (y0 : Int32) (y1 : Int32) : Int32 := (if i1 = i2 then (if (obI_22 x0 x1 y0 y1) = (0 : Int32) then (0 : Int32) else (1 : Int32)) else (0 : Int32))
set_option maxRecDepth 65536 in
set_option maxHeartbeats 40000000 in
theorem ue_22 (l : Launch) (Z : State) (a0 : Array Value) (hw : ∀ d ∈ tables_1, d.before a0 Z = true) (ws : List Jvm.Cond) (a1 : Addr) (a2 : Addr) (i1 : Int32) (i2 : Int32) (s1 : Addr) (t1 : Addr) (k1 : ClassId) (x0 : Int32) (x1 : Int32) (s2 : Addr) (t2 : Addr) (k2 : ClassId) (y0 : Int32) (y1 : Int32) (i_COMPACT_STRINGS : Int32) (v_SIOOBE_FORMATTER : Value) (h0 : Heap) (n0 : Nat) (O0 : Old Z n0 h0) (E_a1 : Exa Z h0 a1 "com/example/wirecall/wirecall/demo/User") (F_a1_userId : Fld Z h0 a1 "com/example/wirecall/wirecall/demo/User" "userId" "I" (.int i1)) (F_a1_userName : Fld Z h0 a1 "com/example/wirecall/wirecall/demo/User" "userName" "Ljava/lang/String;" (.ref s1)) (E_a2 : Exa Z h0 a2 "com/example/wirecall/wirecall/demo/User") (F_a2_userId : Fld Z h0 a2 "com/example/wirecall/wirecall/demo/User" "userId" "I" (.int i2)) (F_a2_userName : Fld Z h0 a2 "com/example/wirecall/wirecall/demo/User" "userName" "Ljava/lang/String;" (.ref s2)) (ne12 : s1 ≠ s2) (E_s1 : Exa Z h0 s1 "java/lang/String") (F_s1_coder : Fld Z h0 s1 "java/lang/String" "coder" "B" (.int 0)) (F_s1_value : Fld Z h0 s1 "java/lang/String" "value" "[B" (.ref t1)) (V_t1 : Arv Z h0 t1 k1 .byte (2 : Int32) [(.int x0), (.int x1)] (.int 0)) (E_s2 : Exa Z h0 s2 "java/lang/String") (F_s2_coder : Fld Z h0 s2 "java/lang/String" "coder" "B" (.int 0)) (F_s2_value : Fld Z h0 s2 "java/lang/String" "value" "[B" (.ref t2)) (V_t2 : Arv Z h0 t2 k2 .byte (2 : Int32) [(.int y0), (.int y1)] (.int 0)) (WW : World1 Z i_COMPACT_STRINGS v_SIOOBE_FORMATTER) :
    Con l Z (⟨"com/example/wirecall/wirecall/demo/User", "equals", "(Ljava/lang/Object;)Z"⟩ : MethodName) prog_20_method_5_code 3 (some .boolean) ws ({ frames := 3, cells := 0, slots := 0, locals := 41 } : Room) #[(.ref a1), (.ref a2)] h0 (fun v h L => v = some (.int (ueI_22 i1 i2 x0 x1 y0 y1)) ∧ Fr n0 L ∧ h = h0) := by
  refine own_body (plainFor_of_name pn_com_example_wirecall_wirecall_demo_User) ?_
  intro p e s m below meth c s₁ hx hby hml hZ hown hnm hlk hret X0 e0
  have N0 := Fr.nil n0
  refine Go.st (T' := s₁) (f' := (mkF m 0 #[rv a1, rv a2, .unset] [])) (fun _ k => castTop (by first | (simp [entryFrame, mkF, argsToLocals, Value.category]; done) | rfl) k) ?_
  have ⟨S_i_COMPACT_STRINGS, nz_i_COMPACT_STRINGS, S_v_SIOOBE_FORMATTER, r_v_SIOOBE_FORMATTER⟩ := WW
  have lt_a1 := E_a1.lt
  have lt_a2 := E_a2.lt
  have lt_s1 := E_s1.lt
  have lt_t1 := V_t1.lt
  have lt_s2 := E_s2.lt
  have lt_t2 := V_t2.lt
  refine Go.st (f' := (mkF m 1 #[rv a1, rv a2, .unset] [(.ref a2)])) (fun _ k => XS.aloadN X0.here hx rfl (hb hby d5_0) rfl rfl k) ?_
  obtain ⟨T1, X1, e1, st1⟩ := instY X0 hx hZ hown (hw _ (List.mem_of_getElem? (i := 25) rfl)) e0 (Ins.self E_a2) (g := (mkF m 1 #[rv a1, rv a2, .unset] [(.ref a2)])) rfl rfl (hb hby d5_1)
  refine Go.st (f' := (mkF m 4 #[rv a1, rv a2, .unset] [(.int 1)])) (fun _ k => st1 _ k) ?_
  refine Go.st (f' := (mkF m 7 #[rv a1, rv a2, .unset] [])) (fun _ k => XS.ifNo X1.here hx rfl (hb hby d5_4) rfl (by decide) k) ?_
  refine Go.st (f' := (mkF m 8 #[rv a1, rv a2, .unset] [(.ref a2)])) (fun _ k => XS.aloadN X1.here hx rfl (hb hby d5_7) rfl rfl k) ?_
  obtain ⟨T2, X2, e2, st2⟩ := castY X1 hx hZ hown (hw _ (List.mem_of_getElem? (i := 25) rfl)) e1 (Ins.self E_a2) (g := (mkF m 8 #[rv a1, rv a2, .unset] [(.ref a2)])) rfl rfl (hb hby d5_8)
  refine Go.st (f' := (mkF m 11 #[rv a1, rv a2, .unset] [(.ref a2)])) (fun _ k => st2 _ k) ?_
  refine Go.st (f' := (mkF m 12 #[rv a1, rv a2, rv a2] [])) (fun _ k => XS.astoreN X2.here hx rfl (hb hby d5_11) rfl rfl (l' := #[rv a1, rv a2, rv a2]) rfl k) ?_
  refine Go.st (f' := (mkF m 13 #[rv a1, rv a2, rv a2] [(.ref a1)])) (fun _ k => XS.aloadN X2.here hx rfl (hb hby d5_12) rfl rfl k) ?_
  obtain ⟨T3, X3, e3, st3⟩ := getF X2 hx hZ hown (host := "") (Or.inl (hw _ (List.mem_of_getElem? (i := 16) rfl))) Via.refl e2 F_a1_userId (g := (mkF m 13 #[rv a1, rv a2, rv a2] [(.ref a1)])) rfl rfl (hb hby d5_13)
  refine Go.st (f' := (mkF m 16 #[rv a1, rv a2, rv a2] [(.int i1)])) (fun _ k => st3 _ k) ?_
  refine Go.st (f' := (mkF m 17 #[rv a1, rv a2, rv a2] [(.ref a2), (.int i1)])) (fun _ k => XS.aloadN X3.here hx rfl (hb hby d5_16) rfl rfl k) ?_
  obtain ⟨T4, X4, e4, st4⟩ := getF X3 hx hZ hown (host := "") (Or.inl (hw _ (List.mem_of_getElem? (i := 16) rfl))) Via.refl e3 F_a2_userId (g := (mkF m 17 #[rv a1, rv a2, rv a2] [(.ref a2), (.int i1)])) rfl rfl (hb hby d5_17)
  refine Go.st (f' := (mkF m 20 #[rv a1, rv a2, rv a2] [(.int i2), (.int i1)])) (fun _ k => st4 _ k) ?_
  by_cases cd5 : i1 = i2
  · refine Go.st (f' := (mkF m 23 #[rv a1, rv a2, rv a2] [])) (fun _ k => XS.icmpNo X4.here hx rfl (hb hby d5_20) rfl (teq cd5).2 k) ?_
    refine Go.st (f' := (mkF m 24 #[rv a1, rv a2, rv a2] [(.ref a1)])) (fun _ k => XS.aloadN X4.here hx rfl (hb hby d5_23) rfl rfl k) ?_
    obtain ⟨T6, X6, e6, st6⟩ := getF X4 hx hZ hown (host := "") (Or.inl (hw _ (List.mem_of_getElem? (i := 18) rfl))) Via.refl e4 F_a1_userName (g := (mkF m 24 #[rv a1, rv a2, rv a2] [(.ref a1)])) rfl rfl (hb hby d5_24)
    refine Go.st (f' := (mkF m 27 #[rv a1, rv a2, rv a2] [(.ref s1)])) (fun _ k => st6 _ k) ?_
    refine Go.st (f' := (mkF m 28 #[rv a1, rv a2, rv a2] [(.ref a2), (.ref s1)])) (fun _ k => XS.aloadN X6.here hx rfl (hb hby d5_27) rfl rfl k) ?_
    obtain ⟨T7, X7, e7, st7⟩ := getF X6 hx hZ hown (host := "") (Or.inl (hw _ (List.mem_of_getElem? (i := 18) rfl))) Via.refl e6 F_a2_userName (g := (mkF m 28 #[rv a1, rv a2, rv a2] [(.ref a2), (.ref s1)])) rfl rfl (hb hby d5_28)
    refine Go.st (f' := (mkF m 31 #[rv a1, rv a2, rv a2] [(.ref s2), (.ref s1)])) (fun _ k => st7 _ k) ?_
    obtain ⟨_, _, ⟨T8, L8, kk8, nn8⟩, -, X8, ⟨Lc8, hQ8, lq8, yq8, zz8⟩, st8⟩ := Jvm.LawKit.callS X7 hx (y := (⟨"java/util/Objects", "equals", "(Ljava/lang/Object;Ljava/lang/Object;)Z"⟩ : MethodName)) hown (mvT hZ (hw _ (List.mem_of_getElem? (i := 27) rfl))) (mvT hZ (hw _ (List.mem_of_getElem? (i := 28) rfl))) (mvT hZ (hw _ (List.mem_of_getElem? (i := 29) rfl))) (mvT hZ (hw _ (List.mem_of_getElem? (i := 30) rfl))) (by decide) (own_back (W := 0) (ob_22 l Z a0 hw [] s1 t1 k1 x0 x1 s2 t2 k2 y0 y1 i_COMPACT_STRINGS v_SIOOBE_FORMATTER h0 n0 O0 ne12 E_s1 F_s1_coder F_s1_value V_t1 E_s2 F_s2_coder F_s2_value V_t2 WW) hZ (hw _ (List.mem_of_getElem? (i := 30) rfl)) (hw _ (List.mem_of_getElem? (i := 29) rfl)) (by decide) (by decide)) (g := (mkF m 31 #[rv a1, rv a2, rv a2] [(.ref s2), (.ref s1)])) rfl (by rw [hml]; rfl) (argsL := [(.ref s1), (.ref s2)]) (rest := []) (lenOf pd__Ljava_lang_Object_Ljava_lang_Object__Z rfl) rfl (by show 2 * 0 + _ ≤ _; exact Nat.le_of_eq rfl) (hb hby d5_31) (fun _ _ => ⟨rfl, e7, (by decide : 0 + 0 ≤ _), (by decide : 0 + 0 ≤ _)⟩)
    dsimp only [Pt.U, Pt.locs, Pt.cells, Pt.slots] at X8 lq8 yq8 zz8 st8 hQ8
    subst lq8 yq8 zz8
    obtain ⟨rfl, Nq8, kq8⟩ := hQ8
    have N8 := Fr.app N0 Nq8
    refine Go.st (f' := (mkF m 34 #[rv a1, rv a2, rv a2] [(.int (obI_22 x0 x1 y0 y1))])) (fun _ k => st8 _ k) ?_
    by_cases cd9 : (obI_22 x0 x1 y0 y1) = (0 : Int32)
    · refine Go.st (f' := (mkF m 41 #[rv a1, rv a2, rv a2] [])) (fun _ k => XS.ifYes X8.here hx rfl (pc0 := 34) (pc' := 41) rfl (hb hby d5_34) rfl ((if0 _ _).trans (teq cd9).1) (by decide) (by decide) k) ?_
      refine Go.st (f' := (mkF m 42 #[rv a1, rv a2, rv a2] [(.int 0)])) (fun _ k => XS.iconst X8.here hx rfl (hb hby d5_41) k) ?_
      refine Go.retB X8 hlk hx (t := .boolean) hret (by simp) (hb hby d5_42) kq8 ?_ (by decide) (by decide)
      show (some (.int (0 : Int32)) : Option Value) = some (.int (ueI_22 i1 i2 x0 x1 y0 y1)) ∧ _
      exact ⟨by rw [ueI_22, if_pos cd5, if_pos cd9], N8, rfl⟩
    · refine Go.st (f' := (mkF m 37 #[rv a1, rv a2, rv a2] [])) (fun _ k => XS.ifNo X8.here hx rfl (hb hby d5_34) rfl ((if0 _ _).trans (feq cd9).1) k) ?_
      refine Go.st (f' := (mkF m 38 #[rv a1, rv a2, rv a2] [(.int 1)])) (fun _ k => XS.iconst X8.here hx rfl (hb hby d5_37) k) ?_
      refine Go.st (f' := (mkF m 42 #[rv a1, rv a2, rv a2] [(.int 1)])) (fun _ k => XS.goto X8.here hx rfl (pc0 := 38) (pc' := 42) rfl (hb hby d5_38) (by decide) (by decide) k) ?_
      refine Go.retB X8 hlk hx (t := .boolean) hret (by simp) (hb hby d5_42) kq8 ?_ (by decide) (by decide)
      show (some (.int (1 : Int32)) : Option Value) = some (.int (ueI_22 i1 i2 x0 x1 y0 y1)) ∧ _
      exact ⟨by rw [ueI_22, if_pos cd5, if_neg cd9], N8, rfl⟩
  · refine Go.st (f' := (mkF m 41 #[rv a1, rv a2, rv a2] [])) (fun _ k => XS.icmpYes X4.here hx rfl (pc0 := 20) (pc' := 41) rfl (hb hby d5_20) rfl (feq cd5).2 (by decide) (by decide) k) ?_
    refine Go.st (f' := (mkF m 42 #[rv a1, rv a2, rv a2] [(.int 0)])) (fun _ k => XS.iconst X4.here hx rfl (hb hby d5_41) k) ?_
    refine Go.retB X4 hlk hx (t := .boolean) hret (by simp) (hb hby d5_42) e4 ?_ (by decide) (by decide)
    show (some (.int (0 : Int32)) : Option Value) = some (.int (ueI_22 i1 i2 x0 x1 y0 y1)) ∧ _
    exact ⟨by rw [ueI_22, if_neg cd5], N0, rfl⟩
theorem an_NN (i1 i2 x1 y1 x2 y2 : Int32) (h1 : ¬ (255 : Int32) < x1 ∧ 0 ≤ x1.toInt) (h2 : ¬ (255 : Int32) < y1 ∧ 0 ≤ y1.toInt) (h3 : ¬ (255 : Int32) < x2 ∧ 0 ≤ x2.toInt) (h4 : ¬ (255 : Int32) < y2 ∧ 0 ≤ y2.toInt) : ueI_NN i1 i2  = ueI i1 i2 (0 : Int32) (0 : Int32) x1 y1 x2 y2 := by
  have d : (¬ (0 : Int32) = 1) ∧ (¬ (0 : Int32) = 2) ∧ (¬ (0 : Int32) = 3) ∧ (¬ (1 : Int32) = 0) ∧ (¬ (1 : Int32) = 2) ∧ (¬ (1 : Int32) = 3) ∧ (¬ (2 : Int32) = 0) ∧ (¬ (2 : Int32) = 1) ∧ (¬ (2 : Int32) = 3) ∧ (¬ (3 : Int32) = 0) ∧ (¬ (3 : Int32) = 1) ∧ (¬ (3 : Int32) = 2) ∧ ((0 : Int32) < 2) ∧ ((1 : Int32) < 2) ∧ (¬ (2 : Int32) < 2) ∧ (¬ (3 : Int32) < 2) ∧ ((0 : Int32) < 3) ∧ ((1 : Int32) < 3) ∧ ((2 : Int32) < 3) ∧ (¬ (3 : Int32) < 3) := by decide
  simp only [ueI_NN, obI_NN, ueI, own_lb h1 h3, own_lb h2 h4, d, false_and, and_false, true_and, and_true, true_or, or_true, false_or, or_false, eq_self, reduceIte]
  all_goals repeat' split
  all_goals first | rfl | (clear d h1 h2 h3 h4; simp_all)
theorem an_N0 (i1 i2 x1 y1 x2 y2 : Int32) (h1 : ¬ (255 : Int32) < x1 ∧ 0 ≤ x1.toInt) (h2 : ¬ (255 : Int32) < y1 ∧ 0 ≤ y1.toInt) (h3 : ¬ (255 : Int32) < x2 ∧ 0 ≤ x2.toInt) (h4 : ¬ (255 : Int32) < y2 ∧ 0 ≤ y2.toInt) : ueI_N0 i1 i2  = ueI i1 i2 (0 : Int32) (1 : Int32) x1 y1 x2 y2 := by
  have d : (¬ (0 : Int32) = 1) ∧ (¬ (0 : Int32) = 2) ∧ (¬ (0 : Int32) = 3) ∧ (¬ (1 : Int32) = 0) ∧ (¬ (1 : Int32) = 2) ∧ (¬ (1 : Int32) = 3) ∧ (¬ (2 : Int32) = 0) ∧ (¬ (2 : Int32) = 1) ∧ (¬ (2 : Int32) = 3) ∧ (¬ (3 : Int32) = 0) ∧ (¬ (3 : Int32) = 1) ∧ (¬ (3 : Int32) = 2) ∧ ((0 : Int32) < 2) ∧ ((1 : Int32) < 2) ∧ (¬ (2 : Int32) < 2) ∧ (¬ (3 : Int32) < 2) ∧ ((0 : Int32) < 3) ∧ ((1 : Int32) < 3) ∧ ((2 : Int32) < 3) ∧ (¬ (3 : Int32) < 3) := by decide
  simp only [ueI_N0, obI_N0, ueI, own_lb h1 h3, own_lb h2 h4, d, false_and, and_false, true_and, and_true, true_or, or_true, false_or, or_false, eq_self, reduceIte]
  all_goals repeat' split
  all_goals first | rfl | (clear d h1 h2 h3 h4; simp_all)
theorem an_N1 (i1 i2 x1 y1 x2 y2 : Int32) (h1 : ¬ (255 : Int32) < x1 ∧ 0 ≤ x1.toInt) (h2 : ¬ (255 : Int32) < y1 ∧ 0 ≤ y1.toInt) (h3 : ¬ (255 : Int32) < x2 ∧ 0 ≤ x2.toInt) (h4 : ¬ (255 : Int32) < y2 ∧ 0 ≤ y2.toInt) : ueI_N1 i1 i2 (nar .byte ((nar .char x2).toInt8.toInt32)) = ueI i1 i2 (0 : Int32) (2 : Int32) x1 y1 x2 y2 := by
  have d : (¬ (0 : Int32) = 1) ∧ (¬ (0 : Int32) = 2) ∧ (¬ (0 : Int32) = 3) ∧ (¬ (1 : Int32) = 0) ∧ (¬ (1 : Int32) = 2) ∧ (¬ (1 : Int32) = 3) ∧ (¬ (2 : Int32) = 0) ∧ (¬ (2 : Int32) = 1) ∧ (¬ (2 : Int32) = 3) ∧ (¬ (3 : Int32) = 0) ∧ (¬ (3 : Int32) = 1) ∧ (¬ (3 : Int32) = 2) ∧ ((0 : Int32) < 2) ∧ ((1 : Int32) < 2) ∧ (¬ (2 : Int32) < 2) ∧ (¬ (3 : Int32) < 2) ∧ ((0 : Int32) < 3) ∧ ((1 : Int32) < 3) ∧ ((2 : Int32) < 3) ∧ (¬ (3 : Int32) < 3) := by decide
  simp only [ueI_N1, obI_N1, ueI, own_lb h1 h3, own_lb h2 h4, d, false_and, and_false, true_and, and_true, true_or, or_true, false_or, or_false, eq_self, reduceIte]
  all_goals repeat' split
  all_goals first | rfl | (clear d h1 h2 h3 h4; simp_all)
theorem an_N2 (i1 i2 x1 y1 x2 y2 : Int32) (h1 : ¬ (255 : Int32) < x1 ∧ 0 ≤ x1.toInt) (h2 : ¬ (255 : Int32) < y1 ∧ 0 ≤ y1.toInt) (h3 : ¬ (255 : Int32) < x2 ∧ 0 ≤ x2.toInt) (h4 : ¬ (255 : Int32) < y2 ∧ 0 ≤ y2.toInt) : ueI_N2 i1 i2 (nar .byte ((nar .char x2).toInt8.toInt32)) (nar .byte ((nar .char y2).toInt8.toInt32)) = ueI i1 i2 (0 : Int32) (3 : Int32) x1 y1 x2 y2 := by
  have d : (¬ (0 : Int32) = 1) ∧ (¬ (0 : Int32) = 2) ∧ (¬ (0 : Int32) = 3) ∧ (¬ (1 : Int32) = 0) ∧ (¬ (1 : Int32) = 2) ∧ (¬ (1 : Int32) = 3) ∧ (¬ (2 : Int32) = 0) ∧ (¬ (2 : Int32) = 1) ∧ (¬ (2 : Int32) = 3) ∧ (¬ (3 : Int32) = 0) ∧ (¬ (3 : Int32) = 1) ∧ (¬ (3 : Int32) = 2) ∧ ((0 : Int32) < 2) ∧ ((1 : Int32) < 2) ∧ (¬ (2 : Int32) < 2) ∧ (¬ (3 : Int32) < 2) ∧ ((0 : Int32) < 3) ∧ ((1 : Int32) < 3) ∧ ((2 : Int32) < 3) ∧ (¬ (3 : Int32) < 3) := by decide
  simp only [ueI_N2, obI_N2, ueI, own_lb h1 h3, own_lb h2 h4, d, false_and, and_false, true_and, and_true, true_or, or_true, false_or, or_false, eq_self, reduceIte]
  all_goals repeat' split
  all_goals first | rfl | (clear d h1 h2 h3 h4; simp_all)
theorem an_0N (i1 i2 x1 y1 x2 y2 : Int32) (h1 : ¬ (255 : Int32) < x1 ∧ 0 ≤ x1.toInt) (h2 : ¬ (255 : Int32) < y1 ∧ 0 ≤ y1.toInt) (h3 : ¬ (255 : Int32) < x2 ∧ 0 ≤ x2.toInt) (h4 : ¬ (255 : Int32) < y2 ∧ 0 ≤ y2.toInt) : ueI_0N i1 i2  = ueI i1 i2 (1 : Int32) (0 : Int32) x1 y1 x2 y2 := by
  have d : (¬ (0 : Int32) = 1) ∧ (¬ (0 : Int32) = 2) ∧ (¬ (0 : Int32) = 3) ∧ (¬ (1 : Int32) = 0) ∧ (¬ (1 : Int32) = 2) ∧ (¬ (1 : Int32) = 3) ∧ (¬ (2 : Int32) = 0) ∧ (¬ (2 : Int32) = 1) ∧ (¬ (2 : Int32) = 3) ∧ (¬ (3 : Int32) = 0) ∧ (¬ (3 : Int32) = 1) ∧ (¬ (3 : Int32) = 2) ∧ ((0 : Int32) < 2) ∧ ((1 : Int32) < 2) ∧ (¬ (2 : Int32) < 2) ∧ (¬ (3 : Int32) < 2) ∧ ((0 : Int32) < 3) ∧ ((1 : Int32) < 3) ∧ ((2 : Int32) < 3) ∧ (¬ (3 : Int32) < 3) := by decide
  simp only [ueI_0N, obI_0N, ueI, own_lb h1 h3, own_lb h2 h4, d, false_and, and_false, true_and, and_true, true_or, or_true, false_or, or_false, eq_self, reduceIte]
  all_goals repeat' split
  all_goals first | rfl | (clear d h1 h2 h3 h4; simp_all)
theorem an_00 (i1 i2 x1 y1 x2 y2 : Int32) (h1 : ¬ (255 : Int32) < x1 ∧ 0 ≤ x1.toInt) (h2 : ¬ (255 : Int32) < y1 ∧ 0 ≤ y1.toInt) (h3 : ¬ (255 : Int32) < x2 ∧ 0 ≤ x2.toInt) (h4 : ¬ (255 : Int32) < y2 ∧ 0 ≤ y2.toInt) : ueI_00 i1 i2  = ueI i1 i2 (1 : Int32) (1 : Int32) x1 y1 x2 y2 := by
  have d : (¬ (0 : Int32) = 1) ∧ (¬ (0 : Int32) = 2) ∧ (¬ (0 : Int32) = 3) ∧ (¬ (1 : Int32) = 0) ∧ (¬ (1 : Int32) = 2) ∧ (¬ (1 : Int32) = 3) ∧ (¬ (2 : Int32) = 0) ∧ (¬ (2 : Int32) = 1) ∧ (¬ (2 : Int32) = 3) ∧ (¬ (3 : Int32) = 0) ∧ (¬ (3 : Int32) = 1) ∧ (¬ (3 : Int32) = 2) ∧ ((0 : Int32) < 2) ∧ ((1 : Int32) < 2) ∧ (¬ (2 : Int32) < 2) ∧ (¬ (3 : Int32) < 2) ∧ ((0 : Int32) < 3) ∧ ((1 : Int32) < 3) ∧ ((2 : Int32) < 3) ∧ (¬ (3 : Int32) < 3) := by decide
  simp only [ueI_00, obI_00, eqI_0_0, elI_0_0, ueI, own_lb h1 h3, own_lb h2 h4, d, false_and, and_false, true_and, and_true, true_or, or_true, false_or, or_false, eq_self, reduceIte]
  all_goals repeat' split
  all_goals first | rfl | (clear d h1 h2 h3 h4; simp_all)
theorem an_01 (i1 i2 x1 y1 x2 y2 : Int32) (h1 : ¬ (255 : Int32) < x1 ∧ 0 ≤ x1.toInt) (h2 : ¬ (255 : Int32) < y1 ∧ 0 ≤ y1.toInt) (h3 : ¬ (255 : Int32) < x2 ∧ 0 ≤ x2.toInt) (h4 : ¬ (255 : Int32) < y2 ∧ 0 ≤ y2.toInt) : ueI_01 i1 i2 (nar .byte ((nar .char x2).toInt8.toInt32)) = ueI i1 i2 (1 : Int32) (2 : Int32) x1 y1 x2 y2 := by
  have d : (¬ (0 : Int32) = 1) ∧ (¬ (0 : Int32) = 2) ∧ (¬ (0 : Int32) = 3) ∧ (¬ (1 : Int32) = 0) ∧ (¬ (1 : Int32) = 2) ∧ (¬ (1 : Int32) = 3) ∧ (¬ (2 : Int32) = 0) ∧ (¬ (2 : Int32) = 1) ∧ (¬ (2 : Int32) = 3) ∧ (¬ (3 : Int32) = 0) ∧ (¬ (3 : Int32) = 1) ∧ (¬ (3 : Int32) = 2) ∧ ((0 : Int32) < 2) ∧ ((1 : Int32) < 2) ∧ (¬ (2 : Int32) < 2) ∧ (¬ (3 : Int32) < 2) ∧ ((0 : Int32) < 3) ∧ ((1 : Int32) < 3) ∧ ((2 : Int32) < 3) ∧ (¬ (3 : Int32) < 3) := by decide
  simp only [ueI_01, obI_01, eqI_0_1, elI_0_1, ueI, own_lb h1 h3, own_lb h2 h4, d, false_and, and_false, true_and, and_true, true_or, or_true, false_or, or_false, eq_self, reduceIte]
  all_goals repeat' split
  all_goals first | rfl | (clear d h1 h2 h3 h4; simp_all)
theorem an_02 (i1 i2 x1 y1 x2 y2 : Int32) (h1 : ¬ (255 : Int32) < x1 ∧ 0 ≤ x1.toInt) (h2 : ¬ (255 : Int32) < y1 ∧ 0 ≤ y1.toInt) (h3 : ¬ (255 : Int32) < x2 ∧ 0 ≤ x2.toInt) (h4 : ¬ (255 : Int32) < y2 ∧ 0 ≤ y2.toInt) : ueI_02 i1 i2 (nar .byte ((nar .char x2).toInt8.toInt32)) (nar .byte ((nar .char y2).toInt8.toInt32)) = ueI i1 i2 (1 : Int32) (3 : Int32) x1 y1 x2 y2 := by
  have d : (¬ (0 : Int32) = 1) ∧ (¬ (0 : Int32) = 2) ∧ (¬ (0 : Int32) = 3) ∧ (¬ (1 : Int32) = 0) ∧ (¬ (1 : Int32) = 2) ∧ (¬ (1 : Int32) = 3) ∧ (¬ (2 : Int32) = 0) ∧ (¬ (2 : Int32) = 1) ∧ (¬ (2 : Int32) = 3) ∧ (¬ (3 : Int32) = 0) ∧ (¬ (3 : Int32) = 1) ∧ (¬ (3 : Int32) = 2) ∧ ((0 : Int32) < 2) ∧ ((1 : Int32) < 2) ∧ (¬ (2 : Int32) < 2) ∧ (¬ (3 : Int32) < 2) ∧ ((0 : Int32) < 3) ∧ ((1 : Int32) < 3) ∧ ((2 : Int32) < 3) ∧ (¬ (3 : Int32) < 3) := by decide
  simp only [ueI_02, obI_02, eqI_0_2, elI_0_2, ueI, own_lb h1 h3, own_lb h2 h4, d, false_and, and_false, true_and, and_true, true_or, or_true, false_or, or_false, eq_self, reduceIte]
  all_goals repeat' split
  all_goals first | rfl | (clear d h1 h2 h3 h4; simp_all)
theorem an_1N (i1 i2 x1 y1 x2 y2 : Int32) (h1 : ¬ (255 : Int32) < x1 ∧ 0 ≤ x1.toInt) (h2 : ¬ (255 : Int32) < y1 ∧ 0 ≤ y1.toInt) (h3 : ¬ (255 : Int32) < x2 ∧ 0 ≤ x2.toInt) (h4 : ¬ (255 : Int32) < y2 ∧ 0 ≤ y2.toInt) : ueI_1N i1 i2 (nar .byte ((nar .char x1).toInt8.toInt32)) = ueI i1 i2 (2 : Int32) (0 : Int32) x1 y1 x2 y2 := by
  have d : (¬ (0 : Int32) = 1) ∧ (¬ (0 : Int32) = 2) ∧ (¬ (0 : Int32) = 3) ∧ (¬ (1 : Int32) = 0) ∧ (¬ (1 : Int32) = 2) ∧ (¬ (1 : Int32) = 3) ∧ (¬ (2 : Int32) = 0) ∧ (¬ (2 : Int32) = 1) ∧ (¬ (2 : Int32) = 3) ∧ (¬ (3 : Int32) = 0) ∧ (¬ (3 : Int32) = 1) ∧ (¬ (3 : Int32) = 2) ∧ ((0 : Int32) < 2) ∧ ((1 : Int32) < 2) ∧ (¬ (2 : Int32) < 2) ∧ (¬ (3 : Int32) < 2) ∧ ((0 : Int32) < 3) ∧ ((1 : Int32) < 3) ∧ ((2 : Int32) < 3) ∧ (¬ (3 : Int32) < 3) := by decide
  simp only [ueI_1N, obI_1N, ueI, own_lb h1 h3, own_lb h2 h4, d, false_and, and_false, true_and, and_true, true_or, or_true, false_or, or_false, eq_self, reduceIte]
  all_goals repeat' split
  all_goals first | rfl | (clear d h1 h2 h3 h4; simp_all)
theorem an_10 (i1 i2 x1 y1 x2 y2 : Int32) (h1 : ¬ (255 : Int32) < x1 ∧ 0 ≤ x1.toInt) (h2 : ¬ (255 : Int32) < y1 ∧ 0 ≤ y1.toInt) (h3 : ¬ (255 : Int32) < x2 ∧ 0 ≤ x2.toInt) (h4 : ¬ (255 : Int32) < y2 ∧ 0 ≤ y2.toInt) : ueI_10 i1 i2 (nar .byte ((nar .char x1).toInt8.toInt32)) = ueI i1 i2 (2 : Int32) (1 : Int32) x1 y1 x2 y2 := by
  have d : (¬ (0 : Int32) = 1) ∧ (¬ (0 : Int32) = 2) ∧ (¬ (0 : Int32) = 3) ∧ (¬ (1 : Int32) = 0) ∧ (¬ (1 : Int32) = 2) ∧ (¬ (1 : Int32) = 3) ∧ (¬ (2 : Int32) = 0) ∧ (¬ (2 : Int32) = 1) ∧ (¬ (2 : Int32) = 3) ∧ (¬ (3 : Int32) = 0) ∧ (¬ (3 : Int32) = 1) ∧ (¬ (3 : Int32) = 2) ∧ ((0 : Int32) < 2) ∧ ((1 : Int32) < 2) ∧ (¬ (2 : Int32) < 2) ∧ (¬ (3 : Int32) < 2) ∧ ((0 : Int32) < 3) ∧ ((1 : Int32) < 3) ∧ ((2 : Int32) < 3) ∧ (¬ (3 : Int32) < 3) := by decide
  simp only [ueI_10, obI_10, eqI_1_0, elI_1_0, ueI, own_lb h1 h3, own_lb h2 h4, d, false_and, and_false, true_and, and_true, true_or, or_true, false_or, or_false, eq_self, reduceIte]
  all_goals repeat' split
  all_goals first | rfl | (clear d h1 h2 h3 h4; simp_all)
theorem an_11 (i1 i2 x1 y1 x2 y2 : Int32) (h1 : ¬ (255 : Int32) < x1 ∧ 0 ≤ x1.toInt) (h2 : ¬ (255 : Int32) < y1 ∧ 0 ≤ y1.toInt) (h3 : ¬ (255 : Int32) < x2 ∧ 0 ≤ x2.toInt) (h4 : ¬ (255 : Int32) < y2 ∧ 0 ≤ y2.toInt) : ueI_11 i1 i2 (nar .byte ((nar .char x1).toInt8.toInt32)) (nar .byte ((nar .char x2).toInt8.toInt32)) = ueI i1 i2 (2 : Int32) (2 : Int32) x1 y1 x2 y2 := by
  have d : (¬ (0 : Int32) = 1) ∧ (¬ (0 : Int32) = 2) ∧ (¬ (0 : Int32) = 3) ∧ (¬ (1 : Int32) = 0) ∧ (¬ (1 : Int32) = 2) ∧ (¬ (1 : Int32) = 3) ∧ (¬ (2 : Int32) = 0) ∧ (¬ (2 : Int32) = 1) ∧ (¬ (2 : Int32) = 3) ∧ (¬ (3 : Int32) = 0) ∧ (¬ (3 : Int32) = 1) ∧ (¬ (3 : Int32) = 2) ∧ ((0 : Int32) < 2) ∧ ((1 : Int32) < 2) ∧ (¬ (2 : Int32) < 2) ∧ (¬ (3 : Int32) < 2) ∧ ((0 : Int32) < 3) ∧ ((1 : Int32) < 3) ∧ ((2 : Int32) < 3) ∧ (¬ (3 : Int32) < 3) := by decide
  simp only [ueI_11, obI_11, eqI_1_1, elI_1_1, ueI, own_lb h1 h3, own_lb h2 h4, d, false_and, and_false, true_and, and_true, true_or, or_true, false_or, or_false, eq_self, reduceIte]
  all_goals repeat' split
  all_goals first | rfl | (clear d h1 h2 h3 h4; simp_all)
theorem an_12 (i1 i2 x1 y1 x2 y2 : Int32) (h1 : ¬ (255 : Int32) < x1 ∧ 0 ≤ x1.toInt) (h2 : ¬ (255 : Int32) < y1 ∧ 0 ≤ y1.toInt) (h3 : ¬ (255 : Int32) < x2 ∧ 0 ≤ x2.toInt) (h4 : ¬ (255 : Int32) < y2 ∧ 0 ≤ y2.toInt) : ueI_12 i1 i2 (nar .byte ((nar .char x1).toInt8.toInt32)) (nar .byte ((nar .char x2).toInt8.toInt32)) (nar .byte ((nar .char y2).toInt8.toInt32)) = ueI i1 i2 (2 : Int32) (3 : Int32) x1 y1 x2 y2 := by
  have d : (¬ (0 : Int32) = 1) ∧ (¬ (0 : Int32) = 2) ∧ (¬ (0 : Int32) = 3) ∧ (¬ (1 : Int32) = 0) ∧ (¬ (1 : Int32) = 2) ∧ (¬ (1 : Int32) = 3) ∧ (¬ (2 : Int32) = 0) ∧ (¬ (2 : Int32) = 1) ∧ (¬ (2 : Int32) = 3) ∧ (¬ (3 : Int32) = 0) ∧ (¬ (3 : Int32) = 1) ∧ (¬ (3 : Int32) = 2) ∧ ((0 : Int32) < 2) ∧ ((1 : Int32) < 2) ∧ (¬ (2 : Int32) < 2) ∧ (¬ (3 : Int32) < 2) ∧ ((0 : Int32) < 3) ∧ ((1 : Int32) < 3) ∧ ((2 : Int32) < 3) ∧ (¬ (3 : Int32) < 3) := by decide
  simp only [ueI_12, obI_12, eqI_1_2, elI_1_2, ueI, own_lb h1 h3, own_lb h2 h4, d, false_and, and_false, true_and, and_true, true_or, or_true, false_or, or_false, eq_self, reduceIte]
  all_goals repeat' split
  all_goals first | rfl | (clear d h1 h2 h3 h4; simp_all)
theorem an_2N (i1 i2 x1 y1 x2 y2 : Int32) (h1 : ¬ (255 : Int32) < x1 ∧ 0 ≤ x1.toInt) (h2 : ¬ (255 : Int32) < y1 ∧ 0 ≤ y1.toInt) (h3 : ¬ (255 : Int32) < x2 ∧ 0 ≤ x2.toInt) (h4 : ¬ (255 : Int32) < y2 ∧ 0 ≤ y2.toInt) : ueI_2N i1 i2 (nar .byte ((nar .char x1).toInt8.toInt32)) (nar .byte ((nar .char y1).toInt8.toInt32)) = ueI i1 i2 (3 : Int32) (0 : Int32) x1 y1 x2 y2 := by
  have d : (¬ (0 : Int32) = 1) ∧ (¬ (0 : Int32) = 2) ∧ (¬ (0 : Int32) = 3) ∧ (¬ (1 : Int32) = 0) ∧ (¬ (1 : Int32) = 2) ∧ (¬ (1 : Int32) = 3) ∧ (¬ (2 : Int32) = 0) ∧ (¬ (2 : Int32) = 1) ∧ (¬ (2 : Int32) = 3) ∧ (¬ (3 : Int32) = 0) ∧ (¬ (3 : Int32) = 1) ∧ (¬ (3 : Int32) = 2) ∧ ((0 : Int32) < 2) ∧ ((1 : Int32) < 2) ∧ (¬ (2 : Int32) < 2) ∧ (¬ (3 : Int32) < 2) ∧ ((0 : Int32) < 3) ∧ ((1 : Int32) < 3) ∧ ((2 : Int32) < 3) ∧ (¬ (3 : Int32) < 3) := by decide
  simp only [ueI_2N, obI_2N, ueI, own_lb h1 h3, own_lb h2 h4, d, false_and, and_false, true_and, and_true, true_or, or_true, false_or, or_false, eq_self, reduceIte]
  all_goals repeat' split
  all_goals first | rfl | (clear d h1 h2 h3 h4; simp_all)
theorem an_20 (i1 i2 x1 y1 x2 y2 : Int32) (h1 : ¬ (255 : Int32) < x1 ∧ 0 ≤ x1.toInt) (h2 : ¬ (255 : Int32) < y1 ∧ 0 ≤ y1.toInt) (h3 : ¬ (255 : Int32) < x2 ∧ 0 ≤ x2.toInt) (h4 : ¬ (255 : Int32) < y2 ∧ 0 ≤ y2.toInt) : ueI_20 i1 i2 (nar .byte ((nar .char x1).toInt8.toInt32)) (nar .byte ((nar .char y1).toInt8.toInt32)) = ueI i1 i2 (3 : Int32) (1 : Int32) x1 y1 x2 y2 := by
  have d : (¬ (0 : Int32) = 1) ∧ (¬ (0 : Int32) = 2) ∧ (¬ (0 : Int32) = 3) ∧ (¬ (1 : Int32) = 0) ∧ (¬ (1 : Int32) = 2) ∧ (¬ (1 : Int32) = 3) ∧ (¬ (2 : Int32) = 0) ∧ (¬ (2 : Int32) = 1) ∧ (¬ (2 : Int32) = 3) ∧ (¬ (3 : Int32) = 0) ∧ (¬ (3 : Int32) = 1) ∧ (¬ (3 : Int32) = 2) ∧ ((0 : Int32) < 2) ∧ ((1 : Int32) < 2) ∧ (¬ (2 : Int32) < 2) ∧ (¬ (3 : Int32) < 2) ∧ ((0 : Int32) < 3) ∧ ((1 : Int32) < 3) ∧ ((2 : Int32) < 3) ∧ (¬ (3 : Int32) < 3) := by decide
  simp only [ueI_20, obI_20, eqI_2_0, elI_2_0, ueI, own_lb h1 h3, own_lb h2 h4, d, false_and, and_false, true_and, and_true, true_or, or_true, false_or, or_false, eq_self, reduceIte]
  all_goals repeat' split
  all_goals first | rfl | (clear d h1 h2 h3 h4; simp_all)
theorem an_21 (i1 i2 x1 y1 x2 y2 : Int32) (h1 : ¬ (255 : Int32) < x1 ∧ 0 ≤ x1.toInt) (h2 : ¬ (255 : Int32) < y1 ∧ 0 ≤ y1.toInt) (h3 : ¬ (255 : Int32) < x2 ∧ 0 ≤ x2.toInt) (h4 : ¬ (255 : Int32) < y2 ∧ 0 ≤ y2.toInt) : ueI_21 i1 i2 (nar .byte ((nar .char x1).toInt8.toInt32)) (nar .byte ((nar .char y1).toInt8.toInt32)) (nar .byte ((nar .char x2).toInt8.toInt32)) = ueI i1 i2 (3 : Int32) (2 : Int32) x1 y1 x2 y2 := by
  have d : (¬ (0 : Int32) = 1) ∧ (¬ (0 : Int32) = 2) ∧ (¬ (0 : Int32) = 3) ∧ (¬ (1 : Int32) = 0) ∧ (¬ (1 : Int32) = 2) ∧ (¬ (1 : Int32) = 3) ∧ (¬ (2 : Int32) = 0) ∧ (¬ (2 : Int32) = 1) ∧ (¬ (2 : Int32) = 3) ∧ (¬ (3 : Int32) = 0) ∧ (¬ (3 : Int32) = 1) ∧ (¬ (3 : Int32) = 2) ∧ ((0 : Int32) < 2) ∧ ((1 : Int32) < 2) ∧ (¬ (2 : Int32) < 2) ∧ (¬ (3 : Int32) < 2) ∧ ((0 : Int32) < 3) ∧ ((1 : Int32) < 3) ∧ ((2 : Int32) < 3) ∧ (¬ (3 : Int32) < 3) := by decide
  simp only [ueI_21, obI_21, eqI_2_1, elI_2_1, ueI, own_lb h1 h3, own_lb h2 h4, d, false_and, and_false, true_and, and_true, true_or, or_true, false_or, or_false, eq_self, reduceIte]
  all_goals repeat' split
  all_goals first | rfl | (clear d h1 h2 h3 h4; simp_all)
theorem an_22 (i1 i2 x1 y1 x2 y2 : Int32) (h1 : ¬ (255 : Int32) < x1 ∧ 0 ≤ x1.toInt) (h2 : ¬ (255 : Int32) < y1 ∧ 0 ≤ y1.toInt) (h3 : ¬ (255 : Int32) < x2 ∧ 0 ≤ x2.toInt) (h4 : ¬ (255 : Int32) < y2 ∧ 0 ≤ y2.toInt) : ueI_22 i1 i2 (nar .byte ((nar .char x1).toInt8.toInt32)) (nar .byte ((nar .char y1).toInt8.toInt32)) (nar .byte ((nar .char x2).toInt8.toInt32)) (nar .byte ((nar .char y2).toInt8.toInt32)) = ueI i1 i2 (3 : Int32) (3 : Int32) x1 y1 x2 y2 := by
  have d : (¬ (0 : Int32) = 1) ∧ (¬ (0 : Int32) = 2) ∧ (¬ (0 : Int32) = 3) ∧ (¬ (1 : Int32) = 0) ∧ (¬ (1 : Int32) = 2) ∧ (¬ (1 : Int32) = 3) ∧ (¬ (2 : Int32) = 0) ∧ (¬ (2 : Int32) = 1) ∧ (¬ (2 : Int32) = 3) ∧ (¬ (3 : Int32) = 0) ∧ (¬ (3 : Int32) = 1) ∧ (¬ (3 : Int32) = 2) ∧ ((0 : Int32) < 2) ∧ ((1 : Int32) < 2) ∧ (¬ (2 : Int32) < 2) ∧ (¬ (3 : Int32) < 2) ∧ ((0 : Int32) < 3) ∧ ((1 : Int32) < 3) ∧ ((2 : Int32) < 3) ∧ (¬ (3 : Int32) < 3) := by decide
  simp only [ueI_22, obI_22, eqI_2_2, elI_2_2, ueI, own_lb h1 h3, own_lb h2 h4, d, false_and, and_false, true_and, and_true, true_or, or_true, false_or, or_false, eq_self, reduceIte]
  all_goals repeat' split
  all_goals first | rfl | (clear d h1 h2 h3 h4; simp_all)
theorem rmUE (l : Launch) (Z : State) (a0 : Array Value) (hw : ∀ d ∈ tables_1, d.before a0 Z = true) (ws : List Jvm.Cond) (a1 : Addr) (a2 : Addr) (i1 : Int32) (i2 : Int32) (n1 : Value) (n2 : Value) (m1 : Int32) (x1 : Int32) (y1 : Int32) (m2 : Int32) (x2 : Int32) (y2 : Int32) (i_COMPACT_STRINGS : Int32) (v_SIOOBE_FORMATTER : Value) (h0 : Heap) (n0 : Nat) (O0 : Old Z n0 h0) (E_a1 : Exa Z h0 a1 "com/example/wirecall/wirecall/demo/User") (F_a1_userId : Fld Z h0 a1 "com/example/wirecall/wirecall/demo/User" "userId" "I" (.int i1)) (F_a1_userName : Fld Z h0 a1 "com/example/wirecall/wirecall/demo/User" "userName" "Ljava/lang/String;" n1) (E_a2 : Exa Z h0 a2 "com/example/wirecall/wirecall/demo/User") (F_a2_userId : Fld Z h0 a2 "com/example/wirecall/wirecall/demo/User" "userId" "I" (.int i2)) (F_a2_userName : Fld Z h0 a2 "com/example/wirecall/wirecall/demo/User" "userName" "Ljava/lang/String;" n2) (N1 : Nm Z h0 n1 m1 x1 y1) (N2 : Nm Z h0 n2 m2 x2 y2) (D12 : Dn n1 n2) (h1 : ¬ (255 : Int32) < x1 ∧ 0 ≤ x1.toInt) (h2 : ¬ (255 : Int32) < y1 ∧ 0 ≤ y1.toInt) (h3 : ¬ (255 : Int32) < x2 ∧ 0 ≤ x2.toInt) (h4 : ¬ (255 : Int32) < y2 ∧ 0 ≤ y2.toInt) (WW : World1 Z i_COMPACT_STRINGS v_SIOOBE_FORMATTER) :
    Con l Z (⟨"com/example/wirecall/wirecall/demo/User", "equals", "(Ljava/lang/Object;)Z"⟩ : MethodName) prog_20_method_5_code 3 (some .boolean) ws ({ frames := 3, cells := 0, slots := 0, locals := 41 } : Room) #[(.ref a1), (.ref a2)] h0 (fun v h L => v = some (.int (ueI i1 i2 m1 m2 x1 y1 x2 y2)) ∧ Fr n0 L ∧ h = h0) := by
  rcases N1 with ⟨rfl, rfl⟩ | ⟨rfl, s1, rfl, e1, c1, t1, k1, f1, v1⟩ | ⟨rfl, s1, rfl, e1, c1, t1, k1, f1, v1⟩ | ⟨rfl, s1, rfl, e1, c1, t1, k1, f1, v1⟩
  · rcases N2 with ⟨rfl, rfl⟩ | ⟨rfl, s2, rfl, e2, c2, t2, k2, f2, v2⟩ | ⟨rfl, s2, rfl, e2, c2, t2, k2, f2, v2⟩ | ⟨rfl, s2, rfl, e2, c2, t2, k2, f2, v2⟩
    · exact Con.weaken (ue_NN l Z a0 hw ws a1 a2 i1 i2   i_COMPACT_STRINGS v_SIOOBE_FORMATTER h0 n0 O0 E_a1 F_a1_userId F_a1_userName E_a2 F_a2_userId F_a2_userName    WW) (fun _ _ _ z => ⟨z.1.trans (congrArg (fun q => some (Value.int q)) (an_NN i1 i2 x1 y1 x2 y2 h1 h2 h3 h4)), z.2⟩)
    · exact Con.weaken (ue_N0 l Z a0 hw ws a1 a2 i1 i2  s2 t2 k2 i_COMPACT_STRINGS v_SIOOBE_FORMATTER h0 n0 O0 E_a1 F_a1_userId F_a1_userName E_a2 F_a2_userId F_a2_userName   e2 c2 f2 v2 WW) (fun _ _ _ z => ⟨z.1.trans (congrArg (fun q => some (Value.int q)) (an_N0 i1 i2 x1 y1 x2 y2 h1 h2 h3 h4)), z.2⟩)
    · exact Con.weaken (ue_N1 l Z a0 hw ws a1 a2 i1 i2  s2 t2 k2 _ i_COMPACT_STRINGS v_SIOOBE_FORMATTER h0 n0 O0 E_a1 F_a1_userId F_a1_userName E_a2 F_a2_userId F_a2_userName   e2 c2 f2 v2 WW) (fun _ _ _ z => ⟨z.1.trans (congrArg (fun q => some (Value.int q)) (an_N1 i1 i2 x1 y1 x2 y2 h1 h2 h3 h4)), z.2⟩)
    · exact Con.weaken (ue_N2 l Z a0 hw ws a1 a2 i1 i2  s2 t2 k2 _ _ i_COMPACT_STRINGS v_SIOOBE_FORMATTER h0 n0 O0 E_a1 F_a1_userId F_a1_userName E_a2 F_a2_userId F_a2_userName   e2 c2 f2 v2 WW) (fun _ _ _ z => ⟨z.1.trans (congrArg (fun q => some (Value.int q)) (an_N2 i1 i2 x1 y1 x2 y2 h1 h2 h3 h4)), z.2⟩)
  · rcases N2 with ⟨rfl, rfl⟩ | ⟨rfl, s2, rfl, e2, c2, t2, k2, f2, v2⟩ | ⟨rfl, s2, rfl, e2, c2, t2, k2, f2, v2⟩ | ⟨rfl, s2, rfl, e2, c2, t2, k2, f2, v2⟩
    · exact Con.weaken (ue_0N l Z a0 hw ws a1 a2 i1 i2 s1 t1 k1  i_COMPACT_STRINGS v_SIOOBE_FORMATTER h0 n0 O0 E_a1 F_a1_userId F_a1_userName E_a2 F_a2_userId F_a2_userName  e1 c1 f1 v1  WW) (fun _ _ _ z => ⟨z.1.trans (congrArg (fun q => some (Value.int q)) (an_0N i1 i2 x1 y1 x2 y2 h1 h2 h3 h4)), z.2⟩)
    · exact Con.weaken (ue_00 l Z a0 hw ws a1 a2 i1 i2 s1 t1 k1 s2 t2 k2 i_COMPACT_STRINGS v_SIOOBE_FORMATTER h0 n0 O0 E_a1 F_a1_userId F_a1_userName E_a2 F_a2_userId F_a2_userName (D12 _ _ rfl rfl) e1 c1 f1 v1 e2 c2 f2 v2 WW) (fun _ _ _ z => ⟨z.1.trans (congrArg (fun q => some (Value.int q)) (an_00 i1 i2 x1 y1 x2 y2 h1 h2 h3 h4)), z.2⟩)
    · exact Con.weaken (ue_01 l Z a0 hw ws a1 a2 i1 i2 s1 t1 k1 s2 t2 k2 _ i_COMPACT_STRINGS v_SIOOBE_FORMATTER h0 n0 O0 E_a1 F_a1_userId F_a1_userName E_a2 F_a2_userId F_a2_userName (D12 _ _ rfl rfl) e1 c1 f1 v1 e2 c2 f2 v2 WW) (fun _ _ _ z => ⟨z.1.trans (congrArg (fun q => some (Value.int q)) (an_01 i1 i2 x1 y1 x2 y2 h1 h2 h3 h4)), z.2⟩)
    · exact Con.weaken (ue_02 l Z a0 hw ws a1 a2 i1 i2 s1 t1 k1 s2 t2 k2 _ _ i_COMPACT_STRINGS v_SIOOBE_FORMATTER h0 n0 O0 E_a1 F_a1_userId F_a1_userName E_a2 F_a2_userId F_a2_userName (D12 _ _ rfl rfl) e1 c1 f1 v1 e2 c2 f2 v2 WW) (fun _ _ _ z => ⟨z.1.trans (congrArg (fun q => some (Value.int q)) (an_02 i1 i2 x1 y1 x2 y2 h1 h2 h3 h4)), z.2⟩)
  · rcases N2 with ⟨rfl, rfl⟩ | ⟨rfl, s2, rfl, e2, c2, t2, k2, f2, v2⟩ | ⟨rfl, s2, rfl, e2, c2, t2, k2, f2, v2⟩ | ⟨rfl, s2, rfl, e2, c2, t2, k2, f2, v2⟩
    · exact Con.weaken (ue_1N l Z a0 hw ws a1 a2 i1 i2 s1 t1 k1 _  i_COMPACT_STRINGS v_SIOOBE_FORMATTER h0 n0 O0 E_a1 F_a1_userId F_a1_userName E_a2 F_a2_userId F_a2_userName  e1 c1 f1 v1  WW) (fun _ _ _ z => ⟨z.1.trans (congrArg (fun q => some (Value.int q)) (an_1N i1 i2 x1 y1 x2 y2 h1 h2 h3 h4)), z.2⟩)
    · exact Con.weaken (ue_10 l Z a0 hw ws a1 a2 i1 i2 s1 t1 k1 _ s2 t2 k2 i_COMPACT_STRINGS v_SIOOBE_FORMATTER h0 n0 O0 E_a1 F_a1_userId F_a1_userName E_a2 F_a2_userId F_a2_userName (D12 _ _ rfl rfl) e1 c1 f1 v1 e2 c2 f2 v2 WW) (fun _ _ _ z => ⟨z.1.trans (congrArg (fun q => some (Value.int q)) (an_10 i1 i2 x1 y1 x2 y2 h1 h2 h3 h4)), z.2⟩)
    · exact Con.weaken (ue_11 l Z a0 hw ws a1 a2 i1 i2 s1 t1 k1 _ s2 t2 k2 _ i_COMPACT_STRINGS v_SIOOBE_FORMATTER h0 n0 O0 E_a1 F_a1_userId F_a1_userName E_a2 F_a2_userId F_a2_userName (D12 _ _ rfl rfl) e1 c1 f1 v1 e2 c2 f2 v2 WW) (fun _ _ _ z => ⟨z.1.trans (congrArg (fun q => some (Value.int q)) (an_11 i1 i2 x1 y1 x2 y2 h1 h2 h3 h4)), z.2⟩)
    · exact Con.weaken (ue_12 l Z a0 hw ws a1 a2 i1 i2 s1 t1 k1 _ s2 t2 k2 _ _ i_COMPACT_STRINGS v_SIOOBE_FORMATTER h0 n0 O0 E_a1 F_a1_userId F_a1_userName E_a2 F_a2_userId F_a2_userName (D12 _ _ rfl rfl) e1 c1 f1 v1 e2 c2 f2 v2 WW) (fun _ _ _ z => ⟨z.1.trans (congrArg (fun q => some (Value.int q)) (an_12 i1 i2 x1 y1 x2 y2 h1 h2 h3 h4)), z.2⟩)
  · rcases N2 with ⟨rfl, rfl⟩ | ⟨rfl, s2, rfl, e2, c2, t2, k2, f2, v2⟩ | ⟨rfl, s2, rfl, e2, c2, t2, k2, f2, v2⟩ | ⟨rfl, s2, rfl, e2, c2, t2, k2, f2, v2⟩
    · exact Con.weaken (ue_2N l Z a0 hw ws a1 a2 i1 i2 s1 t1 k1 _ _  i_COMPACT_STRINGS v_SIOOBE_FORMATTER h0 n0 O0 E_a1 F_a1_userId F_a1_userName E_a2 F_a2_userId F_a2_userName  e1 c1 f1 v1  WW) (fun _ _ _ z => ⟨z.1.trans (congrArg (fun q => some (Value.int q)) (an_2N i1 i2 x1 y1 x2 y2 h1 h2 h3 h4)), z.2⟩)
    · exact Con.weaken (ue_20 l Z a0 hw ws a1 a2 i1 i2 s1 t1 k1 _ _ s2 t2 k2 i_COMPACT_STRINGS v_SIOOBE_FORMATTER h0 n0 O0 E_a1 F_a1_userId F_a1_userName E_a2 F_a2_userId F_a2_userName (D12 _ _ rfl rfl) e1 c1 f1 v1 e2 c2 f2 v2 WW) (fun _ _ _ z => ⟨z.1.trans (congrArg (fun q => some (Value.int q)) (an_20 i1 i2 x1 y1 x2 y2 h1 h2 h3 h4)), z.2⟩)
    · exact Con.weaken (ue_21 l Z a0 hw ws a1 a2 i1 i2 s1 t1 k1 _ _ s2 t2 k2 _ i_COMPACT_STRINGS v_SIOOBE_FORMATTER h0 n0 O0 E_a1 F_a1_userId F_a1_userName E_a2 F_a2_userId F_a2_userName (D12 _ _ rfl rfl) e1 c1 f1 v1 e2 c2 f2 v2 WW) (fun _ _ _ z => ⟨z.1.trans (congrArg (fun q => some (Value.int q)) (an_21 i1 i2 x1 y1 x2 y2 h1 h2 h3 h4)), z.2⟩)
    · exact Con.weaken (ue_22 l Z a0 hw ws a1 a2 i1 i2 s1 t1 k1 _ _ s2 t2 k2 _ _ i_COMPACT_STRINGS v_SIOOBE_FORMATTER h0 n0 O0 E_a1 F_a1_userId F_a1_userName E_a2 F_a2_userId F_a2_userName (D12 _ _ rfl rfl) e1 c1 f1 v1 e2 c2 f2 v2 WW) (fun _ _ _ z => ⟨z.1.trans (congrArg (fun q => some (Value.int q)) (an_22 i1 i2 x1 y1 x2 y2 h1 h2 h3 h4)), z.2⟩)
set_option maxRecDepth 65536 in
set_option maxHeartbeats 40000000 in
theorem ue_null (l : Launch) (Z : State) (a0 : Array Value) (hw : ∀ d ∈ tables_1, d.before a0 Z = true) (ws : List Jvm.Cond) (a1 : Addr) (h0 : Heap) (n0 : Nat) (O0 : Old Z n0 h0)  :
    Con l Z (⟨"com/example/wirecall/wirecall/demo/User", "equals", "(Ljava/lang/Object;)Z"⟩ : MethodName) prog_20_method_5_code 3 (some .boolean) ws ({ frames := 0, cells := 0, slots := 0, locals := 0 } : Room) #[(.ref a1), .null] h0 (fun v h L => v = some (.int 0) ∧ Fr n0 L ∧ h = h0) := by
  refine own_body (plainFor_of_name pn_com_example_wirecall_wirecall_demo_User) ?_
  intro p e s m below meth c s₁ hx hby hml hZ hown hnm hlk hret X0 e0
  have N0 := Fr.nil n0
  refine Go.st (T' := s₁) (f' := (mkF m 0 #[rv a1, .val .null, .unset] [])) (fun _ k => castTop (by first | (simp [entryFrame, mkF, argsToLocals, Value.category]; done) | rfl) k) ?_
  refine Go.st (f' := (mkF m 1 #[rv a1, .val .null, .unset] [.null])) (fun _ k => XS.aloadN X0.here hx rfl (hb hby d5_0) rfl rfl k) ?_
  refine Go.st (f' := (mkF m 4 #[rv a1, .val .null, .unset] [(.int 0)])) (fun _ k => X0.instanceofNull hx (g := (mkF m 1 #[rv a1, .val .null, .unset] [.null])) rfl rfl (hb hby d5_1) _ k) ?_
  refine Go.st (f' := (mkF m 41 #[rv a1, .val .null, .unset] [])) (fun _ k => XS.ifYes X0.here hx rfl (pc0 := 4) (pc' := 41) rfl (hb hby d5_4) rfl (by decide) (by decide) (by decide) k) ?_
  refine Go.st (f' := (mkF m 42 #[rv a1, .val .null, .unset] [(.int 0)])) (fun _ k => XS.iconst X0.here hx rfl (hb hby d5_41) k) ?_
  refine Go.retB X0 hlk hx (t := .boolean) hret (by simp) (hb hby d5_42) e0 ?_ (by decide) (by decide)
  exact ⟨rfl, N0, rfl⟩
set_option maxRecDepth 65536 in
set_option maxHeartbeats 40000000 in
theorem ue_str (l : Launch) (Z : State) (a0 : Array Value) (hw : ∀ d ∈ tables_1, d.before a0 Z = true) (ws : List Jvm.Cond) (a1 : Addr) (a2 : Addr) (h0 : Heap) (n0 : Nat) (O0 : Old Z n0 h0) (E_a2 : Exa Z h0 a2 "java/lang/String") :
    Con l Z (⟨"com/example/wirecall/wirecall/demo/User", "equals", "(Ljava/lang/Object;)Z"⟩ : MethodName) prog_20_method_5_code 3 (some .boolean) ws ({ frames := 0, cells := 0, slots := 0, locals := 0 } : Room) #[(.ref a1), (.ref a2)] h0 (fun v h L => v = some (.int 0) ∧ Fr n0 L ∧ h = h0) := by
  refine own_body (plainFor_of_name pn_com_example_wirecall_wirecall_demo_User) ?_
  intro p e s m below meth c s₁ hx hby hml hZ hown hnm hlk hret X0 e0
  have N0 := Fr.nil n0
  refine Go.st (T' := s₁) (f' := (mkF m 0 #[rv a1, rv a2, .unset] [])) (fun _ k => castTop (by first | (simp [entryFrame, mkF, argsToLocals, Value.category]; done) | rfl) k) ?_
  refine Go.st (f' := (mkF m 1 #[rv a1, rv a2, .unset] [(.ref a2)])) (fun _ k => XS.aloadN X0.here hx rfl (hb hby d5_0) rfl rfl k) ?_
  obtain ⟨T1, X1, e1, st1⟩ := instNo X0 hx hZ hown (hw _ (List.mem_of_getElem? (i := 25) rfl)) e0 E_a2 (own_no (hw _ (List.mem_of_getElem? (i := 75) rfl)) (hw _ (List.mem_of_getElem? (i := 76) rfl)) (hw _ (List.mem_of_getElem? (i := 1) rfl)) (by decide) (by decide)) (g := (mkF m 1 #[rv a1, rv a2, .unset] [(.ref a2)])) rfl rfl (hb hby d5_1)
  refine Go.st (f' := (mkF m 4 #[rv a1, rv a2, .unset] [(.int 0)])) (fun _ k => st1 _ k) ?_
  refine Go.st (f' := (mkF m 41 #[rv a1, rv a2, .unset] [])) (fun _ k => XS.ifYes X1.here hx rfl (pc0 := 4) (pc' := 41) rfl (hb hby d5_4) rfl (by decide) (by decide) (by decide) k) ?_
  refine Go.st (f' := (mkF m 42 #[rv a1, rv a2, .unset] [(.int 0)])) (fun _ k => XS.iconst X1.here hx rfl (hb hby d5_41) k) ?_
  refine Go.retB X1 hlk hx (t := .boolean) hret (by simp) (hb hby d5_42) e1 ?_ (by decide) (by decide)
  exact ⟨rfl, N0, rfl⟩
set_option maxRecDepth 65536 in
set_option maxHeartbeats 40000000 in
theorem ob_self1 (l : Launch) (Z : State) (a0 : Array Value) (hw : ∀ d ∈ tables_1, d.before a0 Z = true) (ws : List Jvm.Cond)  (h0 : Heap) (n0 : Nat) (O0 : Old Z n0 h0)  :
    Con l Z (⟨"java/util/Objects", "equals", "(Ljava/lang/Object;Ljava/lang/Object;)Z"⟩ : MethodName) jdk_31_method_2_code 2 (some .boolean) ws ({ frames := 0, cells := 0, slots := 0, locals := 0 } : Room) #[.null, .null] h0 (fun v h L => v = some (.int 1) ∧ Fr n0 L ∧ h = h0) := by
  refine own_body (plainFor_of_name pn_java_util_Objects) ?_
  intro p e s m below meth c s₁ hx hby hml hZ hown hnm hlk hret X0 e0
  have N0 := Fr.nil n0
  refine Go.st (T' := s₁) (f' := (mkF m 0 #[.val .null, .val .null] [])) (fun _ k => castTop (by first | (simp [entryFrame, mkF, argsToLocals, Value.category]; done) | rfl) k) ?_
  refine Go.st (f' := (mkF m 1 #[.val .null, .val .null] [.null])) (fun _ k => XS.aloadN X0.here hx rfl (hb hby d6_0) rfl rfl k) ?_
  refine Go.st (f' := (mkF m 2 #[.val .null, .val .null] [.null, .null])) (fun _ k => XS.aloadN X0.here hx rfl (hb hby d6_1) rfl rfl k) ?_
  refine Go.st (f' := (mkF m 17 #[.val .null, .val .null] [])) (fun _ k => Jvm.RoadKit.acmp (g := (mkF m 2 #[.val .null, .val .null] [.null, .null])) X0 hx rfl rfl rfl (pc0 := 2) (pc' := 17) (same := true) rfl (hb hby d6_2) rfl (decide_eq_true rfl) (by decide) (by decide) k) ?_
  refine Go.st (f' := (mkF m 18 #[.val .null, .val .null] [(.int 1)])) (fun _ k => XS.iconst X0.here hx rfl (hb hby d6_17) k) ?_
  refine Go.st (f' := (mkF m 22 #[.val .null, .val .null] [(.int 1)])) (fun _ k => XS.goto X0.here hx rfl (pc0 := 18) (pc' := 22) rfl (hb hby d6_18) (by decide) (by decide) k) ?_
  refine Go.retB X0 hlk hx (t := .boolean) hret (by simp) (hb hby d6_22) e0 ?_ (by decide) (by decide)
  exact ⟨rfl, N0, rfl⟩
set_option maxRecDepth 65536 in
set_option maxHeartbeats 40000000 in
theorem ob_self0 (l : Launch) (Z : State) (a0 : Array Value) (hw : ∀ d ∈ tables_1, d.before a0 Z = true) (ws : List Jvm.Cond) (s1 : Addr) (h0 : Heap) (n0 : Nat) (O0 : Old Z n0 h0)  :
    Con l Z (⟨"java/util/Objects", "equals", "(Ljava/lang/Object;Ljava/lang/Object;)Z"⟩ : MethodName) jdk_31_method_2_code 2 (some .boolean) ws ({ frames := 0, cells := 0, slots := 0, locals := 0 } : Room) #[(.ref s1), (.ref s1)] h0 (fun v h L => v = some (.int 1) ∧ Fr n0 L ∧ h = h0) := by
  refine own_body (plainFor_of_name pn_java_util_Objects) ?_
  intro p e s m below meth c s₁ hx hby hml hZ hown hnm hlk hret X0 e0
  have N0 := Fr.nil n0
  refine Go.st (T' := s₁) (f' := (mkF m 0 #[rv s1, rv s1] [])) (fun _ k => castTop (by first | (simp [entryFrame, mkF, argsToLocals, Value.category]; done) | rfl) k) ?_
  refine Go.st (f' := (mkF m 1 #[rv s1, rv s1] [(.ref s1)])) (fun _ k => XS.aloadN X0.here hx rfl (hb hby d6_0) rfl rfl k) ?_
  refine Go.st (f' := (mkF m 2 #[rv s1, rv s1] [(.ref s1), (.ref s1)])) (fun _ k => XS.aloadN X0.here hx rfl (hb hby d6_1) rfl rfl k) ?_
  refine Go.st (f' := (mkF m 17 #[rv s1, rv s1] [])) (fun _ k => Jvm.RoadKit.acmp (g := (mkF m 2 #[rv s1, rv s1] [(.ref s1), (.ref s1)])) X0 hx rfl rfl rfl (pc0 := 2) (pc' := 17) (same := true) rfl (hb hby d6_2) rfl (decide_eq_true rfl) (by decide) (by decide) k) ?_
  refine Go.st (f' := (mkF m 18 #[rv s1, rv s1] [(.int 1)])) (fun _ k => XS.iconst X0.here hx rfl (hb hby d6_17) k) ?_
  refine Go.st (f' := (mkF m 22 #[rv s1, rv s1] [(.int 1)])) (fun _ k => XS.goto X0.here hx rfl (pc0 := 18) (pc' := 22) rfl (hb hby d6_18) (by decide) (by decide) k) ?_
  refine Go.retB X0 hlk hx (t := .boolean) hret (by simp) (hb hby d6_22) e0 ?_ (by decide) (by decide)
  exact ⟨rfl, N0, rfl⟩
set_option maxRecDepth 65536 in
set_option maxHeartbeats 40000000 in
theorem ue_self1 (l : Launch) (Z : State) (a0 : Array Value) (hw : ∀ d ∈ tables_1, d.before a0 Z = true) (ws : List Jvm.Cond) (a1 : Addr) (i1 : Int32) (h0 : Heap) (n0 : Nat) (O0 : Old Z n0 h0) (E_a1 : Exa Z h0 a1 "com/example/wirecall/wirecall/demo/User") (F_a1_userId : Fld Z h0 a1 "com/example/wirecall/wirecall/demo/User" "userId" "I" (.int i1)) (F_a1_userName : Fld Z h0 a1 "com/example/wirecall/wirecall/demo/User" "userName" "Ljava/lang/String;" .null) :
    Con l Z (⟨"com/example/wirecall/wirecall/demo/User", "equals", "(Ljava/lang/Object;)Z"⟩ : MethodName) prog_20_method_5_code 3 (some .boolean) ws ({ frames := 1, cells := 0, slots := 0, locals := 13 } : Room) #[(.ref a1), (.ref a1)] h0 (fun v h L => v = some (.int 1) ∧ Fr n0 L ∧ h = h0) := by
  refine own_body (plainFor_of_name pn_com_example_wirecall_wirecall_demo_User) ?_
  intro p e s m below meth c s₁ hx hby hml hZ hown hnm hlk hret X0 e0
  have N0 := Fr.nil n0
  refine Go.st (T' := s₁) (f' := (mkF m 0 #[rv a1, rv a1, .unset] [])) (fun _ k => castTop (by first | (simp [entryFrame, mkF, argsToLocals, Value.category]; done) | rfl) k) ?_
  have lt_a1 := E_a1.lt
  refine Go.st (f' := (mkF m 1 #[rv a1, rv a1, .unset] [(.ref a1)])) (fun _ k => XS.aloadN X0.here hx rfl (hb hby d5_0) rfl rfl k) ?_
  obtain ⟨T1, X1, e1, st1⟩ := instY X0 hx hZ hown (hw _ (List.mem_of_getElem? (i := 25) rfl)) e0 (Ins.self E_a1) (g := (mkF m 1 #[rv a1, rv a1, .unset] [(.ref a1)])) rfl rfl (hb hby d5_1)
  refine Go.st (f' := (mkF m 4 #[rv a1, rv a1, .unset] [(.int 1)])) (fun _ k => st1 _ k) ?_
  refine Go.st (f' := (mkF m 7 #[rv a1, rv a1, .unset] [])) (fun _ k => XS.ifNo X1.here hx rfl (hb hby d5_4) rfl (by decide) k) ?_
  refine Go.st (f' := (mkF m 8 #[rv a1, rv a1, .unset] [(.ref a1)])) (fun _ k => XS.aloadN X1.here hx rfl (hb hby d5_7) rfl rfl k) ?_
  obtain ⟨T2, X2, e2, st2⟩ := castY X1 hx hZ hown (hw _ (List.mem_of_getElem? (i := 25) rfl)) e1 (Ins.self E_a1) (g := (mkF m 8 #[rv a1, rv a1, .unset] [(.ref a1)])) rfl rfl (hb hby d5_8)
  refine Go.st (f' := (mkF m 11 #[rv a1, rv a1, .unset] [(.ref a1)])) (fun _ k => st2 _ k) ?_
  refine Go.st (f' := (mkF m 12 #[rv a1, rv a1, rv a1] [])) (fun _ k => XS.astoreN X2.here hx rfl (hb hby d5_11) rfl rfl (l' := #[rv a1, rv a1, rv a1]) rfl k) ?_
  refine Go.st (f' := (mkF m 13 #[rv a1, rv a1, rv a1] [(.ref a1)])) (fun _ k => XS.aloadN X2.here hx rfl (hb hby d5_12) rfl rfl k) ?_
  obtain ⟨T3, X3, e3, st3⟩ := getF X2 hx hZ hown (host := "") (Or.inl (hw _ (List.mem_of_getElem? (i := 16) rfl))) Via.refl e2 F_a1_userId (g := (mkF m 13 #[rv a1, rv a1, rv a1] [(.ref a1)])) rfl rfl (hb hby d5_13)
  refine Go.st (f' := (mkF m 16 #[rv a1, rv a1, rv a1] [(.int i1)])) (fun _ k => st3 _ k) ?_
  refine Go.st (f' := (mkF m 17 #[rv a1, rv a1, rv a1] [(.ref a1), (.int i1)])) (fun _ k => XS.aloadN X3.here hx rfl (hb hby d5_16) rfl rfl k) ?_
  obtain ⟨T4, X4, e4, st4⟩ := getF X3 hx hZ hown (host := "") (Or.inl (hw _ (List.mem_of_getElem? (i := 16) rfl))) Via.refl e3 F_a1_userId (g := (mkF m 17 #[rv a1, rv a1, rv a1] [(.ref a1), (.int i1)])) rfl rfl (hb hby d5_17)
  refine Go.st (f' := (mkF m 20 #[rv a1, rv a1, rv a1] [(.int i1), (.int i1)])) (fun _ k => st4 _ k) ?_
  refine Go.st (f' := (mkF m 23 #[rv a1, rv a1, rv a1] [])) (fun _ k => XS.icmpNo X4.here hx rfl (hb hby d5_20) rfl (teq (rfl : i1 = i1)).2 k) ?_
  refine Go.st (f' := (mkF m 24 #[rv a1, rv a1, rv a1] [(.ref a1)])) (fun _ k => XS.aloadN X4.here hx rfl (hb hby d5_23) rfl rfl k) ?_
  obtain ⟨T5, X5, e5, st5⟩ := getF X4 hx hZ hown (host := "") (Or.inl (hw _ (List.mem_of_getElem? (i := 18) rfl))) Via.refl e4 F_a1_userName (g := (mkF m 24 #[rv a1, rv a1, rv a1] [(.ref a1)])) rfl rfl (hb hby d5_24)
  refine Go.st (f' := (mkF m 27 #[rv a1, rv a1, rv a1] [.null])) (fun _ k => st5 _ k) ?_
  refine Go.st (f' := (mkF m 28 #[rv a1, rv a1, rv a1] [(.ref a1), .null])) (fun _ k => XS.aloadN X5.here hx rfl (hb hby d5_27) rfl rfl k) ?_
  obtain ⟨T6, X6, e6, st6⟩ := getF X5 hx hZ hown (host := "") (Or.inl (hw _ (List.mem_of_getElem? (i := 18) rfl))) Via.refl e5 F_a1_userName (g := (mkF m 28 #[rv a1, rv a1, rv a1] [(.ref a1), .null])) rfl rfl (hb hby d5_28)
  refine Go.st (f' := (mkF m 31 #[rv a1, rv a1, rv a1] [.null, .null])) (fun _ k => st6 _ k) ?_
  obtain ⟨_, _, ⟨T7, L7, kk7, nn7⟩, -, X7, ⟨Lc7, hQ7, lq7, yq7, zz7⟩, st7⟩ := Jvm.LawKit.callS X6 hx (y := (⟨"java/util/Objects", "equals", "(Ljava/lang/Object;Ljava/lang/Object;)Z"⟩ : MethodName)) hown (mvT hZ (hw _ (List.mem_of_getElem? (i := 27) rfl))) (mvT hZ (hw _ (List.mem_of_getElem? (i := 28) rfl))) (mvT hZ (hw _ (List.mem_of_getElem? (i := 29) rfl))) (mvT hZ (hw _ (List.mem_of_getElem? (i := 30) rfl))) (by decide) (own_back (W := 0) (ob_self1 l Z a0 hw []  h0 n0 O0) hZ (hw _ (List.mem_of_getElem? (i := 30) rfl)) (hw _ (List.mem_of_getElem? (i := 29) rfl)) (by decide) (by decide)) (g := (mkF m 31 #[rv a1, rv a1, rv a1] [.null, .null])) rfl (by rw [hml]; rfl) (argsL := [.null, .null]) (rest := []) (lenOf pd__Ljava_lang_Object_Ljava_lang_Object__Z rfl) rfl (by show 2 * 0 + _ ≤ _; exact Nat.le_of_eq rfl) (hb hby d5_31) (fun _ _ => ⟨rfl, e6, (by decide : 0 + 0 ≤ _), (by decide : 0 + 0 ≤ _)⟩)
  dsimp only [Pt.U, Pt.locs, Pt.cells, Pt.slots] at X7 lq7 yq7 zz7 st7 hQ7
  subst lq7 yq7 zz7
  obtain ⟨rfl, Nq7, kq7⟩ := hQ7
  have N7 := Fr.app N0 Nq7
  refine Go.st (f' := (mkF m 34 #[rv a1, rv a1, rv a1] [(.int 1)])) (fun _ k => st7 _ k) ?_
  refine Go.st (f' := (mkF m 37 #[rv a1, rv a1, rv a1] [])) (fun _ k => XS.ifNo X7.here hx rfl (hb hby d5_34) rfl (by decide) k) ?_
  refine Go.st (f' := (mkF m 38 #[rv a1, rv a1, rv a1] [(.int 1)])) (fun _ k => XS.iconst X7.here hx rfl (hb hby d5_37) k) ?_
  refine Go.st (f' := (mkF m 42 #[rv a1, rv a1, rv a1] [(.int 1)])) (fun _ k => XS.goto X7.here hx rfl (pc0 := 38) (pc' := 42) rfl (hb hby d5_38) (by decide) (by decide) k) ?_
  refine Go.retB X7 hlk hx (t := .boolean) hret (by simp) (hb hby d5_42) kq7 ?_ (by decide) (by decide)
  exact ⟨rfl, N7, rfl⟩
set_option maxRecDepth 65536 in
set_option maxHeartbeats 40000000 in
theorem ue_self0 (l : Launch) (Z : State) (a0 : Array Value) (hw : ∀ d ∈ tables_1, d.before a0 Z = true) (ws : List Jvm.Cond) (a1 : Addr) (i1 : Int32) (s1 : Addr) (h0 : Heap) (n0 : Nat) (O0 : Old Z n0 h0) (E_a1 : Exa Z h0 a1 "com/example/wirecall/wirecall/demo/User") (F_a1_userId : Fld Z h0 a1 "com/example/wirecall/wirecall/demo/User" "userId" "I" (.int i1)) (F_a1_userName : Fld Z h0 a1 "com/example/wirecall/wirecall/demo/User" "userName" "Ljava/lang/String;" (.ref s1)) :
    Con l Z (⟨"com/example/wirecall/wirecall/demo/User", "equals", "(Ljava/lang/Object;)Z"⟩ : MethodName) prog_20_method_5_code 3 (some .boolean) ws ({ frames := 1, cells := 0, slots := 0, locals := 13 } : Room) #[(.ref a1), (.ref a1)] h0 (fun v h L => v = some (.int 1) ∧ Fr n0 L ∧ h = h0) := by
  refine own_body (plainFor_of_name pn_com_example_wirecall_wirecall_demo_User) ?_
  intro p e s m below meth c s₁ hx hby hml hZ hown hnm hlk hret X0 e0
  have N0 := Fr.nil n0
  refine Go.st (T' := s₁) (f' := (mkF m 0 #[rv a1, rv a1, .unset] [])) (fun _ k => castTop (by first | (simp [entryFrame, mkF, argsToLocals, Value.category]; done) | rfl) k) ?_
  have lt_a1 := E_a1.lt
  refine Go.st (f' := (mkF m 1 #[rv a1, rv a1, .unset] [(.ref a1)])) (fun _ k => XS.aloadN X0.here hx rfl (hb hby d5_0) rfl rfl k) ?_
  obtain ⟨T1, X1, e1, st1⟩ := instY X0 hx hZ hown (hw _ (List.mem_of_getElem? (i := 25) rfl)) e0 (Ins.self E_a1) (g := (mkF m 1 #[rv a1, rv a1, .unset] [(.ref a1)])) rfl rfl (hb hby d5_1)
  refine Go.st (f' := (mkF m 4 #[rv a1, rv a1, .unset] [(.int 1)])) (fun _ k => st1 _ k) ?_
  refine Go.st (f' := (mkF m 7 #[rv a1, rv a1, .unset] [])) (fun _ k => XS.ifNo X1.here hx rfl (hb hby d5_4) rfl (by decide) k) ?_
  refine Go.st (f' := (mkF m 8 #[rv a1, rv a1, .unset] [(.ref a1)])) (fun _ k => XS.aloadN X1.here hx rfl (hb hby d5_7) rfl rfl k) ?_
  obtain ⟨T2, X2, e2, st2⟩ := castY X1 hx hZ hown (hw _ (List.mem_of_getElem? (i := 25) rfl)) e1 (Ins.self E_a1) (g := (mkF m 8 #[rv a1, rv a1, .unset] [(.ref a1)])) rfl rfl (hb hby d5_8)
  refine Go.st (f' := (mkF m 11 #[rv a1, rv a1, .unset] [(.ref a1)])) (fun _ k => st2 _ k) ?_
  refine Go.st (f' := (mkF m 12 #[rv a1, rv a1, rv a1] [])) (fun _ k => XS.astoreN X2.here hx rfl (hb hby d5_11) rfl rfl (l' := #[rv a1, rv a1, rv a1]) rfl k) ?_
  refine Go.st (f' := (mkF m 13 #[rv a1, rv a1, rv a1] [(.ref a1)])) (fun _ k => XS.aloadN X2.here hx rfl (hb hby d5_12) rfl rfl k) ?_
  obtain ⟨T3, X3, e3, st3⟩ := getF X2 hx hZ hown (host := "") (Or.inl (hw _ (List.mem_of_getElem? (i := 16) rfl))) Via.refl e2 F_a1_userId (g := (mkF m 13 #[rv a1, rv a1, rv a1] [(.ref a1)])) rfl rfl (hb hby d5_13)
  refine Go.st (f' := (mkF m 16 #[rv a1, rv a1, rv a1] [(.int i1)])) (fun _ k => st3 _ k) ?_
  refine Go.st (f' := (mkF m 17 #[rv a1, rv a1, rv a1] [(.ref a1), (.int i1)])) (fun _ k => XS.aloadN X3.here hx rfl (hb hby d5_16) rfl rfl k) ?_
  obtain ⟨T4, X4, e4, st4⟩ := getF X3 hx hZ hown (host := "") (Or.inl (hw _ (List.mem_of_getElem? (i := 16) rfl))) Via.refl e3 F_a1_userId (g := (mkF m 17 #[rv a1, rv a1, rv a1] [(.ref a1), (.int i1)])) rfl rfl (hb hby d5_17)
  refine Go.st (f' := (mkF m 20 #[rv a1, rv a1, rv a1] [(.int i1), (.int i1)])) (fun _ k => st4 _ k) ?_
  refine Go.st (f' := (mkF m 23 #[rv a1, rv a1, rv a1] [])) (fun _ k => XS.icmpNo X4.here hx rfl (hb hby d5_20) rfl (teq (rfl : i1 = i1)).2 k) ?_
  refine Go.st (f' := (mkF m 24 #[rv a1, rv a1, rv a1] [(.ref a1)])) (fun _ k => XS.aloadN X4.here hx rfl (hb hby d5_23) rfl rfl k) ?_
  obtain ⟨T5, X5, e5, st5⟩ := getF X4 hx hZ hown (host := "") (Or.inl (hw _ (List.mem_of_getElem? (i := 18) rfl))) Via.refl e4 F_a1_userName (g := (mkF m 24 #[rv a1, rv a1, rv a1] [(.ref a1)])) rfl rfl (hb hby d5_24)
  refine Go.st (f' := (mkF m 27 #[rv a1, rv a1, rv a1] [(.ref s1)])) (fun _ k => st5 _ k) ?_
  refine Go.st (f' := (mkF m 28 #[rv a1, rv a1, rv a1] [(.ref a1), (.ref s1)])) (fun _ k => XS.aloadN X5.here hx rfl (hb hby d5_27) rfl rfl k) ?_
  obtain ⟨T6, X6, e6, st6⟩ := getF X5 hx hZ hown (host := "") (Or.inl (hw _ (List.mem_of_getElem? (i := 18) rfl))) Via.refl e5 F_a1_userName (g := (mkF m 28 #[rv a1, rv a1, rv a1] [(.ref a1), (.ref s1)])) rfl rfl (hb hby d5_28)
  refine Go.st (f' := (mkF m 31 #[rv a1, rv a1, rv a1] [(.ref s1), (.ref s1)])) (fun _ k => st6 _ k) ?_
  obtain ⟨_, _, ⟨T7, L7, kk7, nn7⟩, -, X7, ⟨Lc7, hQ7, lq7, yq7, zz7⟩, st7⟩ := Jvm.LawKit.callS X6 hx (y := (⟨"java/util/Objects", "equals", "(Ljava/lang/Object;Ljava/lang/Object;)Z"⟩ : MethodName)) hown (mvT hZ (hw _ (List.mem_of_getElem? (i := 27) rfl))) (mvT hZ (hw _ (List.mem_of_getElem? (i := 28) rfl))) (mvT hZ (hw _ (List.mem_of_getElem? (i := 29) rfl))) (mvT hZ (hw _ (List.mem_of_getElem? (i := 30) rfl))) (by decide) (own_back (W := 0) (ob_self0 l Z a0 hw [] s1 h0 n0 O0) hZ (hw _ (List.mem_of_getElem? (i := 30) rfl)) (hw _ (List.mem_of_getElem? (i := 29) rfl)) (by decide) (by decide)) (g := (mkF m 31 #[rv a1, rv a1, rv a1] [(.ref s1), (.ref s1)])) rfl (by rw [hml]; rfl) (argsL := [(.ref s1), (.ref s1)]) (rest := []) (lenOf pd__Ljava_lang_Object_Ljava_lang_Object__Z rfl) rfl (by show 2 * 0 + _ ≤ _; exact Nat.le_of_eq rfl) (hb hby d5_31) (fun _ _ => ⟨rfl, e6, (by decide : 0 + 0 ≤ _), (by decide : 0 + 0 ≤ _)⟩)
  dsimp only [Pt.U, Pt.locs, Pt.cells, Pt.slots] at X7 lq7 yq7 zz7 st7 hQ7
  subst lq7 yq7 zz7
  obtain ⟨rfl, Nq7, kq7⟩ := hQ7
  have N7 := Fr.app N0 Nq7
  refine Go.st (f' := (mkF m 34 #[rv a1, rv a1, rv a1] [(.int 1)])) (fun _ k => st7 _ k) ?_
  refine Go.st (f' := (mkF m 37 #[rv a1, rv a1, rv a1] [])) (fun _ k => XS.ifNo X7.here hx rfl (hb hby d5_34) rfl (by decide) k) ?_
  refine Go.st (f' := (mkF m 38 #[rv a1, rv a1, rv a1] [(.int 1)])) (fun _ k => XS.iconst X7.here hx rfl (hb hby d5_37) k) ?_
  refine Go.st (f' := (mkF m 42 #[rv a1, rv a1, rv a1] [(.int 1)])) (fun _ k => XS.goto X7.here hx rfl (pc0 := 38) (pc' := 42) rfl (hb hby d5_38) (by decide) (by decide) k) ?_
  refine Go.retB X7 hlk hx (t := .boolean) hret (by simp) (hb hby d5_42) kq7 ?_ (by decide) (by decide)
  exact ⟨rfl, N7, rfl⟩
theorem rmUS (l : Launch) (Z : State) (a0 : Array Value) (hw : ∀ d ∈ tables_1, d.before a0 Z = true) (ws : List Jvm.Cond) (a1 : Addr) (i1 : Int32) (nv : Value) (h0 : Heap) (n0 : Nat) (O0 : Old Z n0 h0) (hnv : nv.isRef = true) (E_a1 : Exa Z h0 a1 "com/example/wirecall/wirecall/demo/User") (F_a1_userId : Fld Z h0 a1 "com/example/wirecall/wirecall/demo/User" "userId" "I" (.int i1)) (F_a1_userName : Fld Z h0 a1 "com/example/wirecall/wirecall/demo/User" "userName" "Ljava/lang/String;" nv) :
    Con l Z (⟨"com/example/wirecall/wirecall/demo/User", "equals", "(Ljava/lang/Object;)Z"⟩ : MethodName) prog_20_method_5_code 3 (some .boolean) ws ({ frames := 1, cells := 0, slots := 0, locals := 13 } : Room) #[(.ref a1), (.ref a1)] h0 (fun v h L => v = some (.int 1) ∧ Fr n0 L ∧ h = h0) := by
  rcases ref_cases hnv with rfl | ⟨a, rfl⟩
  · exact ue_self1 l Z a0 hw ws a1 i1 h0 n0 O0 E_a1 F_a1_userId F_a1_userName
  · exact ue_self0 l Z a0 hw ws a1 i1 a h0 n0 O0 E_a1 F_a1_userId F_a1_userName
def QL (n0 : Nat) : Option Value → Heap → List Loc → Prop := fun v h L => v = some (.int (1 : Int32)) ∧ Fr n0 L
theorem pd__ICC_Ljava_lang_String_ : parseMethodDescriptor "(ICC)Ljava/lang/String;" = some ⟨[.int, .char, .char], some (.object "java/lang/String")⟩ := by decide +kernel
theorem pd__ILjava_lang_String__V : parseMethodDescriptor "(ILjava/lang/String;)V" = some ⟨[.int, (.object "java/lang/String")], none⟩ := by decide +kernel
theorem pd___V : parseMethodDescriptor "()V" = some ⟨[], none⟩ := by decide +kernel
set_option maxRecDepth 65536 in
set_option maxHeartbeats 40000000 in
theorem rm0 (l : Launch) (Z : State) (a0 : Array Value) (hw : ∀ d ∈ tables_1, d.before a0 Z = true) (ws : List Jvm.Cond) (p1 : Int32) (p2 : Int32) (p3 : Int32) (p4 : Int32) (p5 : Int32) (i_COMPACT_STRINGS : Int32) (v_SIOOBE_FORMATTER : Value) (h0 : Heap) (n0 : Nat) (O0 : Old Z n0 h0) (WW : World1 Z i_COMPACT_STRINGS v_SIOOBE_FORMATTER) :
    ConW l Z EL x code maxLocals ret ws room_1 #[(.int p1), (.int p2), (.int p3), (.int p4), (.int p5)] h0 (QL n0) := by
  refine own_bodyW (plainFor_of_name pn_com_example_wirecall_wirecall_demo_UserEqualsPinLaw) ?_
  intro p e s m below meth c s₁ hx hby hml hZ hown hnm hlk hret X0 e0 hh hS CR0
  have hEL := own_EL hw
  have wS := own_wS hw
  have N0 := Fr.nil n0
  refine Go.st (T' := s₁) (f' := (mkF m 0 #[iv p1, iv p2, iv p3, iv p4, iv p5, .unset, .unset, .unset, .unset, .unset, .unset, .unset, .unset, .unset, .unset, .unset, .unset, .unset, .unset, .unset, .unset, .unset, .unset] [])) (fun _ k => castTop (by first | (simp [entryFrame, mkF, argsToLocals, Value.category, maxLocals]; done) | rfl) k) ?_
  have ⟨S_i_COMPACT_STRINGS, nz_i_COMPACT_STRINGS, S_v_SIOOBE_FORMATTER, r_v_SIOOBE_FORMATTER⟩ := WW
  refine Go.st (f' := (mkF m 1 #[iv p1, iv p2, iv p3, iv p4, iv p5, .unset, .unset, .unset, .unset, .unset, .unset, .unset, .unset, .unset, .unset, .unset, .unset, .unset, .unset, .unset, .unset, .unset, .unset] [(.int p3)])) (fun _ k => XS.iloadN X0.here hx rfl (hb hby at_0) rfl k) ?_
  refine Go.st (f' := (mkF m 4 #[iv p1, iv p2, iv p3, iv p4, iv p5, .unset, .unset, .unset, .unset, .unset, .unset, .unset, .unset, .unset, .unset, .unset, .unset, .unset, .unset, .unset, .unset, .unset, .unset] [(.int 255), (.int p3)])) (fun _ k => XS.sipush X0.here hx rfl (hb hby at_1) k) ?_
  refine Go.st (f' := (mkF m 5 #[iv p1, iv p2, iv p3, iv p4, iv p5, .unset, .unset, .unset, .unset, .unset, .unset, .unset, .unset, .unset, .unset, .unset, .unset, .unset, .unset, .unset, .unset, .unset, .unset] [(.int (p3 &&& (255 : Int32)))])) (fun _ k => XS.iand X0.here hx rfl (hb hby at_4) rfl k) ?_
  refine Go.st (f' := (mkF m 6 #[iv p1, iv p2, iv p3, iv p4, iv p5, .unset, .unset, .unset, .unset, .unset, .unset, .unset, .unset, .unset, .unset, .unset, .unset, .unset, .unset, .unset, .unset, .unset, .unset] [(.int ((p3 &&& (255 : Int32)).toUInt32.toUInt16.toUInt32.toInt32))])) (fun _ k => XS.i2c X0.here hx rfl (hb hby at_5) rfl k) ?_
  obtain ⟨yy1, hyy1⟩ : ∃ z, z = ((p3 &&& (255 : Int32)).toUInt32.toUInt16.toUInt32.toInt32) := ⟨_, rfl⟩
  rw [← hyy1]
  refine Go.st (f' := (mkF m 8 #[iv p1, iv p2, iv p3, iv p4, iv p5, iv yy1, .unset, .unset, .unset, .unset, .unset, .unset, .unset, .unset, .unset, .unset, .unset, .unset, .unset, .unset, .unset, .unset, .unset] [])) (fun _ k => XS.istore X0.here hx rfl (hb hby at_6) rfl (l' := #[iv p1, iv p2, iv p3, iv p4, iv p5, iv yy1, .unset, .unset, .unset, .unset, .unset, .unset, .unset, .unset, .unset, .unset, .unset, .unset, .unset, .unset, .unset, .unset, .unset]) rfl k) ?_
  refine Go.st (f' := (mkF m 9 #[iv p1, iv p2, iv p3, iv p4, iv p5, iv yy1, .unset, .unset, .unset, .unset, .unset, .unset, .unset, .unset, .unset, .unset, .unset, .unset, .unset, .unset, .unset, .unset, .unset] [(.int p3)])) (fun _ k => XS.iloadN X0.here hx rfl (hb hby at_8) rfl k) ?_
  refine Go.st (f' := (mkF m 11 #[iv p1, iv p2, iv p3, iv p4, iv p5, iv yy1, .unset, .unset, .unset, .unset, .unset, .unset, .unset, .unset, .unset, .unset, .unset, .unset, .unset, .unset, .unset, .unset, .unset] [(.int 8), (.int p3)])) (fun _ k => XS.bipush X0.here hx rfl (hb hby at_9) k) ?_
  refine Go.st (f' := (mkF m 12 #[iv p1, iv p2, iv p3, iv p4, iv p5, iv yy1, .unset, .unset, .unset, .unset, .unset, .unset, .unset, .unset, .unset, .unset, .unset, .unset, .unset, .unset, .unset, .unset, .unset] [(.int ((p3.toUInt32 >>> ((8 : Int32) &&& 31).toUInt32).toInt32))])) (fun _ k => XS.iushr X0.here hx rfl (hb hby at_11) rfl k) ?_
  refine Go.st (f' := (mkF m 15 #[iv p1, iv p2, iv p3, iv p4, iv p5, iv yy1, .unset, .unset, .unset, .unset, .unset, .unset, .unset, .unset, .unset, .unset, .unset, .unset, .unset, .unset, .unset, .unset, .unset] [(.int 255), (.int ((p3.toUInt32 >>> ((8 : Int32) &&& 31).toUInt32).toInt32))])) (fun _ k => XS.sipush X0.here hx rfl (hb hby at_12) k) ?_
  refine Go.st (f' := (mkF m 16 #[iv p1, iv p2, iv p3, iv p4, iv p5, iv yy1, .unset, .unset, .unset, .unset, .unset, .unset, .unset, .unset, .unset, .unset, .unset, .unset, .unset, .unset, .unset, .unset, .unset] [(.int (((p3.toUInt32 >>> ((8 : Int32) &&& 31).toUInt32).toInt32) &&& (255 : Int32)))])) (fun _ k => XS.iand X0.here hx rfl (hb hby at_15) rfl k) ?_
  refine Go.st (f' := (mkF m 17 #[iv p1, iv p2, iv p3, iv p4, iv p5, iv yy1, .unset, .unset, .unset, .unset, .unset, .unset, .unset, .unset, .unset, .unset, .unset, .unset, .unset, .unset, .unset, .unset, .unset] [(.int ((((p3.toUInt32 >>> ((8 : Int32) &&& 31).toUInt32).toInt32) &&& (255 : Int32)).toUInt32.toUInt16.toUInt32.toInt32))])) (fun _ k => XS.i2c X0.here hx rfl (hb hby at_16) rfl k) ?_
  obtain ⟨yy2, hyy2⟩ : ∃ z, z = ((((p3.toUInt32 >>> ((8 : Int32) &&& 31).toUInt32).toInt32) &&& (255 : Int32)).toUInt32.toUInt16.toUInt32.toInt32) := ⟨_, rfl⟩
  rw [← hyy2]
  refine Go.st (f' := (mkF m 19 #[iv p1, iv p2, iv p3, iv p4, iv p5, iv yy1, iv yy2, .unset, .unset, .unset, .unset, .unset, .unset, .unset, .unset, .unset, .unset, .unset, .unset, .unset, .unset, .unset, .unset] [])) (fun _ k => XS.istore X0.here hx rfl (hb hby at_17) rfl (l' := #[iv p1, iv p2, iv p3, iv p4, iv p5, iv yy1, iv yy2, .unset, .unset, .unset, .unset, .unset, .unset, .unset, .unset, .unset, .unset, .unset, .unset, .unset, .unset, .unset, .unset]) rfl k) ?_
  refine Go.st (f' := (mkF m 20 #[iv p1, iv p2, iv p3, iv p4, iv p5, iv yy1, iv yy2, .unset, .unset, .unset, .unset, .unset, .unset, .unset, .unset, .unset, .unset, .unset, .unset, .unset, .unset, .unset, .unset] [(.int p4)])) (fun _ k => XS.iloadN X0.here hx rfl (hb hby at_19) rfl k) ?_
  refine Go.st (f' := (mkF m 23 #[iv p1, iv p2, iv p3, iv p4, iv p5, iv yy1, iv yy2, .unset, .unset, .unset, .unset, .unset, .unset, .unset, .unset, .unset, .unset, .unset, .unset, .unset, .unset, .unset, .unset] [(.int 255), (.int p4)])) (fun _ k => XS.sipush X0.here hx rfl (hb hby at_20) k) ?_
  refine Go.st (f' := (mkF m 24 #[iv p1, iv p2, iv p3, iv p4, iv p5, iv yy1, iv yy2, .unset, .unset, .unset, .unset, .unset, .unset, .unset, .unset, .unset, .unset, .unset, .unset, .unset, .unset, .unset, .unset] [(.int (p4 &&& (255 : Int32)))])) (fun _ k => XS.iand X0.here hx rfl (hb hby at_23) rfl k) ?_
  refine Go.st (f' := (mkF m 25 #[iv p1, iv p2, iv p3, iv p4, iv p5, iv yy1, iv yy2, .unset, .unset, .unset, .unset, .unset, .unset, .unset, .unset, .unset, .unset, .unset, .unset, .unset, .unset, .unset, .unset] [(.int ((p4 &&& (255 : Int32)).toUInt32.toUInt16.toUInt32.toInt32))])) (fun _ k => XS.i2c X0.here hx rfl (hb hby at_24) rfl k) ?_
  obtain ⟨yy3, hyy3⟩ : ∃ z, z = ((p4 &&& (255 : Int32)).toUInt32.toUInt16.toUInt32.toInt32) := ⟨_, rfl⟩
  rw [← hyy3]
  refine Go.st (f' := (mkF m 27 #[iv p1, iv p2, iv p3, iv p4, iv p5, iv yy1, iv yy2, iv yy3, .unset, .unset, .unset, .unset, .unset, .unset, .unset, .unset, .unset, .unset, .unset, .unset, .unset, .unset, .unset] [])) (fun _ k => XS.istore X0.here hx rfl (hb hby at_25) rfl (l' := #[iv p1, iv p2, iv p3, iv p4, iv p5, iv yy1, iv yy2, iv yy3, .unset, .unset, .unset, .unset, .unset, .unset, .unset, .unset, .unset, .unset, .unset, .unset, .unset, .unset, .unset]) rfl k) ?_
  refine Go.st (f' := (mkF m 28 #[iv p1, iv p2, iv p3, iv p4, iv p5, iv yy1, iv yy2, iv yy3, .unset, .unset, .unset, .unset, .unset, .unset, .unset, .unset, .unset, .unset, .unset, .unset, .unset, .unset, .unset] [(.int p4)])) (fun _ k => XS.iloadN X0.here hx rfl (hb hby at_27) rfl k) ?_
  refine Go.st (f' := (mkF m 30 #[iv p1, iv p2, iv p3, iv p4, iv p5, iv yy1, iv yy2, iv yy3, .unset, .unset, .unset, .unset, .unset, .unset, .unset, .unset, .unset, .unset, .unset, .unset, .unset, .unset, .unset] [(.int 8), (.int p4)])) (fun _ k => XS.bipush X0.here hx rfl (hb hby at_28) k) ?_
  refine Go.st (f' := (mkF m 31 #[iv p1, iv p2, iv p3, iv p4, iv p5, iv yy1, iv yy2, iv yy3, .unset, .unset, .unset, .unset, .unset, .unset, .unset, .unset, .unset, .unset, .unset, .unset, .unset, .unset, .unset] [(.int ((p4.toUInt32 >>> ((8 : Int32) &&& 31).toUInt32).toInt32))])) (fun _ k => XS.iushr X0.here hx rfl (hb hby at_30) rfl k) ?_
  refine Go.st (f' := (mkF m 34 #[iv p1, iv p2, iv p3, iv p4, iv p5, iv yy1, iv yy2, iv yy3, .unset, .unset, .unset, .unset, .unset, .unset, .unset, .unset, .unset, .unset, .unset, .unset, .unset, .unset, .unset] [(.int 255), (.int ((p4.toUInt32 >>> ((8 : Int32) &&& 31).toUInt32).toInt32))])) (fun _ k => XS.sipush X0.here hx rfl (hb hby at_31) k) ?_
  refine Go.st (f' := (mkF m 35 #[iv p1, iv p2, iv p3, iv p4, iv p5, iv yy1, iv yy2, iv yy3, .unset, .unset, .unset, .unset, .unset, .unset, .unset, .unset, .unset, .unset, .unset, .unset, .unset, .unset, .unset] [(.int (((p4.toUInt32 >>> ((8 : Int32) &&& 31).toUInt32).toInt32) &&& (255 : Int32)))])) (fun _ k => XS.iand X0.here hx rfl (hb hby at_34) rfl k) ?_
  refine Go.st (f' := (mkF m 36 #[iv p1, iv p2, iv p3, iv p4, iv p5, iv yy1, iv yy2, iv yy3, .unset, .unset, .unset, .unset, .unset, .unset, .unset, .unset, .unset, .unset, .unset, .unset, .unset, .unset, .unset] [(.int ((((p4.toUInt32 >>> ((8 : Int32) &&& 31).toUInt32).toInt32) &&& (255 : Int32)).toUInt32.toUInt16.toUInt32.toInt32))])) (fun _ k => XS.i2c X0.here hx rfl (hb hby at_35) rfl k) ?_
  obtain ⟨yy4, hyy4⟩ : ∃ z, z = ((((p4.toUInt32 >>> ((8 : Int32) &&& 31).toUInt32).toInt32) &&& (255 : Int32)).toUInt32.toUInt16.toUInt32.toInt32) := ⟨_, rfl⟩
  rw [← hyy4]
  refine Go.st (f' := (mkF m 38 #[iv p1, iv p2, iv p3, iv p4, iv p5, iv yy1, iv yy2, iv yy3, iv yy4, .unset, .unset, .unset, .unset, .unset, .unset, .unset, .unset, .unset, .unset, .unset, .unset, .unset, .unset] [])) (fun _ k => XS.istore X0.here hx rfl (hb hby at_36) rfl (l' := #[iv p1, iv p2, iv p3, iv p4, iv p5, iv yy1, iv yy2, iv yy3, iv yy4, .unset, .unset, .unset, .unset, .unset, .unset, .unset, .unset, .unset, .unset, .unset, .unset, .unset, .unset]) rfl k) ?_
  refine Go.st (f' := (mkF m 40 #[iv p1, iv p2, iv p3, iv p4, iv p5, iv yy1, iv yy2, iv yy3, iv yy4, .unset, .unset, .unset, .unset, .unset, .unset, .unset, .unset, .unset, .unset, .unset, .unset, .unset, .unset] [(.int p5)])) (fun _ k => XS.iload X0.here hx rfl (hb hby at_38) rfl k) ?_
  refine Go.st (f' := (mkF m 41 #[iv p1, iv p2, iv p3, iv p4, iv p5, iv yy1, iv yy2, iv yy3, iv yy4, .unset, .unset, .unset, .unset, .unset, .unset, .unset, .unset, .unset, .unset, .unset, .unset, .unset, .unset] [(.int 1), (.int p5)])) (fun _ k => XS.iconst X0.here hx rfl (hb hby at_40) k) ?_
  refine Go.st (f' := (mkF m 42 #[iv p1, iv p2, iv p3, iv p4, iv p5, iv yy1, iv yy2, iv yy3, iv yy4, .unset, .unset, .unset, .unset, .unset, .unset, .unset, .unset, .unset, .unset, .unset, .unset, .unset, .unset] [(.int (p5 &&& (1 : Int32)))])) (fun _ k => XS.iand X0.here hx rfl (hb hby at_41) rfl k) ?_
  have J : ∀ (z9 : Int32) (z10 : Int32) (z11 : Int32) (z12 : Int32) (z13 : Int32) (z14 : Int32) (z15 : Int32) (z16 : Int32) (z17 : Int32), (z9 = (0 : Int32) ∨ (z10 = (0 : Int32) ∧ z11 = (0 : Int32))) → (0 ≤ z10.toInt ∧ z10.toInt ≤ 3) → (0 ≤ z13.toInt ∧ z13.toInt ≤ 3) → (¬ (255 : Int32) < z15 ∧ 0 ≤ z15.toInt) → (¬ (255 : Int32) < z16 ∧ 0 ≤ z16.toInt) → Go p e below (DoneW s Z EL (QL n0) room_1.cells room_1.slots) s₁ (mkF m 174 #[iv p1, iv p2, iv p3, iv p4, iv p5, iv yy1, iv yy2, iv yy3, iv yy4, iv z9, iv z10, iv z11, iv z12, iv z13, iv z14, iv z15, iv z16, iv z17, .unset, .unset, .unset, .unset, .unset] []) := by
    intro z9 z10 z11 z12 z13 z14 z15 z16 z17 hz9 hz10 hz13 hz15 hz16
    have U : ∀ (TJ5 : State) (hJ5 : Heap) (vmJ5 : Vm) (kJ5 : Nat) (LJ5 : List Loc) (u : Addr) (nA : Value), (Stand p l e room_1 (s.setVm vmJ5) m #[(.int p1), (.int p2), (.int p3), (.int p4), (.int p5)] below meth c TJ5 LJ5 7 14) → (TJ5.heap = hJ5) → (Old Z n0 hJ5) → (Fr n0 LJ5) → (s.Since vmJ5 kJ5) → (kJ5 ≤ hJ5.size) → (Z.Warmed39 (s.setVm vmJ5).vm) → ((s.setVm vmJ5).vm.findClass "com/example/wirecall/wirecall/demo/UserEqualsPinLaw" = some m.cls) → (CHr Z EL s.vm h0 vmJ5 hJ5) → (Exa Z hJ5 u "com/example/wirecall/wirecall/demo/User") → (Fld Z hJ5 u "com/example/wirecall/wirecall/demo/User" "userId" "I" (.int z11)) → (Fld Z hJ5 u "com/example/wirecall/wirecall/demo/User" "userName" "Ljava/lang/String;" nA) → (Nm Z hJ5 nA z10 yy1 yy2) → Go p e below (DoneW s Z EL (QL n0) room_1.cells room_1.slots) TJ5 (mkF m 207 #[iv p1, iv p2, iv p3, iv p4, iv p5, iv yy1, iv yy2, iv yy3, iv yy4, iv z9, iv z10, iv z11, iv z12, iv z13, iv z14, iv z15, iv z16, iv z17, .unset, .unset, .unset, .unset, .unset] [(.ref u)]) := by
      intro TJ5 hJ5 vmJ5 kJ5 LJ5 u nA XJ5 eJ5 OJ5 NJ5 hSJ5 hkJ5 hZJ5 hownJ5 CRJ5 E_u F_u_i F_u_n N_u
      have lt_u := E_u.lt
      refine Go.st (f' := (mkF m 209 #[iv p1, iv p2, iv p3, iv p4, iv p5, iv yy1, iv yy2, iv yy3, iv yy4, iv z9, iv z10, iv z11, iv z12, iv z13, iv z14, iv z15, iv z16, iv z17, rv u, .unset, .unset, .unset, .unset] [])) (fun _ k => XS.astore XJ5.here hx rfl (hb hby at_207) rfl rfl (l' := #[iv p1, iv p2, iv p3, iv p4, iv p5, iv yy1, iv yy2, iv yy3, iv yy4, iv z9, iv z10, iv z11, iv z12, iv z13, iv z14, iv z15, iv z16, iv z17, rv u, .unset, .unset, .unset, .unset]) rfl k) ?_
      refine Go.st (f' := (mkF m 211 #[iv p1, iv p2, iv p3, iv p4, iv p5, iv yy1, iv yy2, iv yy3, iv yy4, iv z9, iv z10, iv z11, iv z12, iv z13, iv z14, iv z15, iv z16, iv z17, rv u, .unset, .unset, .unset, .unset] [(.int z17)])) (fun _ k => XS.iload XJ5.here hx rfl (hb hby at_209) rfl k) ?_
      refine Go.st (f' := (mkF m 212 #[iv p1, iv p2, iv p3, iv p4, iv p5, iv yy1, iv yy2, iv yy3, iv yy4, iv z9, iv z10, iv z11, iv z12, iv z13, iv z14, iv z15, iv z16, iv z17, rv u, .unset, .unset, .unset, .unset] [(.int 1), (.int z17)])) (fun _ k => XS.iconst XJ5.here hx rfl (hb hby at_211) k) ?_
      by_cases cd6 : (1 : Int32) < z17
      · refine Go.st (f' := (mkF m 238 #[iv p1, iv p2, iv p3, iv p4, iv p5, iv yy1, iv yy2, iv yy3, iv yy4, iv z9, iv z10, iv z11, iv z12, iv z13, iv z14, iv z15, iv z16, iv z17, rv u, .unset, .unset, .unset, .unset] [])) (fun _ k => XS.icmpYes XJ5.here hx rfl (pc0 := 212) (pc' := 238) rfl (hb hby at_212) rfl (tlt cd6).2.2.1 (by decide) (by decide) k) ?_
        refine Go.st (f' := (mkF m 240 #[iv p1, iv p2, iv p3, iv p4, iv p5, iv yy1, iv yy2, iv yy3, iv yy4, iv z9, iv z10, iv z11, iv z12, iv z13, iv z14, iv z15, iv z16, iv z17, rv u, .unset, .unset, .unset, .unset] [(.int z17)])) (fun _ k => XS.iload XJ5.here hx rfl (hb hby at_238) rfl k) ?_
        refine Go.st (f' := (mkF m 241 #[iv p1, iv p2, iv p3, iv p4, iv p5, iv yy1, iv yy2, iv yy3, iv yy4, iv z9, iv z10, iv z11, iv z12, iv z13, iv z14, iv z15, iv z16, iv z17, rv u, .unset, .unset, .unset, .unset] [(.int 2), (.int z17)])) (fun _ k => XS.iconst XJ5.here hx rfl (hb hby at_240) k) ?_
        by_cases cd7 : z17 = (2 : Int32)
        · refine Go.st (f' := (mkF m 244 #[iv p1, iv p2, iv p3, iv p4, iv p5, iv yy1, iv yy2, iv yy3, iv yy4, iv z9, iv z10, iv z11, iv z12, iv z13, iv z14, iv z15, iv z16, iv z17, rv u, .unset, .unset, .unset, .unset] [])) (fun _ k => XS.icmpNo XJ5.here hx rfl (hb hby at_241) rfl (teq cd7).2 k) ?_
          refine Go.st (f' := (mkF m 245 #[iv p1, iv p2, iv p3, iv p4, iv p5, iv yy1, iv yy2, iv yy3, iv yy4, iv z9, iv z10, iv z11, iv z12, iv z13, iv z14, iv z15, iv z16, iv z17, rv u, .unset, .unset, .unset, .unset] [.null])) (fun _ k => XS.aconstNull XJ5.here hx rfl (hb hby at_244) k) ?_
          refine Go.st (f' := (mkF m 247 #[iv p1, iv p2, iv p3, iv p4, iv p5, iv yy1, iv yy2, iv yy3, iv yy4, iv z9, iv z10, iv z11, iv z12, iv z13, iv z14, iv z15, iv z16, iv z17, rv u, .val .null, .unset, .unset, .unset] [])) (fun _ k => XS.astore XJ5.here hx rfl (hb hby at_245) rfl rfl (l' := #[iv p1, iv p2, iv p3, iv p4, iv p5, iv yy1, iv yy2, iv yy3, iv yy4, iv z9, iv z10, iv z11, iv z12, iv z13, iv z14, iv z15, iv z16, iv z17, rv u, .val .null, .unset, .unset, .unset]) rfl k) ?_
          refine Go.st (f' := (mkF m 260 #[iv p1, iv p2, iv p3, iv p4, iv p5, iv yy1, iv yy2, iv yy3, iv yy4, iv z9, iv z10, iv z11, iv z12, iv z13, iv z14, iv z15, iv z16, iv z17, rv u, .val .null, .unset, .unset, .unset] [])) (fun _ k => XS.goto XJ5.here hx rfl (pc0 := 247) (pc' := 260) rfl (hb hby at_247) (by decide) (by decide) k) ?_
          have J2 : ∀ (z20 : Int32) (z21 : Int32), (z21 = (0 : Int32)) → Go p e below (DoneW s Z EL (QL n0) room_1.cells room_1.slots) TJ5 (mkF m 325 #[iv p1, iv p2, iv p3, iv p4, iv p5, iv yy1, iv yy2, iv yy3, iv yy4, iv z9, iv z10, iv z11, iv z12, iv z13, iv z14, iv z15, iv z16, iv z17, rv u, .val .null, iv z20, iv z21, .unset] []) := by
            intro z20 z21 hz21
            refine Go.st (f' := (mkF m 327 #[iv p1, iv p2, iv p3, iv p4, iv p5, iv yy1, iv yy2, iv yy3, iv yy4, iv z9, iv z10, iv z11, iv z12, iv z13, iv z14, iv z15, iv z16, iv z17, rv u, .val .null, iv z20, iv z21, .unset] [(.ref u)])) (fun _ k => XS.aload XJ5.here hx rfl (hb hby at_325) rfl rfl k) ?_
            refine Go.st (f' := (mkF m 329 #[iv p1, iv p2, iv p3, iv p4, iv p5, iv yy1, iv yy2, iv yy3, iv yy4, iv z9, iv z10, iv z11, iv z12, iv z13, iv z14, iv z15, iv z16, iv z17, rv u, .val .null, iv z20, iv z21, .unset] [.null, (.ref u)])) (fun _ k => XS.aload XJ5.here hx rfl (hb hby at_327) rfl rfl k) ?_
            obtain ⟨cq8, kq8, q8a, q8b, q8c⟩ := isOf hZJ5 eJ5 E_u
            obtain ⟨_, _, ⟨T8, L8, kk8, nn8⟩, -, X8, ⟨Lc8, hQ8, lq8, yq8, zz8⟩, st8⟩ := XJ5.virtualBack hx (y := (⟨"com/example/wirecall/wirecall/demo/User", "equals", "(Ljava/lang/Object;)Z"⟩ : MethodName)) (z := (⟨"com/example/wirecall/wirecall/demo/User", "equals", "(Ljava/lang/Object;)Z"⟩ : MethodName)) hownJ5 (mvT hZJ5 (hw _ (List.mem_of_getElem? (i := 20) rfl))) (mvT hZJ5 (hw _ (List.mem_of_getElem? (i := 21) rfl))) (notFace_of_selects (args := #[]) (mvT hZJ5 (hw _ (List.mem_of_getElem? (i := 23) rfl)))) (mvT hZJ5 (hw _ (List.mem_of_getElem? (i := 23) rfl))) (mvT hZJ5 (hw _ (List.mem_of_getElem? (i := 22) rfl))) (by decide) (own_back (W := 0) (ue_null l Z a0 hw [] u hJ5 n0 OJ5) hZJ5 (hw _ (List.mem_of_getElem? (i := 24) rfl)) (hw _ (List.mem_of_getElem? (i := 2) rfl)) (by decide) (by decide)) q8a q8c (g := (mkF m 329 #[iv p1, iv p2, iv p3, iv p4, iv p5, iv yy1, iv yy2, iv yy3, iv yy4, iv z9, iv z10, iv z11, iv z12, iv z13, iv z14, iv z15, iv z16, iv z17, rv u, .val .null, iv z20, iv z21, .unset] [.null, (.ref u)])) rfl (by rw [hml]; rfl) (Steps.refl _) (argsL := [.null]) (rest := []) (lenOf pd__Ljava_lang_Object__Z rfl) rfl (by show 2 * 0 + _ ≤ _; exact Nat.le_of_eq rfl) (hb hby at_329) (fun _ _ => ⟨rfl, eJ5, (by decide : 7 + 0 ≤ _), (by decide : 14 + 0 ≤ _)⟩)
            dsimp only [Pt.U, Pt.locs, Pt.cells, Pt.slots] at X8 lq8 yq8 zz8 st8 hQ8
            subst lq8 yq8 zz8
            obtain ⟨rfl, Nq8, kq8⟩ := hQ8
            have N8 := Fr.app NJ5 Nq8
            refine Go.tr (f' := (mkF m 332 #[iv p1, iv p2, iv p3, iv p4, iv p5, iv yy1, iv yy2, iv yy3, iv yy4, iv z9, iv z10, iv z11, iv z12, iv z13, iv z14, iv z15, iv z16, iv z17, rv u, .val .null, iv z20, iv z21, .unset] [(.int 0)])) st8 ?_
            refine Go.st (f' := (mkF m 334 #[iv p1, iv p2, iv p3, iv p4, iv p5, iv yy1, iv yy2, iv yy3, iv yy4, iv z9, iv z10, iv z11, iv z12, iv z13, iv z14, iv z15, iv z16, iv z17, rv u, .val .null, iv z20, iv z21, iv 0] [])) (fun _ k => XS.istore X8.here hx rfl (hb hby at_332) rfl (l' := #[iv p1, iv p2, iv p3, iv p4, iv p5, iv yy1, iv yy2, iv yy3, iv yy4, iv z9, iv z10, iv z11, iv z12, iv z13, iv z14, iv z15, iv z16, iv z17, rv u, .val .null, iv z20, iv z21, iv 0]) rfl k) ?_
            refine Go.st (f' := (mkF m 336 #[iv p1, iv p2, iv p3, iv p4, iv p5, iv yy1, iv yy2, iv yy3, iv yy4, iv z9, iv z10, iv z11, iv z12, iv z13, iv z14, iv z15, iv z16, iv z17, rv u, .val .null, iv z20, iv z21, iv 0] [(.int 0)])) (fun _ k => XS.iload X8.here hx rfl (hb hby at_334) rfl k) ?_
            refine Go.st (f' := (mkF m 338 #[iv p1, iv p2, iv p3, iv p4, iv p5, iv yy1, iv yy2, iv yy3, iv yy4, iv z9, iv z10, iv z11, iv z12, iv z13, iv z14, iv z15, iv z16, iv z17, rv u, .val .null, iv z20, iv z21, iv 0] [(.int z21), (.int 0)])) (fun _ k => XS.iload X8.here hx rfl (hb hby at_336) rfl k) ?_
            refine Go.st (f' := (mkF m 343 #[iv p1, iv p2, iv p3, iv p4, iv p5, iv yy1, iv yy2, iv yy3, iv yy4, iv z9, iv z10, iv z11, iv z12, iv z13, iv z14, iv z15, iv z16, iv z17, rv u, .val .null, iv z20, iv z21, iv 0] [])) (fun _ k => XS.icmpYes X8.here hx rfl (pc0 := 338) (pc' := 343) rfl (hb hby at_338) rfl (teq hz21.symm).1 (by decide) (by decide) k) ?_
            refine Go.st (f' := (mkF m 345 #[iv p1, iv p2, iv p3, iv p4, iv p5, iv yy1, iv yy2, iv yy3, iv yy4, iv z9, iv z10, iv z11, iv z12, iv z13, iv z14, iv z15, iv z16, iv z17, rv u, .val .null, iv z20, iv z21, iv 0] [(.ref u)])) (fun _ k => XS.aload X8.here hx rfl (hb hby at_343) rfl rfl k) ?_
            refine Go.st (f' := (mkF m 347 #[iv p1, iv p2, iv p3, iv p4, iv p5, iv yy1, iv yy2, iv yy3, iv yy4, iv z9, iv z10, iv z11, iv z12, iv z13, iv z14, iv z15, iv z16, iv z17, rv u, .val .null, iv z20, iv z21, iv 0] [(.ref u), (.ref u)])) (fun _ k => XS.aload X8.here hx rfl (hb hby at_345) rfl rfl k) ?_
            obtain ⟨cq9, kq9, q9a, q9b, q9c⟩ := isOf hZJ5 kq8 E_u
            obtain ⟨_, _, ⟨T9, L9, kk9, nn9⟩, -, X9, ⟨Lc9, hQ9, lq9, yq9, zz9⟩, st9⟩ := X8.virtualBack hx (y := (⟨"com/example/wirecall/wirecall/demo/User", "equals", "(Ljava/lang/Object;)Z"⟩ : MethodName)) (z := (⟨"com/example/wirecall/wirecall/demo/User", "equals", "(Ljava/lang/Object;)Z"⟩ : MethodName)) hownJ5 (mvT hZJ5 (hw _ (List.mem_of_getElem? (i := 20) rfl))) (mvT hZJ5 (hw _ (List.mem_of_getElem? (i := 21) rfl))) (notFace_of_selects (args := #[]) (mvT hZJ5 (hw _ (List.mem_of_getElem? (i := 23) rfl)))) (mvT hZJ5 (hw _ (List.mem_of_getElem? (i := 23) rfl))) (mvT hZJ5 (hw _ (List.mem_of_getElem? (i := 22) rfl))) (by decide) (own_back (W := 0) (rmUS l Z a0 hw [] u z11 nA hJ5 n0 OJ5 N_u.isRef E_u F_u_i F_u_n) hZJ5 (hw _ (List.mem_of_getElem? (i := 24) rfl)) (hw _ (List.mem_of_getElem? (i := 2) rfl)) (by decide) (by decide)) q9a q9c (g := (mkF m 347 #[iv p1, iv p2, iv p3, iv p4, iv p5, iv yy1, iv yy2, iv yy3, iv yy4, iv z9, iv z10, iv z11, iv z12, iv z13, iv z14, iv z15, iv z16, iv z17, rv u, .val .null, iv z20, iv z21, iv 0] [(.ref u), (.ref u)])) rfl (by rw [hml]; rfl) (Steps.refl _) (argsL := [(.ref u)]) (rest := []) (lenOf pd__Ljava_lang_Object__Z rfl) rfl (by show 2 * 0 + _ ≤ _; exact Nat.le_of_eq rfl) (hb hby at_347) (fun _ _ => ⟨rfl, kq8, (by decide : 7 + 0 ≤ _), (by decide : 14 + 0 ≤ _)⟩)
            dsimp only [Pt.U, Pt.locs, Pt.cells, Pt.slots] at X9 lq9 yq9 zz9 st9 hQ9
            subst lq9 yq9 zz9
            obtain ⟨rfl, Nq9, kq9⟩ := hQ9
            have N9 := Fr.app N8 Nq9
            refine Go.tr (f' := (mkF m 350 #[iv p1, iv p2, iv p3, iv p4, iv p5, iv yy1, iv yy2, iv yy3, iv yy4, iv z9, iv z10, iv z11, iv z12, iv z13, iv z14, iv z15, iv z16, iv z17, rv u, .val .null, iv z20, iv z21, iv 0] [(.int 1)])) st9 ?_
            refine Go.st (f' := (mkF m 355 #[iv p1, iv p2, iv p3, iv p4, iv p5, iv yy1, iv yy2, iv yy3, iv yy4, iv z9, iv z10, iv z11, iv z12, iv z13, iv z14, iv z15, iv z16, iv z17, rv u, .val .null, iv z20, iv z21, iv 0] [])) (fun _ k => XS.ifYes X9.here hx rfl (pc0 := 350) (pc' := 355) rfl (hb hby at_350) rfl (by decide) (by decide) (by decide) k) ?_
            refine Go.st (f' := (mkF m 357 #[iv p1, iv p2, iv p3, iv p4, iv p5, iv yy1, iv yy2, iv yy3, iv yy4, iv z9, iv z10, iv z11, iv z12, iv z13, iv z14, iv z15, iv z16, iv z17, rv u, .val .null, iv z20, iv z21, iv 0] [(.int z17)])) (fun _ k => XS.iload X9.here hx rfl (hb hby at_355) rfl k) ?_
            refine Go.st (f' := (mkF m 358 #[iv p1, iv p2, iv p3, iv p4, iv p5, iv yy1, iv yy2, iv yy3, iv yy4, iv z9, iv z10, iv z11, iv z12, iv z13, iv z14, iv z15, iv z16, iv z17, rv u, .val .null, iv z20, iv z21, iv 0] [(.int 1), (.int z17)])) (fun _ k => XS.iconst X9.here hx rfl (hb hby at_357) k) ?_
            refine Go.st (f' := (mkF m 375 #[iv p1, iv p2, iv p3, iv p4, iv p5, iv yy1, iv yy2, iv yy3, iv yy4, iv z9, iv z10, iv z11, iv z12, iv z13, iv z14, iv z15, iv z16, iv z17, rv u, .val .null, iv z20, iv z21, iv 0] [])) (fun _ k => XS.icmpYes X9.here hx rfl (pc0 := 358) (pc' := 375) rfl (hb hby at_358) rfl (tlt cd6).2.2.1 (by decide) (by decide) k) ?_
            refine Go.st (f' := (mkF m 376 #[iv p1, iv p2, iv p3, iv p4, iv p5, iv yy1, iv yy2, iv yy3, iv yy4, iv z9, iv z10, iv z11, iv z12, iv z13, iv z14, iv z15, iv z16, iv z17, rv u, .val .null, iv z20, iv z21, iv 0] [(.int 1)])) (fun _ k => XS.iconst X9.here hx rfl (hb hby at_375) k) ?_
            refine GoW.retB X9 hlk hx (t := .boolean) hret (by simp) (hb hby at_376) kq9 hSJ5 hkJ5 hZJ5 hEL CRJ5 hh ?_ (by decide) (by decide)
            exact ⟨rfl, N9⟩
          refine Go.st (f' := (mkF m 262 #[iv p1, iv p2, iv p3, iv p4, iv p5, iv yy1, iv yy2, iv yy3, iv yy4, iv z9, iv z10, iv z11, iv z12, iv z13, iv z14, iv z15, iv z16, iv z17, rv u, .val .null, .unset, .unset, .unset] [(.int z10)])) (fun _ k => XS.iload XJ5.here hx rfl (hb hby at_260) rfl k) ?_
          refine Go.st (f' := (mkF m 264 #[iv p1, iv p2, iv p3, iv p4, iv p5, iv yy1, iv yy2, iv yy3, iv yy4, iv z9, iv z10, iv z11, iv z12, iv z13, iv z14, iv z15, iv z16, iv z17, rv u, .val .null, .unset, .unset, .unset] [(.int z13), (.int z10)])) (fun _ k => XS.iload XJ5.here hx rfl (hb hby at_262) rfl k) ?_
          by_cases cd10 : z10 = z13
          · refine Go.st (f' := (mkF m 267 #[iv p1, iv p2, iv p3, iv p4, iv p5, iv yy1, iv yy2, iv yy3, iv yy4, iv z9, iv z10, iv z11, iv z12, iv z13, iv z14, iv z15, iv z16, iv z17, rv u, .val .null, .unset, .unset, .unset] [])) (fun _ k => XS.icmpNo XJ5.here hx rfl (hb hby at_264) rfl (teq cd10).2 k) ?_
            refine Go.st (f' := (mkF m 269 #[iv p1, iv p2, iv p3, iv p4, iv p5, iv yy1, iv yy2, iv yy3, iv yy4, iv z9, iv z10, iv z11, iv z12, iv z13, iv z14, iv z15, iv z16, iv z17, rv u, .val .null, .unset, .unset, .unset] [(.int z10)])) (fun _ k => XS.iload XJ5.here hx rfl (hb hby at_267) rfl k) ?_
            refine Go.st (f' := (mkF m 270 #[iv p1, iv p2, iv p3, iv p4, iv p5, iv yy1, iv yy2, iv yy3, iv yy4, iv z9, iv z10, iv z11, iv z12, iv z13, iv z14, iv z15, iv z16, iv z17, rv u, .val .null, .unset, .unset, .unset] [(.int 2), (.int z10)])) (fun _ k => XS.iconst XJ5.here hx rfl (hb hby at_269) k) ?_
            by_cases cd11 : z10 < (2 : Int32)
            · refine Go.st (f' := (mkF m 280 #[iv p1, iv p2, iv p3, iv p4, iv p5, iv yy1, iv yy2, iv yy3, iv yy4, iv z9, iv z10, iv z11, iv z12, iv z13, iv z14, iv z15, iv z16, iv z17, rv u, .val .null, .unset, .unset, .unset] [])) (fun _ k => XS.icmpYes XJ5.here hx rfl (pc0 := 270) (pc' := 280) rfl (hb hby at_270) rfl (tlt cd11).1 (by decide) (by decide) k) ?_
              refine Go.st (f' := (mkF m 282 #[iv p1, iv p2, iv p3, iv p4, iv p5, iv yy1, iv yy2, iv yy3, iv yy4, iv z9, iv z10, iv z11, iv z12, iv z13, iv z14, iv z15, iv z16, iv z17, rv u, .val .null, .unset, .unset, .unset] [(.int z10)])) (fun _ k => XS.iload XJ5.here hx rfl (hb hby at_280) rfl k) ?_
              refine Go.st (f' := (mkF m 283 #[iv p1, iv p2, iv p3, iv p4, iv p5, iv yy1, iv yy2, iv yy3, iv yy4, iv z9, iv z10, iv z11, iv z12, iv z13, iv z14, iv z15, iv z16, iv z17, rv u, .val .null, .unset, .unset, .unset] [(.int 3), (.int z10)])) (fun _ k => XS.iconst XJ5.here hx rfl (hb hby at_282) k) ?_
              by_cases cd12 : z10 < (3 : Int32)
              · refine Go.st (f' := (mkF m 293 #[iv p1, iv p2, iv p3, iv p4, iv p5, iv yy1, iv yy2, iv yy3, iv yy4, iv z9, iv z10, iv z11, iv z12, iv z13, iv z14, iv z15, iv z16, iv z17, rv u, .val .null, .unset, .unset, .unset] [])) (fun _ k => XS.icmpYes XJ5.here hx rfl (pc0 := 283) (pc' := 293) rfl (hb hby at_283) rfl (tlt cd12).1 (by decide) (by decide) k) ?_
                refine Go.st (f' := (mkF m 294 #[iv p1, iv p2, iv p3, iv p4, iv p5, iv yy1, iv yy2, iv yy3, iv yy4, iv z9, iv z10, iv z11, iv z12, iv z13, iv z14, iv z15, iv z16, iv z17, rv u, .val .null, .unset, .unset, .unset] [(.int 1)])) (fun _ k => XS.iconst XJ5.here hx rfl (hb hby at_293) k) ?_
                refine Go.st (f' := (mkF m 298 #[iv p1, iv p2, iv p3, iv p4, iv p5, iv yy1, iv yy2, iv yy3, iv yy4, iv z9, iv z10, iv z11, iv z12, iv z13, iv z14, iv z15, iv z16, iv z17, rv u, .val .null, .unset, .unset, .unset] [(.int 1)])) (fun _ k => XS.goto XJ5.here hx rfl (pc0 := 294) (pc' := 298) rfl (hb hby at_294) (by decide) (by decide) k) ?_
                refine Go.st (f' := (mkF m 300 #[iv p1, iv p2, iv p3, iv p4, iv p5, iv yy1, iv yy2, iv yy3, iv yy4, iv z9, iv z10, iv z11, iv z12, iv z13, iv z14, iv z15, iv z16, iv z17, rv u, .val .null, iv 1, .unset, .unset] [])) (fun _ k => XS.istore XJ5.here hx rfl (hb hby at_298) rfl (l' := #[iv p1, iv p2, iv p3, iv p4, iv p5, iv yy1, iv yy2, iv yy3, iv yy4, iv z9, iv z10, iv z11, iv z12, iv z13, iv z14, iv z15, iv z16, iv z17, rv u, .val .null, iv 1, .unset, .unset]) rfl k) ?_
                refine Go.st (f' := (mkF m 302 #[iv p1, iv p2, iv p3, iv p4, iv p5, iv yy1, iv yy2, iv yy3, iv yy4, iv z9, iv z10, iv z11, iv z12, iv z13, iv z14, iv z15, iv z16, iv z17, rv u, .val .null, iv 1, .unset, .unset] [(.int z17)])) (fun _ k => XS.iload XJ5.here hx rfl (hb hby at_300) rfl k) ?_
                refine Go.st (f' := (mkF m 303 #[iv p1, iv p2, iv p3, iv p4, iv p5, iv yy1, iv yy2, iv yy3, iv yy4, iv z9, iv z10, iv z11, iv z12, iv z13, iv z14, iv z15, iv z16, iv z17, rv u, .val .null, iv 1, .unset, .unset] [(.int 1), (.int z17)])) (fun _ k => XS.iconst XJ5.here hx rfl (hb hby at_302) k) ?_
                refine Go.st (f' := (mkF m 322 #[iv p1, iv p2, iv p3, iv p4, iv p5, iv yy1, iv yy2, iv yy3, iv yy4, iv z9, iv z10, iv z11, iv z12, iv z13, iv z14, iv z15, iv z16, iv z17, rv u, .val .null, iv 1, .unset, .unset] [])) (fun _ k => XS.icmpYes XJ5.here hx rfl (pc0 := 303) (pc' := 322) rfl (hb hby at_303) rfl (tlt cd6).2.2.1 (by decide) (by decide) k) ?_
                refine Go.st (f' := (mkF m 323 #[iv p1, iv p2, iv p3, iv p4, iv p5, iv yy1, iv yy2, iv yy3, iv yy4, iv z9, iv z10, iv z11, iv z12, iv z13, iv z14, iv z15, iv z16, iv z17, rv u, .val .null, iv 1, .unset, .unset] [(.int 0)])) (fun _ k => XS.iconst XJ5.here hx rfl (hb hby at_322) k) ?_
                refine Go.st (f' := (mkF m 325 #[iv p1, iv p2, iv p3, iv p4, iv p5, iv yy1, iv yy2, iv yy3, iv yy4, iv z9, iv z10, iv z11, iv z12, iv z13, iv z14, iv z15, iv z16, iv z17, rv u, .val .null, iv 1, iv 0, .unset] [])) (fun _ k => XS.istore XJ5.here hx rfl (hb hby at_323) rfl (l' := #[iv p1, iv p2, iv p3, iv p4, iv p5, iv yy1, iv yy2, iv yy3, iv yy4, iv z9, iv z10, iv z11, iv z12, iv z13, iv z14, iv z15, iv z16, iv z17, rv u, .val .null, iv 1, iv 0, .unset]) rfl k) ?_
                exact J2 (1 : Int32) (0 : Int32) rfl
              · refine Go.st (f' := (mkF m 286 #[iv p1, iv p2, iv p3, iv p4, iv p5, iv yy1, iv yy2, iv yy3, iv yy4, iv z9, iv z10, iv z11, iv z12, iv z13, iv z14, iv z15, iv z16, iv z17, rv u, .val .null, .unset, .unset, .unset] [])) (fun _ k => XS.icmpNo XJ5.here hx rfl (hb hby at_283) rfl (flt cd12).1 k) ?_
                refine Go.st (f' := (mkF m 288 #[iv p1, iv p2, iv p3, iv p4, iv p5, iv yy1, iv yy2, iv yy3, iv yy4, iv z9, iv z10, iv z11, iv z12, iv z13, iv z14, iv z15, iv z16, iv z17, rv u, .val .null, .unset, .unset, .unset] [(.int yy2)])) (fun _ k => XS.iload XJ5.here hx rfl (hb hby at_286) rfl k) ?_
                refine Go.st (f' := (mkF m 290 #[iv p1, iv p2, iv p3, iv p4, iv p5, iv yy1, iv yy2, iv yy3, iv yy4, iv z9, iv z10, iv z11, iv z12, iv z13, iv z14, iv z15, iv z16, iv z17, rv u, .val .null, .unset, .unset, .unset] [(.int z16), (.int yy2)])) (fun _ k => XS.iload XJ5.here hx rfl (hb hby at_288) rfl k) ?_
                by_cases cd13 : yy2 = z16
                · refine Go.st (f' := (mkF m 293 #[iv p1, iv p2, iv p3, iv p4, iv p5, iv yy1, iv yy2, iv yy3, iv yy4, iv z9, iv z10, iv z11, iv z12, iv z13, iv z14, iv z15, iv z16, iv z17, rv u, .val .null, .unset, .unset, .unset] [])) (fun _ k => XS.icmpNo XJ5.here hx rfl (hb hby at_290) rfl (teq cd13).2 k) ?_
                  refine Go.st (f' := (mkF m 294 #[iv p1, iv p2, iv p3, iv p4, iv p5, iv yy1, iv yy2, iv yy3, iv yy4, iv z9, iv z10, iv z11, iv z12, iv z13, iv z14, iv z15, iv z16, iv z17, rv u, .val .null, .unset, .unset, .unset] [(.int 1)])) (fun _ k => XS.iconst XJ5.here hx rfl (hb hby at_293) k) ?_
                  refine Go.st (f' := (mkF m 298 #[iv p1, iv p2, iv p3, iv p4, iv p5, iv yy1, iv yy2, iv yy3, iv yy4, iv z9, iv z10, iv z11, iv z12, iv z13, iv z14, iv z15, iv z16, iv z17, rv u, .val .null, .unset, .unset, .unset] [(.int 1)])) (fun _ k => XS.goto XJ5.here hx rfl (pc0 := 294) (pc' := 298) rfl (hb hby at_294) (by decide) (by decide) k) ?_
                  refine Go.st (f' := (mkF m 300 #[iv p1, iv p2, iv p3, iv p4, iv p5, iv yy1, iv yy2, iv yy3, iv yy4, iv z9, iv z10, iv z11, iv z12, iv z13, iv z14, iv z15, iv z16, iv z17, rv u, .val .null, iv 1, .unset, .unset] [])) (fun _ k => XS.istore XJ5.here hx rfl (hb hby at_298) rfl (l' := #[iv p1, iv p2, iv p3, iv p4, iv p5, iv yy1, iv yy2, iv yy3, iv yy4, iv z9, iv z10, iv z11, iv z12, iv z13, iv z14, iv z15, iv z16, iv z17, rv u, .val .null, iv 1, .unset, .unset]) rfl k) ?_
                  refine Go.st (f' := (mkF m 302 #[iv p1, iv p2, iv p3, iv p4, iv p5, iv yy1, iv yy2, iv yy3, iv yy4, iv z9, iv z10, iv z11, iv z12, iv z13, iv z14, iv z15, iv z16, iv z17, rv u, .val .null, iv 1, .unset, .unset] [(.int z17)])) (fun _ k => XS.iload XJ5.here hx rfl (hb hby at_300) rfl k) ?_
                  refine Go.st (f' := (mkF m 303 #[iv p1, iv p2, iv p3, iv p4, iv p5, iv yy1, iv yy2, iv yy3, iv yy4, iv z9, iv z10, iv z11, iv z12, iv z13, iv z14, iv z15, iv z16, iv z17, rv u, .val .null, iv 1, .unset, .unset] [(.int 1), (.int z17)])) (fun _ k => XS.iconst XJ5.here hx rfl (hb hby at_302) k) ?_
                  refine Go.st (f' := (mkF m 322 #[iv p1, iv p2, iv p3, iv p4, iv p5, iv yy1, iv yy2, iv yy3, iv yy4, iv z9, iv z10, iv z11, iv z12, iv z13, iv z14, iv z15, iv z16, iv z17, rv u, .val .null, iv 1, .unset, .unset] [])) (fun _ k => XS.icmpYes XJ5.here hx rfl (pc0 := 303) (pc' := 322) rfl (hb hby at_303) rfl (tlt cd6).2.2.1 (by decide) (by decide) k) ?_
                  refine Go.st (f' := (mkF m 323 #[iv p1, iv p2, iv p3, iv p4, iv p5, iv yy1, iv yy2, iv yy3, iv yy4, iv z9, iv z10, iv z11, iv z12, iv z13, iv z14, iv z15, iv z16, iv z17, rv u, .val .null, iv 1, .unset, .unset] [(.int 0)])) (fun _ k => XS.iconst XJ5.here hx rfl (hb hby at_322) k) ?_
                  refine Go.st (f' := (mkF m 325 #[iv p1, iv p2, iv p3, iv p4, iv p5, iv yy1, iv yy2, iv yy3, iv yy4, iv z9, iv z10, iv z11, iv z12, iv z13, iv z14, iv z15, iv z16, iv z17, rv u, .val .null, iv 1, iv 0, .unset] [])) (fun _ k => XS.istore XJ5.here hx rfl (hb hby at_323) rfl (l' := #[iv p1, iv p2, iv p3, iv p4, iv p5, iv yy1, iv yy2, iv yy3, iv yy4, iv z9, iv z10, iv z11, iv z12, iv z13, iv z14, iv z15, iv z16, iv z17, rv u, .val .null, iv 1, iv 0, .unset]) rfl k) ?_
                  exact J2 (1 : Int32) (0 : Int32) rfl
                · refine Go.st (f' := (mkF m 297 #[iv p1, iv p2, iv p3, iv p4, iv p5, iv yy1, iv yy2, iv yy3, iv yy4, iv z9, iv z10, iv z11, iv z12, iv z13, iv z14, iv z15, iv z16, iv z17, rv u, .val .null, .unset, .unset, .unset] [])) (fun _ k => XS.icmpYes XJ5.here hx rfl (pc0 := 290) (pc' := 297) rfl (hb hby at_290) rfl (feq cd13).2 (by decide) (by decide) k) ?_
                  refine Go.st (f' := (mkF m 298 #[iv p1, iv p2, iv p3, iv p4, iv p5, iv yy1, iv yy2, iv yy3, iv yy4, iv z9, iv z10, iv z11, iv z12, iv z13, iv z14, iv z15, iv z16, iv z17, rv u, .val .null, .unset, .unset, .unset] [(.int 0)])) (fun _ k => XS.iconst XJ5.here hx rfl (hb hby at_297) k) ?_
                  refine Go.st (f' := (mkF m 300 #[iv p1, iv p2, iv p3, iv p4, iv p5, iv yy1, iv yy2, iv yy3, iv yy4, iv z9, iv z10, iv z11, iv z12, iv z13, iv z14, iv z15, iv z16, iv z17, rv u, .val .null, iv 0, .unset, .unset] [])) (fun _ k => XS.istore XJ5.here hx rfl (hb hby at_298) rfl (l' := #[iv p1, iv p2, iv p3, iv p4, iv p5, iv yy1, iv yy2, iv yy3, iv yy4, iv z9, iv z10, iv z11, iv z12, iv z13, iv z14, iv z15, iv z16, iv z17, rv u, .val .null, iv 0, .unset, .unset]) rfl k) ?_
                  refine Go.st (f' := (mkF m 302 #[iv p1, iv p2, iv p3, iv p4, iv p5, iv yy1, iv yy2, iv yy3, iv yy4, iv z9, iv z10, iv z11, iv z12, iv z13, iv z14, iv z15, iv z16, iv z17, rv u, .val .null, iv 0, .unset, .unset] [(.int z17)])) (fun _ k => XS.iload XJ5.here hx rfl (hb hby at_300) rfl k) ?_
                  refine Go.st (f' := (mkF m 303 #[iv p1, iv p2, iv p3, iv p4, iv p5, iv yy1, iv yy2, iv yy3, iv yy4, iv z9, iv z10, iv z11, iv z12, iv z13, iv z14, iv z15, iv z16, iv z17, rv u, .val .null, iv 0, .unset, .unset] [(.int 1), (.int z17)])) (fun _ k => XS.iconst XJ5.here hx rfl (hb hby at_302) k) ?_
                  refine Go.st (f' := (mkF m 322 #[iv p1, iv p2, iv p3, iv p4, iv p5, iv yy1, iv yy2, iv yy3, iv yy4, iv z9, iv z10, iv z11, iv z12, iv z13, iv z14, iv z15, iv z16, iv z17, rv u, .val .null, iv 0, .unset, .unset] [])) (fun _ k => XS.icmpYes XJ5.here hx rfl (pc0 := 303) (pc' := 322) rfl (hb hby at_303) rfl (tlt cd6).2.2.1 (by decide) (by decide) k) ?_
                  refine Go.st (f' := (mkF m 323 #[iv p1, iv p2, iv p3, iv p4, iv p5, iv yy1, iv yy2, iv yy3, iv yy4, iv z9, iv z10, iv z11, iv z12, iv z13, iv z14, iv z15, iv z16, iv z17, rv u, .val .null, iv 0, .unset, .unset] [(.int 0)])) (fun _ k => XS.iconst XJ5.here hx rfl (hb hby at_322) k) ?_
                  refine Go.st (f' := (mkF m 325 #[iv p1, iv p2, iv p3, iv p4, iv p5, iv yy1, iv yy2, iv yy3, iv yy4, iv z9, iv z10, iv z11, iv z12, iv z13, iv z14, iv z15, iv z16, iv z17, rv u, .val .null, iv 0, iv 0, .unset] [])) (fun _ k => XS.istore XJ5.here hx rfl (hb hby at_323) rfl (l' := #[iv p1, iv p2, iv p3, iv p4, iv p5, iv yy1, iv yy2, iv yy3, iv yy4, iv z9, iv z10, iv z11, iv z12, iv z13, iv z14, iv z15, iv z16, iv z17, rv u, .val .null, iv 0, iv 0, .unset]) rfl k) ?_
                  exact J2 (0 : Int32) (0 : Int32) rfl
            · refine Go.st (f' := (mkF m 273 #[iv p1, iv p2, iv p3, iv p4, iv p5, iv yy1, iv yy2, iv yy3, iv yy4, iv z9, iv z10, iv z11, iv z12, iv z13, iv z14, iv z15, iv z16, iv z17, rv u, .val .null, .unset, .unset, .unset] [])) (fun _ k => XS.icmpNo XJ5.here hx rfl (hb hby at_270) rfl (flt cd11).1 k) ?_
              refine Go.st (f' := (mkF m 275 #[iv p1, iv p2, iv p3, iv p4, iv p5, iv yy1, iv yy2, iv yy3, iv yy4, iv z9, iv z10, iv z11, iv z12, iv z13, iv z14, iv z15, iv z16, iv z17, rv u, .val .null, .unset, .unset, .unset] [(.int yy1)])) (fun _ k => XS.iload XJ5.here hx rfl (hb hby at_273) rfl k) ?_
              refine Go.st (f' := (mkF m 277 #[iv p1, iv p2, iv p3, iv p4, iv p5, iv yy1, iv yy2, iv yy3, iv yy4, iv z9, iv z10, iv z11, iv z12, iv z13, iv z14, iv z15, iv z16, iv z17, rv u, .val .null, .unset, .unset, .unset] [(.int z15), (.int yy1)])) (fun _ k => XS.iload XJ5.here hx rfl (hb hby at_275) rfl k) ?_
              by_cases cd14 : yy1 = z15
              · refine Go.st (f' := (mkF m 280 #[iv p1, iv p2, iv p3, iv p4, iv p5, iv yy1, iv yy2, iv yy3, iv yy4, iv z9, iv z10, iv z11, iv z12, iv z13, iv z14, iv z15, iv z16, iv z17, rv u, .val .null, .unset, .unset, .unset] [])) (fun _ k => XS.icmpNo XJ5.here hx rfl (hb hby at_277) rfl (teq cd14).2 k) ?_
                refine Go.st (f' := (mkF m 282 #[iv p1, iv p2, iv p3, iv p4, iv p5, iv yy1, iv yy2, iv yy3, iv yy4, iv z9, iv z10, iv z11, iv z12, iv z13, iv z14, iv z15, iv z16, iv z17, rv u, .val .null, .unset, .unset, .unset] [(.int z10)])) (fun _ k => XS.iload XJ5.here hx rfl (hb hby at_280) rfl k) ?_
                refine Go.st (f' := (mkF m 283 #[iv p1, iv p2, iv p3, iv p4, iv p5, iv yy1, iv yy2, iv yy3, iv yy4, iv z9, iv z10, iv z11, iv z12, iv z13, iv z14, iv z15, iv z16, iv z17, rv u, .val .null, .unset, .unset, .unset] [(.int 3), (.int z10)])) (fun _ k => XS.iconst XJ5.here hx rfl (hb hby at_282) k) ?_
                by_cases cd15 : z10 < (3 : Int32)
                · refine Go.st (f' := (mkF m 293 #[iv p1, iv p2, iv p3, iv p4, iv p5, iv yy1, iv yy2, iv yy3, iv yy4, iv z9, iv z10, iv z11, iv z12, iv z13, iv z14, iv z15, iv z16, iv z17, rv u, .val .null, .unset, .unset, .unset] [])) (fun _ k => XS.icmpYes XJ5.here hx rfl (pc0 := 283) (pc' := 293) rfl (hb hby at_283) rfl (tlt cd15).1 (by decide) (by decide) k) ?_
                  refine Go.st (f' := (mkF m 294 #[iv p1, iv p2, iv p3, iv p4, iv p5, iv yy1, iv yy2, iv yy3, iv yy4, iv z9, iv z10, iv z11, iv z12, iv z13, iv z14, iv z15, iv z16, iv z17, rv u, .val .null, .unset, .unset, .unset] [(.int 1)])) (fun _ k => XS.iconst XJ5.here hx rfl (hb hby at_293) k) ?_
                  refine Go.st (f' := (mkF m 298 #[iv p1, iv p2, iv p3, iv p4, iv p5, iv yy1, iv yy2, iv yy3, iv yy4, iv z9, iv z10, iv z11, iv z12, iv z13, iv z14, iv z15, iv z16, iv z17, rv u, .val .null, .unset, .unset, .unset] [(.int 1)])) (fun _ k => XS.goto XJ5.here hx rfl (pc0 := 294) (pc' := 298) rfl (hb hby at_294) (by decide) (by decide) k) ?_
                  refine Go.st (f' := (mkF m 300 #[iv p1, iv p2, iv p3, iv p4, iv p5, iv yy1, iv yy2, iv yy3, iv yy4, iv z9, iv z10, iv z11, iv z12, iv z13, iv z14, iv z15, iv z16, iv z17, rv u, .val .null, iv 1, .unset, .unset] [])) (fun _ k => XS.istore XJ5.here hx rfl (hb hby at_298) rfl (l' := #[iv p1, iv p2, iv p3, iv p4, iv p5, iv yy1, iv yy2, iv yy3, iv yy4, iv z9, iv z10, iv z11, iv z12, iv z13, iv z14, iv z15, iv z16, iv z17, rv u, .val .null, iv 1, .unset, .unset]) rfl k) ?_
                  refine Go.st (f' := (mkF m 302 #[iv p1, iv p2, iv p3, iv p4, iv p5, iv yy1, iv yy2, iv yy3, iv yy4, iv z9, iv z10, iv z11, iv z12, iv z13, iv z14, iv z15, iv z16, iv z17, rv u, .val .null, iv 1, .unset, .unset] [(.int z17)])) (fun _ k => XS.iload XJ5.here hx rfl (hb hby at_300) rfl k) ?_
                  refine Go.st (f' := (mkF m 303 #[iv p1, iv p2, iv p3, iv p4, iv p5, iv yy1, iv yy2, iv yy3, iv yy4, iv z9, iv z10, iv z11, iv z12, iv z13, iv z14, iv z15, iv z16, iv z17, rv u, .val .null, iv 1, .unset, .unset] [(.int 1), (.int z17)])) (fun _ k => XS.iconst XJ5.here hx rfl (hb hby at_302) k) ?_
                  refine Go.st (f' := (mkF m 322 #[iv p1, iv p2, iv p3, iv p4, iv p5, iv yy1, iv yy2, iv yy3, iv yy4, iv z9, iv z10, iv z11, iv z12, iv z13, iv z14, iv z15, iv z16, iv z17, rv u, .val .null, iv 1, .unset, .unset] [])) (fun _ k => XS.icmpYes XJ5.here hx rfl (pc0 := 303) (pc' := 322) rfl (hb hby at_303) rfl (tlt cd6).2.2.1 (by decide) (by decide) k) ?_
                  refine Go.st (f' := (mkF m 323 #[iv p1, iv p2, iv p3, iv p4, iv p5, iv yy1, iv yy2, iv yy3, iv yy4, iv z9, iv z10, iv z11, iv z12, iv z13, iv z14, iv z15, iv z16, iv z17, rv u, .val .null, iv 1, .unset, .unset] [(.int 0)])) (fun _ k => XS.iconst XJ5.here hx rfl (hb hby at_322) k) ?_
                  refine Go.st (f' := (mkF m 325 #[iv p1, iv p2, iv p3, iv p4, iv p5, iv yy1, iv yy2, iv yy3, iv yy4, iv z9, iv z10, iv z11, iv z12, iv z13, iv z14, iv z15, iv z16, iv z17, rv u, .val .null, iv 1, iv 0, .unset] [])) (fun _ k => XS.istore XJ5.here hx rfl (hb hby at_323) rfl (l' := #[iv p1, iv p2, iv p3, iv p4, iv p5, iv yy1, iv yy2, iv yy3, iv yy4, iv z9, iv z10, iv z11, iv z12, iv z13, iv z14, iv z15, iv z16, iv z17, rv u, .val .null, iv 1, iv 0, .unset]) rfl k) ?_
                  exact J2 (1 : Int32) (0 : Int32) rfl
                · refine Go.st (f' := (mkF m 286 #[iv p1, iv p2, iv p3, iv p4, iv p5, iv yy1, iv yy2, iv yy3, iv yy4, iv z9, iv z10, iv z11, iv z12, iv z13, iv z14, iv z15, iv z16, iv z17, rv u, .val .null, .unset, .unset, .unset] [])) (fun _ k => XS.icmpNo XJ5.here hx rfl (hb hby at_283) rfl (flt cd15).1 k) ?_
                  refine Go.st (f' := (mkF m 288 #[iv p1, iv p2, iv p3, iv p4, iv p5, iv yy1, iv yy2, iv yy3, iv yy4, iv z9, iv z10, iv z11, iv z12, iv z13, iv z14, iv z15, iv z16, iv z17, rv u, .val .null, .unset, .unset, .unset] [(.int yy2)])) (fun _ k => XS.iload XJ5.here hx rfl (hb hby at_286) rfl k) ?_
                  refine Go.st (f' := (mkF m 290 #[iv p1, iv p2, iv p3, iv p4, iv p5, iv yy1, iv yy2, iv yy3, iv yy4, iv z9, iv z10, iv z11, iv z12, iv z13, iv z14, iv z15, iv z16, iv z17, rv u, .val .null, .unset, .unset, .unset] [(.int z16), (.int yy2)])) (fun _ k => XS.iload XJ5.here hx rfl (hb hby at_288) rfl k) ?_
                  by_cases cd16 : yy2 = z16
                  · refine Go.st (f' := (mkF m 293 #[iv p1, iv p2, iv p3, iv p4, iv p5, iv yy1, iv yy2, iv yy3, iv yy4, iv z9, iv z10, iv z11, iv z12, iv z13, iv z14, iv z15, iv z16, iv z17, rv u, .val .null, .unset, .unset, .unset] [])) (fun _ k => XS.icmpNo XJ5.here hx rfl (hb hby at_290) rfl (teq cd16).2 k) ?_
                    refine Go.st (f' := (mkF m 294 #[iv p1, iv p2, iv p3, iv p4, iv p5, iv yy1, iv yy2, iv yy3, iv yy4, iv z9, iv z10, iv z11, iv z12, iv z13, iv z14, iv z15, iv z16, iv z17, rv u, .val .null, .unset, .unset, .unset] [(.int 1)])) (fun _ k => XS.iconst XJ5.here hx rfl (hb hby at_293) k) ?_
                    refine Go.st (f' := (mkF m 298 #[iv p1, iv p2, iv p3, iv p4, iv p5, iv yy1, iv yy2, iv yy3, iv yy4, iv z9, iv z10, iv z11, iv z12, iv z13, iv z14, iv z15, iv z16, iv z17, rv u, .val .null, .unset, .unset, .unset] [(.int 1)])) (fun _ k => XS.goto XJ5.here hx rfl (pc0 := 294) (pc' := 298) rfl (hb hby at_294) (by decide) (by decide) k) ?_
                    refine Go.st (f' := (mkF m 300 #[iv p1, iv p2, iv p3, iv p4, iv p5, iv yy1, iv yy2, iv yy3, iv yy4, iv z9, iv z10, iv z11, iv z12, iv z13, iv z14, iv z15, iv z16, iv z17, rv u, .val .null, iv 1, .unset, .unset] [])) (fun _ k => XS.istore XJ5.here hx rfl (hb hby at_298) rfl (l' := #[iv p1, iv p2, iv p3, iv p4, iv p5, iv yy1, iv yy2, iv yy3, iv yy4, iv z9, iv z10, iv z11, iv z12, iv z13, iv z14, iv z15, iv z16, iv z17, rv u, .val .null, iv 1, .unset, .unset]) rfl k) ?_
                    refine Go.st (f' := (mkF m 302 #[iv p1, iv p2, iv p3, iv p4, iv p5, iv yy1, iv yy2, iv yy3, iv yy4, iv z9, iv z10, iv z11, iv z12, iv z13, iv z14, iv z15, iv z16, iv z17, rv u, .val .null, iv 1, .unset, .unset] [(.int z17)])) (fun _ k => XS.iload XJ5.here hx rfl (hb hby at_300) rfl k) ?_
                    refine Go.st (f' := (mkF m 303 #[iv p1, iv p2, iv p3, iv p4, iv p5, iv yy1, iv yy2, iv yy3, iv yy4, iv z9, iv z10, iv z11, iv z12, iv z13, iv z14, iv z15, iv z16, iv z17, rv u, .val .null, iv 1, .unset, .unset] [(.int 1), (.int z17)])) (fun _ k => XS.iconst XJ5.here hx rfl (hb hby at_302) k) ?_
                    refine Go.st (f' := (mkF m 322 #[iv p1, iv p2, iv p3, iv p4, iv p5, iv yy1, iv yy2, iv yy3, iv yy4, iv z9, iv z10, iv z11, iv z12, iv z13, iv z14, iv z15, iv z16, iv z17, rv u, .val .null, iv 1, .unset, .unset] [])) (fun _ k => XS.icmpYes XJ5.here hx rfl (pc0 := 303) (pc' := 322) rfl (hb hby at_303) rfl (tlt cd6).2.2.1 (by decide) (by decide) k) ?_
                    refine Go.st (f' := (mkF m 323 #[iv p1, iv p2, iv p3, iv p4, iv p5, iv yy1, iv yy2, iv yy3, iv yy4, iv z9, iv z10, iv z11, iv z12, iv z13, iv z14, iv z15, iv z16, iv z17, rv u, .val .null, iv 1, .unset, .unset] [(.int 0)])) (fun _ k => XS.iconst XJ5.here hx rfl (hb hby at_322) k) ?_
                    refine Go.st (f' := (mkF m 325 #[iv p1, iv p2, iv p3, iv p4, iv p5, iv yy1, iv yy2, iv yy3, iv yy4, iv z9, iv z10, iv z11, iv z12, iv z13, iv z14, iv z15, iv z16, iv z17, rv u, .val .null, iv 1, iv 0, .unset] [])) (fun _ k => XS.istore XJ5.here hx rfl (hb hby at_323) rfl (l' := #[iv p1, iv p2, iv p3, iv p4, iv p5, iv yy1, iv yy2, iv yy3, iv yy4, iv z9, iv z10, iv z11, iv z12, iv z13, iv z14, iv z15, iv z16, iv z17, rv u, .val .null, iv 1, iv 0, .unset]) rfl k) ?_
                    exact J2 (1 : Int32) (0 : Int32) rfl
                  · refine Go.st (f' := (mkF m 297 #[iv p1, iv p2, iv p3, iv p4, iv p5, iv yy1, iv yy2, iv yy3, iv yy4, iv z9, iv z10, iv z11, iv z12, iv z13, iv z14, iv z15, iv z16, iv z17, rv u, .val .null, .unset, .unset, .unset] [])) (fun _ k => XS.icmpYes XJ5.here hx rfl (pc0 := 290) (pc' := 297) rfl (hb hby at_290) rfl (feq cd16).2 (by decide) (by decide) k) ?_
                    refine Go.st (f' := (mkF m 298 #[iv p1, iv p2, iv p3, iv p4, iv p5, iv yy1, iv yy2, iv yy3, iv yy4, iv z9, iv z10, iv z11, iv z12, iv z13, iv z14, iv z15, iv z16, iv z17, rv u, .val .null, .unset, .unset, .unset] [(.int 0)])) (fun _ k => XS.iconst XJ5.here hx rfl (hb hby at_297) k) ?_
                    refine Go.st (f' := (mkF m 300 #[iv p1, iv p2, iv p3, iv p4, iv p5, iv yy1, iv yy2, iv yy3, iv yy4, iv z9, iv z10, iv z11, iv z12, iv z13, iv z14, iv z15, iv z16, iv z17, rv u, .val .null, iv 0, .unset, .unset] [])) (fun _ k => XS.istore XJ5.here hx rfl (hb hby at_298) rfl (l' := #[iv p1, iv p2, iv p3, iv p4, iv p5, iv yy1, iv yy2, iv yy3, iv yy4, iv z9, iv z10, iv z11, iv z12, iv z13, iv z14, iv z15, iv z16, iv z17, rv u, .val .null, iv 0, .unset, .unset]) rfl k) ?_
                    refine Go.st (f' := (mkF m 302 #[iv p1, iv p2, iv p3, iv p4, iv p5, iv yy1, iv yy2, iv yy3, iv yy4, iv z9, iv z10, iv z11, iv z12, iv z13, iv z14, iv z15, iv z16, iv z17, rv u, .val .null, iv 0, .unset, .unset] [(.int z17)])) (fun _ k => XS.iload XJ5.here hx rfl (hb hby at_300) rfl k) ?_
                    refine Go.st (f' := (mkF m 303 #[iv p1, iv p2, iv p3, iv p4, iv p5, iv yy1, iv yy2, iv yy3, iv yy4, iv z9, iv z10, iv z11, iv z12, iv z13, iv z14, iv z15, iv z16, iv z17, rv u, .val .null, iv 0, .unset, .unset] [(.int 1), (.int z17)])) (fun _ k => XS.iconst XJ5.here hx rfl (hb hby at_302) k) ?_
                    refine Go.st (f' := (mkF m 322 #[iv p1, iv p2, iv p3, iv p4, iv p5, iv yy1, iv yy2, iv yy3, iv yy4, iv z9, iv z10, iv z11, iv z12, iv z13, iv z14, iv z15, iv z16, iv z17, rv u, .val .null, iv 0, .unset, .unset] [])) (fun _ k => XS.icmpYes XJ5.here hx rfl (pc0 := 303) (pc' := 322) rfl (hb hby at_303) rfl (tlt cd6).2.2.1 (by decide) (by decide) k) ?_
                    refine Go.st (f' := (mkF m 323 #[iv p1, iv p2, iv p3, iv p4, iv p5, iv yy1, iv yy2, iv yy3, iv yy4, iv z9, iv z10, iv z11, iv z12, iv z13, iv z14, iv z15, iv z16, iv z17, rv u, .val .null, iv 0, .unset, .unset] [(.int 0)])) (fun _ k => XS.iconst XJ5.here hx rfl (hb hby at_322) k) ?_
                    refine Go.st (f' := (mkF m 325 #[iv p1, iv p2, iv p3, iv p4, iv p5, iv yy1, iv yy2, iv yy3, iv yy4, iv z9, iv z10, iv z11, iv z12, iv z13, iv z14, iv z15, iv z16, iv z17, rv u, .val .null, iv 0, iv 0, .unset] [])) (fun _ k => XS.istore XJ5.here hx rfl (hb hby at_323) rfl (l' := #[iv p1, iv p2, iv p3, iv p4, iv p5, iv yy1, iv yy2, iv yy3, iv yy4, iv z9, iv z10, iv z11, iv z12, iv z13, iv z14, iv z15, iv z16, iv z17, rv u, .val .null, iv 0, iv 0, .unset]) rfl k) ?_
                    exact J2 (0 : Int32) (0 : Int32) rfl
              · refine Go.st (f' := (mkF m 297 #[iv p1, iv p2, iv p3, iv p4, iv p5, iv yy1, iv yy2, iv yy3, iv yy4, iv z9, iv z10, iv z11, iv z12, iv z13, iv z14, iv z15, iv z16, iv z17, rv u, .val .null, .unset, .unset, .unset] [])) (fun _ k => XS.icmpYes XJ5.here hx rfl (pc0 := 277) (pc' := 297) rfl (hb hby at_277) rfl (feq cd14).2 (by decide) (by decide) k) ?_
                refine Go.st (f' := (mkF m 298 #[iv p1, iv p2, iv p3, iv p4, iv p5, iv yy1, iv yy2, iv yy3, iv yy4, iv z9, iv z10, iv z11, iv z12, iv z13, iv z14, iv z15, iv z16, iv z17, rv u, .val .null, .unset, .unset, .unset] [(.int 0)])) (fun _ k => XS.iconst XJ5.here hx rfl (hb hby at_297) k) ?_
                refine Go.st (f' := (mkF m 300 #[iv p1, iv p2, iv p3, iv p4, iv p5, iv yy1, iv yy2, iv yy3, iv yy4, iv z9, iv z10, iv z11, iv z12, iv z13, iv z14, iv z15, iv z16, iv z17, rv u, .val .null, iv 0, .unset, .unset] [])) (fun _ k => XS.istore XJ5.here hx rfl (hb hby at_298) rfl (l' := #[iv p1, iv p2, iv p3, iv p4, iv p5, iv yy1, iv yy2, iv yy3, iv yy4, iv z9, iv z10, iv z11, iv z12, iv z13, iv z14, iv z15, iv z16, iv z17, rv u, .val .null, iv 0, .unset, .unset]) rfl k) ?_
                refine Go.st (f' := (mkF m 302 #[iv p1, iv p2, iv p3, iv p4, iv p5, iv yy1, iv yy2, iv yy3, iv yy4, iv z9, iv z10, iv z11, iv z12, iv z13, iv z14, iv z15, iv z16, iv z17, rv u, .val .null, iv 0, .unset, .unset] [(.int z17)])) (fun _ k => XS.iload XJ5.here hx rfl (hb hby at_300) rfl k) ?_
                refine Go.st (f' := (mkF m 303 #[iv p1, iv p2, iv p3, iv p4, iv p5, iv yy1, iv yy2, iv yy3, iv yy4, iv z9, iv z10, iv z11, iv z12, iv z13, iv z14, iv z15, iv z16, iv z17, rv u, .val .null, iv 0, .unset, .unset] [(.int 1), (.int z17)])) (fun _ k => XS.iconst XJ5.here hx rfl (hb hby at_302) k) ?_
                refine Go.st (f' := (mkF m 322 #[iv p1, iv p2, iv p3, iv p4, iv p5, iv yy1, iv yy2, iv yy3, iv yy4, iv z9, iv z10, iv z11, iv z12, iv z13, iv z14, iv z15, iv z16, iv z17, rv u, .val .null, iv 0, .unset, .unset] [])) (fun _ k => XS.icmpYes XJ5.here hx rfl (pc0 := 303) (pc' := 322) rfl (hb hby at_303) rfl (tlt cd6).2.2.1 (by decide) (by decide) k) ?_
                refine Go.st (f' := (mkF m 323 #[iv p1, iv p2, iv p3, iv p4, iv p5, iv yy1, iv yy2, iv yy3, iv yy4, iv z9, iv z10, iv z11, iv z12, iv z13, iv z14, iv z15, iv z16, iv z17, rv u, .val .null, iv 0, .unset, .unset] [(.int 0)])) (fun _ k => XS.iconst XJ5.here hx rfl (hb hby at_322) k) ?_
                refine Go.st (f' := (mkF m 325 #[iv p1, iv p2, iv p3, iv p4, iv p5, iv yy1, iv yy2, iv yy3, iv yy4, iv z9, iv z10, iv z11, iv z12, iv z13, iv z14, iv z15, iv z16, iv z17, rv u, .val .null, iv 0, iv 0, .unset] [])) (fun _ k => XS.istore XJ5.here hx rfl (hb hby at_323) rfl (l' := #[iv p1, iv p2, iv p3, iv p4, iv p5, iv yy1, iv yy2, iv yy3, iv yy4, iv z9, iv z10, iv z11, iv z12, iv z13, iv z14, iv z15, iv z16, iv z17, rv u, .val .null, iv 0, iv 0, .unset]) rfl k) ?_
                exact J2 (0 : Int32) (0 : Int32) rfl
          · refine Go.st (f' := (mkF m 297 #[iv p1, iv p2, iv p3, iv p4, iv p5, iv yy1, iv yy2, iv yy3, iv yy4, iv z9, iv z10, iv z11, iv z12, iv z13, iv z14, iv z15, iv z16, iv z17, rv u, .val .null, .unset, .unset, .unset] [])) (fun _ k => XS.icmpYes XJ5.here hx rfl (pc0 := 264) (pc' := 297) rfl (hb hby at_264) rfl (feq cd10).2 (by decide) (by decide) k) ?_
            refine Go.st (f' := (mkF m 298 #[iv p1, iv p2, iv p3, iv p4, iv p5, iv yy1, iv yy2, iv yy3, iv yy4, iv z9, iv z10, iv z11, iv z12, iv z13, iv z14, iv z15, iv z16, iv z17, rv u, .val .null, .unset, .unset, .unset] [(.int 0)])) (fun _ k => XS.iconst XJ5.here hx rfl (hb hby at_297) k) ?_
            refine Go.st (f' := (mkF m 300 #[iv p1, iv p2, iv p3, iv p4, iv p5, iv yy1, iv yy2, iv yy3, iv yy4, iv z9, iv z10, iv z11, iv z12, iv z13, iv z14, iv z15, iv z16, iv z17, rv u, .val .null, iv 0, .unset, .unset] [])) (fun _ k => XS.istore XJ5.here hx rfl (hb hby at_298) rfl (l' := #[iv p1, iv p2, iv p3, iv p4, iv p5, iv yy1, iv yy2, iv yy3, iv yy4, iv z9, iv z10, iv z11, iv z12, iv z13, iv z14, iv z15, iv z16, iv z17, rv u, .val .null, iv 0, .unset, .unset]) rfl k) ?_
            refine Go.st (f' := (mkF m 302 #[iv p1, iv p2, iv p3, iv p4, iv p5, iv yy1, iv yy2, iv yy3, iv yy4, iv z9, iv z10, iv z11, iv z12, iv z13, iv z14, iv z15, iv z16, iv z17, rv u, .val .null, iv 0, .unset, .unset] [(.int z17)])) (fun _ k => XS.iload XJ5.here hx rfl (hb hby at_300) rfl k) ?_
            refine Go.st (f' := (mkF m 303 #[iv p1, iv p2, iv p3, iv p4, iv p5, iv yy1, iv yy2, iv yy3, iv yy4, iv z9, iv z10, iv z11, iv z12, iv z13, iv z14, iv z15, iv z16, iv z17, rv u, .val .null, iv 0, .unset, .unset] [(.int 1), (.int z17)])) (fun _ k => XS.iconst XJ5.here hx rfl (hb hby at_302) k) ?_
            refine Go.st (f' := (mkF m 322 #[iv p1, iv p2, iv p3, iv p4, iv p5, iv yy1, iv yy2, iv yy3, iv yy4, iv z9, iv z10, iv z11, iv z12, iv z13, iv z14, iv z15, iv z16, iv z17, rv u, .val .null, iv 0, .unset, .unset] [])) (fun _ k => XS.icmpYes XJ5.here hx rfl (pc0 := 303) (pc' := 322) rfl (hb hby at_303) rfl (tlt cd6).2.2.1 (by decide) (by decide) k) ?_
            refine Go.st (f' := (mkF m 323 #[iv p1, iv p2, iv p3, iv p4, iv p5, iv yy1, iv yy2, iv yy3, iv yy4, iv z9, iv z10, iv z11, iv z12, iv z13, iv z14, iv z15, iv z16, iv z17, rv u, .val .null, iv 0, .unset, .unset] [(.int 0)])) (fun _ k => XS.iconst XJ5.here hx rfl (hb hby at_322) k) ?_
            refine Go.st (f' := (mkF m 325 #[iv p1, iv p2, iv p3, iv p4, iv p5, iv yy1, iv yy2, iv yy3, iv yy4, iv z9, iv z10, iv z11, iv z12, iv z13, iv z14, iv z15, iv z16, iv z17, rv u, .val .null, iv 0, iv 0, .unset] [])) (fun _ k => XS.istore XJ5.here hx rfl (hb hby at_323) rfl (l' := #[iv p1, iv p2, iv p3, iv p4, iv p5, iv yy1, iv yy2, iv yy3, iv yy4, iv z9, iv z10, iv z11, iv z12, iv z13, iv z14, iv z15, iv z16, iv z17, rv u, .val .null, iv 0, iv 0, .unset]) rfl k) ?_
            exact J2 (0 : Int32) (0 : Int32) rfl
        · refine Go.st (f' := (mkF m 250 #[iv p1, iv p2, iv p3, iv p4, iv p5, iv yy1, iv yy2, iv yy3, iv yy4, iv z9, iv z10, iv z11, iv z12, iv z13, iv z14, iv z15, iv z16, iv z17, rv u, .unset, .unset, .unset, .unset] [])) (fun _ k => XS.icmpYes XJ5.here hx rfl (pc0 := 241) (pc' := 250) rfl (hb hby at_241) rfl (feq cd7).2 (by decide) (by decide) k) ?_
          refine Go.st (f' := (mkF m 251 #[iv p1, iv p2, iv p3, iv p4, iv p5, iv yy1, iv yy2, iv yy3, iv yy4, iv z9, iv z10, iv z11, iv z12, iv z13, iv z14, iv z15, iv z16, iv z17, rv u, .unset, .unset, .unset, .unset] [(.int 2)])) (fun _ k => XS.iconst XJ5.here hx rfl (hb hby at_250) k) ?_
          refine Go.st (f' := (mkF m 253 #[iv p1, iv p2, iv p3, iv p4, iv p5, iv yy1, iv yy2, iv yy3, iv yy4, iv z9, iv z10, iv z11, iv z12, iv z13, iv z14, iv z15, iv z16, iv z17, rv u, .unset, .unset, .unset, .unset] [(.int yy1), (.int 2)])) (fun _ k => XS.iload XJ5.here hx rfl (hb hby at_251) rfl k) ?_
          refine Go.st (f' := (mkF m 255 #[iv p1, iv p2, iv p3, iv p4, iv p5, iv yy1, iv yy2, iv yy3, iv yy4, iv z9, iv z10, iv z11, iv z12, iv z13, iv z14, iv z15, iv z16, iv z17, rv u, .unset, .unset, .unset, .unset] [(.int yy2), (.int yy1), (.int 2)])) (fun _ k => XS.iload XJ5.here hx rfl (hb hby at_253) rfl k) ?_
          obtain ⟨_, _, ⟨T17, L17, kk17, nn17⟩, -, Xw17, hSw17, hgw17, ⟨Lc17, hQ17, lq17, yq17, zz17, crw17⟩, st17⟩ := callSS XJ5 hx (y := (⟨"com/example/wirecall/wirecall/demo/UserEqualsPinLaw", "name", "(ICC)Ljava/lang/String;"⟩ : MethodName)) hownJ5 (mvT hZJ5 (hw _ (List.mem_of_getElem? (i := 9) rfl))) (mvT hZJ5 (hw _ (List.mem_of_getElem? (i := 10) rfl))) (mvT hZJ5 (hw _ (List.mem_of_getElem? (i := 11) rfl))) (mvT hZJ5 (hw _ (List.mem_of_getElem? (i := 12) rfl))) (by decide) (own_backW (W := 0) (rmN l Z a0 hw [] (2 : Int32) yy1 yy2 i_COMPACT_STRINGS v_SIOOBE_FORMATTER hJ5 n0 OJ5 (by decide) (hyy1 ▸ own_b _) (hyy2 ▸ own_b _) WW) hZJ5 (hw _ (List.mem_of_getElem? (i := 12) rfl)) (hw _ (List.mem_of_getElem? (i := 11) rfl)) (by decide) (by decide) hEL CRJ5.1) (g := (mkF m 255 #[iv p1, iv p2, iv p3, iv p4, iv p5, iv yy1, iv yy2, iv yy3, iv yy4, iv z9, iv z10, iv z11, iv z12, iv z13, iv z14, iv z15, iv z16, iv z17, rv u, .unset, .unset, .unset, .unset] [(.int yy2), (.int yy1), (.int 2)])) rfl (by rw [hml]; rfl) (argsL := [(.int (2 : Int32)), (.int yy1), (.int yy2)]) (rest := []) (lenOf pd__ICC_Ljava_lang_String_ rfl) rfl (by show 2 * 0 + _ ≤ _; exact Nat.le_of_eq rfl) (hb hby at_255) (fun _ _ => ⟨rfl, eJ5, (by decide : 7 + 6 ≤ _), (by decide : 14 + 12 ≤ _)⟩)
          dsimp only [Pt.U, Pt.locs, Pt.cells, Pt.slots] at Xw17 lq17 yq17 zz17 st17 hQ17 hSw17 hgw17 crw17
          subst lq17 yq17 zz17
          obtain ⟨X17, hS17, hZ17, hown17⟩ := rebS hSJ5 (by rw [eJ5]; exact hkJ5) Xw17 hSw17 hgw17 hZJ5 hownJ5
          obtain ⟨nv17, rfl, Nq17, kq17, nm17, nw17⟩ := hQ17
          have N17 := Fr.app NJ5 Nq17
          have dn17_nA : Dn nA nv17 := fun a b q r => Nat.ne_of_lt (Nat.lt_of_lt_of_le (Nm.lt N_u q) (nw17 _ r))
          have O17 : Old Z n0 T17.heap := OJ5.keep kq17 all0
          obtain ⟨b17, rfl, eb17⟩ := Nm.two nm17
          have lt_b17 := eb17.lt
          have hk17 : T17.heap.size ≤ T17.heap.size := Nat.le_refl _
          have CR17 := CRJ5.trans crw17
          refine Go.tr (f' := (mkF m 258 #[iv p1, iv p2, iv p3, iv p4, iv p5, iv yy1, iv yy2, iv yy3, iv yy4, iv z9, iv z10, iv z11, iv z12, iv z13, iv z14, iv z15, iv z16, iv z17, rv u, .unset, .unset, .unset, .unset] [(.ref b17)])) st17 ?_
          refine Go.st (f' := (mkF m 260 #[iv p1, iv p2, iv p3, iv p4, iv p5, iv yy1, iv yy2, iv yy3, iv yy4, iv z9, iv z10, iv z11, iv z12, iv z13, iv z14, iv z15, iv z16, iv z17, rv u, rv b17, .unset, .unset, .unset] [])) (fun _ k => XS.astore X17.here hx rfl (hb hby at_258) rfl rfl (l' := #[iv p1, iv p2, iv p3, iv p4, iv p5, iv yy1, iv yy2, iv yy3, iv yy4, iv z9, iv z10, iv z11, iv z12, iv z13, iv z14, iv z15, iv z16, iv z17, rv u, rv b17, .unset, .unset, .unset]) rfl k) ?_
          have J2 : ∀ (z20 : Int32) (z21 : Int32), (z21 = (0 : Int32)) → Go p e below (DoneW s Z EL (QL n0) room_1.cells room_1.slots) T17 (mkF m 325 #[iv p1, iv p2, iv p3, iv p4, iv p5, iv yy1, iv yy2, iv yy3, iv yy4, iv z9, iv z10, iv z11, iv z12, iv z13, iv z14, iv z15, iv z16, iv z17, rv u, rv b17, iv z20, iv z21, .unset] []) := by
            intro z20 z21 hz21
            refine Go.st (f' := (mkF m 327 #[iv p1, iv p2, iv p3, iv p4, iv p5, iv yy1, iv yy2, iv yy3, iv yy4, iv z9, iv z10, iv z11, iv z12, iv z13, iv z14, iv z15, iv z16, iv z17, rv u, rv b17, iv z20, iv z21, .unset] [(.ref u)])) (fun _ k => XS.aload X17.here hx rfl (hb hby at_325) rfl rfl k) ?_
            refine Go.st (f' := (mkF m 329 #[iv p1, iv p2, iv p3, iv p4, iv p5, iv yy1, iv yy2, iv yy3, iv yy4, iv z9, iv z10, iv z11, iv z12, iv z13, iv z14, iv z15, iv z16, iv z17, rv u, rv b17, iv z20, iv z21, .unset] [(.ref b17), (.ref u)])) (fun _ k => XS.aload X17.here hx rfl (hb hby at_327) rfl rfl k) ?_
            have ft19 := (E_u.keep kq17)
            obtain ⟨cq18, kq18, q18a, q18b, q18c⟩ := isOf hZ17 rfl ft19
            obtain ⟨_, _, ⟨T18, L18, kk18, nn18⟩, -, X18, ⟨Lc18, hQ18, lq18, yq18, zz18⟩, st18⟩ := X17.virtualBack hx (y := (⟨"com/example/wirecall/wirecall/demo/User", "equals", "(Ljava/lang/Object;)Z"⟩ : MethodName)) (z := (⟨"com/example/wirecall/wirecall/demo/User", "equals", "(Ljava/lang/Object;)Z"⟩ : MethodName)) hown17 (mvT hZ17 (hw _ (List.mem_of_getElem? (i := 20) rfl))) (mvT hZ17 (hw _ (List.mem_of_getElem? (i := 21) rfl))) (notFace_of_selects (args := #[]) (mvT hZ17 (hw _ (List.mem_of_getElem? (i := 23) rfl)))) (mvT hZ17 (hw _ (List.mem_of_getElem? (i := 23) rfl))) (mvT hZ17 (hw _ (List.mem_of_getElem? (i := 22) rfl))) (by decide) (own_back (W := 0) (ue_str l Z a0 hw [] u b17 T17.heap n0 O17 eb17) hZ17 (hw _ (List.mem_of_getElem? (i := 24) rfl)) (hw _ (List.mem_of_getElem? (i := 2) rfl)) (by decide) (by decide)) q18a q18c (g := (mkF m 329 #[iv p1, iv p2, iv p3, iv p4, iv p5, iv yy1, iv yy2, iv yy3, iv yy4, iv z9, iv z10, iv z11, iv z12, iv z13, iv z14, iv z15, iv z16, iv z17, rv u, rv b17, iv z20, iv z21, .unset] [(.ref b17), (.ref u)])) rfl (by rw [hml]; rfl) (Steps.refl _) (argsL := [(.ref b17)]) (rest := []) (lenOf pd__Ljava_lang_Object__Z rfl) rfl (by show 2 * 0 + _ ≤ _; exact Nat.le_of_eq rfl) (hb hby at_329) (fun _ _ => ⟨rfl, rfl, (by decide : 13 + 0 ≤ _), (by decide : 26 + 0 ≤ _)⟩)
            dsimp only [Pt.U, Pt.locs, Pt.cells, Pt.slots] at X18 lq18 yq18 zz18 st18 hQ18
            subst lq18 yq18 zz18
            obtain ⟨rfl, Nq18, kq18⟩ := hQ18
            have N18 := Fr.app N17 Nq18
            refine Go.tr (f' := (mkF m 332 #[iv p1, iv p2, iv p3, iv p4, iv p5, iv yy1, iv yy2, iv yy3, iv yy4, iv z9, iv z10, iv z11, iv z12, iv z13, iv z14, iv z15, iv z16, iv z17, rv u, rv b17, iv z20, iv z21, .unset] [(.int 0)])) st18 ?_
            refine Go.st (f' := (mkF m 334 #[iv p1, iv p2, iv p3, iv p4, iv p5, iv yy1, iv yy2, iv yy3, iv yy4, iv z9, iv z10, iv z11, iv z12, iv z13, iv z14, iv z15, iv z16, iv z17, rv u, rv b17, iv z20, iv z21, iv 0] [])) (fun _ k => XS.istore X18.here hx rfl (hb hby at_332) rfl (l' := #[iv p1, iv p2, iv p3, iv p4, iv p5, iv yy1, iv yy2, iv yy3, iv yy4, iv z9, iv z10, iv z11, iv z12, iv z13, iv z14, iv z15, iv z16, iv z17, rv u, rv b17, iv z20, iv z21, iv 0]) rfl k) ?_
            refine Go.st (f' := (mkF m 336 #[iv p1, iv p2, iv p3, iv p4, iv p5, iv yy1, iv yy2, iv yy3, iv yy4, iv z9, iv z10, iv z11, iv z12, iv z13, iv z14, iv z15, iv z16, iv z17, rv u, rv b17, iv z20, iv z21, iv 0] [(.int 0)])) (fun _ k => XS.iload X18.here hx rfl (hb hby at_334) rfl k) ?_
            refine Go.st (f' := (mkF m 338 #[iv p1, iv p2, iv p3, iv p4, iv p5, iv yy1, iv yy2, iv yy3, iv yy4, iv z9, iv z10, iv z11, iv z12, iv z13, iv z14, iv z15, iv z16, iv z17, rv u, rv b17, iv z20, iv z21, iv 0] [(.int z21), (.int 0)])) (fun _ k => XS.iload X18.here hx rfl (hb hby at_336) rfl k) ?_
            refine Go.st (f' := (mkF m 343 #[iv p1, iv p2, iv p3, iv p4, iv p5, iv yy1, iv yy2, iv yy3, iv yy4, iv z9, iv z10, iv z11, iv z12, iv z13, iv z14, iv z15, iv z16, iv z17, rv u, rv b17, iv z20, iv z21, iv 0] [])) (fun _ k => XS.icmpYes X18.here hx rfl (pc0 := 338) (pc' := 343) rfl (hb hby at_338) rfl (teq hz21.symm).1 (by decide) (by decide) k) ?_
            refine Go.st (f' := (mkF m 345 #[iv p1, iv p2, iv p3, iv p4, iv p5, iv yy1, iv yy2, iv yy3, iv yy4, iv z9, iv z10, iv z11, iv z12, iv z13, iv z14, iv z15, iv z16, iv z17, rv u, rv b17, iv z20, iv z21, iv 0] [(.ref u)])) (fun _ k => XS.aload X18.here hx rfl (hb hby at_343) rfl rfl k) ?_
            refine Go.st (f' := (mkF m 347 #[iv p1, iv p2, iv p3, iv p4, iv p5, iv yy1, iv yy2, iv yy3, iv yy4, iv z9, iv z10, iv z11, iv z12, iv z13, iv z14, iv z15, iv z16, iv z17, rv u, rv b17, iv z20, iv z21, iv 0] [(.ref u), (.ref u)])) (fun _ k => XS.aload X18.here hx rfl (hb hby at_345) rfl rfl k) ?_
            have ft21 := (F_u_i.keep kq17 nin0)
            have ft22 := (F_u_n.keep kq17 nin0)
            obtain ⟨cq20, kq20, q20a, q20b, q20c⟩ := isOf hZ17 kq18 ft19
            obtain ⟨_, _, ⟨T20, L20, kk20, nn20⟩, -, X20, ⟨Lc20, hQ20, lq20, yq20, zz20⟩, st20⟩ := X18.virtualBack hx (y := (⟨"com/example/wirecall/wirecall/demo/User", "equals", "(Ljava/lang/Object;)Z"⟩ : MethodName)) (z := (⟨"com/example/wirecall/wirecall/demo/User", "equals", "(Ljava/lang/Object;)Z"⟩ : MethodName)) hown17 (mvT hZ17 (hw _ (List.mem_of_getElem? (i := 20) rfl))) (mvT hZ17 (hw _ (List.mem_of_getElem? (i := 21) rfl))) (notFace_of_selects (args := #[]) (mvT hZ17 (hw _ (List.mem_of_getElem? (i := 23) rfl)))) (mvT hZ17 (hw _ (List.mem_of_getElem? (i := 23) rfl))) (mvT hZ17 (hw _ (List.mem_of_getElem? (i := 22) rfl))) (by decide) (own_back (W := 0) (rmUS l Z a0 hw [] u z11 nA T17.heap n0 O17 N_u.isRef ft19 ft21 ft22) hZ17 (hw _ (List.mem_of_getElem? (i := 24) rfl)) (hw _ (List.mem_of_getElem? (i := 2) rfl)) (by decide) (by decide)) q20a q20c (g := (mkF m 347 #[iv p1, iv p2, iv p3, iv p4, iv p5, iv yy1, iv yy2, iv yy3, iv yy4, iv z9, iv z10, iv z11, iv z12, iv z13, iv z14, iv z15, iv z16, iv z17, rv u, rv b17, iv z20, iv z21, iv 0] [(.ref u), (.ref u)])) rfl (by rw [hml]; rfl) (Steps.refl _) (argsL := [(.ref u)]) (rest := []) (lenOf pd__Ljava_lang_Object__Z rfl) rfl (by show 2 * 0 + _ ≤ _; exact Nat.le_of_eq rfl) (hb hby at_347) (fun _ _ => ⟨rfl, kq18, (by decide : 13 + 0 ≤ _), (by decide : 26 + 0 ≤ _)⟩)
            dsimp only [Pt.U, Pt.locs, Pt.cells, Pt.slots] at X20 lq20 yq20 zz20 st20 hQ20
            subst lq20 yq20 zz20
            obtain ⟨rfl, Nq20, kq20⟩ := hQ20
            have N20 := Fr.app N18 Nq20
            refine Go.tr (f' := (mkF m 350 #[iv p1, iv p2, iv p3, iv p4, iv p5, iv yy1, iv yy2, iv yy3, iv yy4, iv z9, iv z10, iv z11, iv z12, iv z13, iv z14, iv z15, iv z16, iv z17, rv u, rv b17, iv z20, iv z21, iv 0] [(.int 1)])) st20 ?_
            refine Go.st (f' := (mkF m 355 #[iv p1, iv p2, iv p3, iv p4, iv p5, iv yy1, iv yy2, iv yy3, iv yy4, iv z9, iv z10, iv z11, iv z12, iv z13, iv z14, iv z15, iv z16, iv z17, rv u, rv b17, iv z20, iv z21, iv 0] [])) (fun _ k => XS.ifYes X20.here hx rfl (pc0 := 350) (pc' := 355) rfl (hb hby at_350) rfl (by decide) (by decide) (by decide) k) ?_
            refine Go.st (f' := (mkF m 357 #[iv p1, iv p2, iv p3, iv p4, iv p5, iv yy1, iv yy2, iv yy3, iv yy4, iv z9, iv z10, iv z11, iv z12, iv z13, iv z14, iv z15, iv z16, iv z17, rv u, rv b17, iv z20, iv z21, iv 0] [(.int z17)])) (fun _ k => XS.iload X20.here hx rfl (hb hby at_355) rfl k) ?_
            refine Go.st (f' := (mkF m 358 #[iv p1, iv p2, iv p3, iv p4, iv p5, iv yy1, iv yy2, iv yy3, iv yy4, iv z9, iv z10, iv z11, iv z12, iv z13, iv z14, iv z15, iv z16, iv z17, rv u, rv b17, iv z20, iv z21, iv 0] [(.int 1), (.int z17)])) (fun _ k => XS.iconst X20.here hx rfl (hb hby at_357) k) ?_
            refine Go.st (f' := (mkF m 375 #[iv p1, iv p2, iv p3, iv p4, iv p5, iv yy1, iv yy2, iv yy3, iv yy4, iv z9, iv z10, iv z11, iv z12, iv z13, iv z14, iv z15, iv z16, iv z17, rv u, rv b17, iv z20, iv z21, iv 0] [])) (fun _ k => XS.icmpYes X20.here hx rfl (pc0 := 358) (pc' := 375) rfl (hb hby at_358) rfl (tlt cd6).2.2.1 (by decide) (by decide) k) ?_
            refine Go.st (f' := (mkF m 376 #[iv p1, iv p2, iv p3, iv p4, iv p5, iv yy1, iv yy2, iv yy3, iv yy4, iv z9, iv z10, iv z11, iv z12, iv z13, iv z14, iv z15, iv z16, iv z17, rv u, rv b17, iv z20, iv z21, iv 0] [(.int 1)])) (fun _ k => XS.iconst X20.here hx rfl (hb hby at_375) k) ?_
            refine GoW.retB X20 hlk hx (t := .boolean) hret (by simp) (hb hby at_376) kq20 hS17 hk17 hZ17 hEL CR17 hh ?_ (by decide) (by decide)
            exact ⟨rfl, N20⟩
          refine Go.st (f' := (mkF m 262 #[iv p1, iv p2, iv p3, iv p4, iv p5, iv yy1, iv yy2, iv yy3, iv yy4, iv z9, iv z10, iv z11, iv z12, iv z13, iv z14, iv z15, iv z16, iv z17, rv u, rv b17, .unset, .unset, .unset] [(.int z10)])) (fun _ k => XS.iload X17.here hx rfl (hb hby at_260) rfl k) ?_
          refine Go.st (f' := (mkF m 264 #[iv p1, iv p2, iv p3, iv p4, iv p5, iv yy1, iv yy2, iv yy3, iv yy4, iv z9, iv z10, iv z11, iv z12, iv z13, iv z14, iv z15, iv z16, iv z17, rv u, rv b17, .unset, .unset, .unset] [(.int z13), (.int z10)])) (fun _ k => XS.iload X17.here hx rfl (hb hby at_262) rfl k) ?_
          by_cases cd23 : z10 = z13
          · refine Go.st (f' := (mkF m 267 #[iv p1, iv p2, iv p3, iv p4, iv p5, iv yy1, iv yy2, iv yy3, iv yy4, iv z9, iv z10, iv z11, iv z12, iv z13, iv z14, iv z15, iv z16, iv z17, rv u, rv b17, .unset, .unset, .unset] [])) (fun _ k => XS.icmpNo X17.here hx rfl (hb hby at_264) rfl (teq cd23).2 k) ?_
            refine Go.st (f' := (mkF m 269 #[iv p1, iv p2, iv p3, iv p4, iv p5, iv yy1, iv yy2, iv yy3, iv yy4, iv z9, iv z10, iv z11, iv z12, iv z13, iv z14, iv z15, iv z16, iv z17, rv u, rv b17, .unset, .unset, .unset] [(.int z10)])) (fun _ k => XS.iload X17.here hx rfl (hb hby at_267) rfl k) ?_
            refine Go.st (f' := (mkF m 270 #[iv p1, iv p2, iv p3, iv p4, iv p5, iv yy1, iv yy2, iv yy3, iv yy4, iv z9, iv z10, iv z11, iv z12, iv z13, iv z14, iv z15, iv z16, iv z17, rv u, rv b17, .unset, .unset, .unset] [(.int 2), (.int z10)])) (fun _ k => XS.iconst X17.here hx rfl (hb hby at_269) k) ?_
            by_cases cd24 : z10 < (2 : Int32)
            · refine Go.st (f' := (mkF m 280 #[iv p1, iv p2, iv p3, iv p4, iv p5, iv yy1, iv yy2, iv yy3, iv yy4, iv z9, iv z10, iv z11, iv z12, iv z13, iv z14, iv z15, iv z16, iv z17, rv u, rv b17, .unset, .unset, .unset] [])) (fun _ k => XS.icmpYes X17.here hx rfl (pc0 := 270) (pc' := 280) rfl (hb hby at_270) rfl (tlt cd24).1 (by decide) (by decide) k) ?_
              refine Go.st (f' := (mkF m 282 #[iv p1, iv p2, iv p3, iv p4, iv p5, iv yy1, iv yy2, iv yy3, iv yy4, iv z9, iv z10, iv z11, iv z12, iv z13, iv z14, iv z15, iv z16, iv z17, rv u, rv b17, .unset, .unset, .unset] [(.int z10)])) (fun _ k => XS.iload X17.here hx rfl (hb hby at_280) rfl k) ?_
              refine Go.st (f' := (mkF m 283 #[iv p1, iv p2, iv p3, iv p4, iv p5, iv yy1, iv yy2, iv yy3, iv yy4, iv z9, iv z10, iv z11, iv z12, iv z13, iv z14, iv z15, iv z16, iv z17, rv u, rv b17, .unset, .unset, .unset] [(.int 3), (.int z10)])) (fun _ k => XS.iconst X17.here hx rfl (hb hby at_282) k) ?_
              by_cases cd25 : z10 < (3 : Int32)
              · refine Go.st (f' := (mkF m 293 #[iv p1, iv p2, iv p3, iv p4, iv p5, iv yy1, iv yy2, iv yy3, iv yy4, iv z9, iv z10, iv z11, iv z12, iv z13, iv z14, iv z15, iv z16, iv z17, rv u, rv b17, .unset, .unset, .unset] [])) (fun _ k => XS.icmpYes X17.here hx rfl (pc0 := 283) (pc' := 293) rfl (hb hby at_283) rfl (tlt cd25).1 (by decide) (by decide) k) ?_
                refine Go.st (f' := (mkF m 294 #[iv p1, iv p2, iv p3, iv p4, iv p5, iv yy1, iv yy2, iv yy3, iv yy4, iv z9, iv z10, iv z11, iv z12, iv z13, iv z14, iv z15, iv z16, iv z17, rv u, rv b17, .unset, .unset, .unset] [(.int 1)])) (fun _ k => XS.iconst X17.here hx rfl (hb hby at_293) k) ?_
                refine Go.st (f' := (mkF m 298 #[iv p1, iv p2, iv p3, iv p4, iv p5, iv yy1, iv yy2, iv yy3, iv yy4, iv z9, iv z10, iv z11, iv z12, iv z13, iv z14, iv z15, iv z16, iv z17, rv u, rv b17, .unset, .unset, .unset] [(.int 1)])) (fun _ k => XS.goto X17.here hx rfl (pc0 := 294) (pc' := 298) rfl (hb hby at_294) (by decide) (by decide) k) ?_
                refine Go.st (f' := (mkF m 300 #[iv p1, iv p2, iv p3, iv p4, iv p5, iv yy1, iv yy2, iv yy3, iv yy4, iv z9, iv z10, iv z11, iv z12, iv z13, iv z14, iv z15, iv z16, iv z17, rv u, rv b17, iv 1, .unset, .unset] [])) (fun _ k => XS.istore X17.here hx rfl (hb hby at_298) rfl (l' := #[iv p1, iv p2, iv p3, iv p4, iv p5, iv yy1, iv yy2, iv yy3, iv yy4, iv z9, iv z10, iv z11, iv z12, iv z13, iv z14, iv z15, iv z16, iv z17, rv u, rv b17, iv 1, .unset, .unset]) rfl k) ?_
                refine Go.st (f' := (mkF m 302 #[iv p1, iv p2, iv p3, iv p4, iv p5, iv yy1, iv yy2, iv yy3, iv yy4, iv z9, iv z10, iv z11, iv z12, iv z13, iv z14, iv z15, iv z16, iv z17, rv u, rv b17, iv 1, .unset, .unset] [(.int z17)])) (fun _ k => XS.iload X17.here hx rfl (hb hby at_300) rfl k) ?_
                refine Go.st (f' := (mkF m 303 #[iv p1, iv p2, iv p3, iv p4, iv p5, iv yy1, iv yy2, iv yy3, iv yy4, iv z9, iv z10, iv z11, iv z12, iv z13, iv z14, iv z15, iv z16, iv z17, rv u, rv b17, iv 1, .unset, .unset] [(.int 1), (.int z17)])) (fun _ k => XS.iconst X17.here hx rfl (hb hby at_302) k) ?_
                refine Go.st (f' := (mkF m 322 #[iv p1, iv p2, iv p3, iv p4, iv p5, iv yy1, iv yy2, iv yy3, iv yy4, iv z9, iv z10, iv z11, iv z12, iv z13, iv z14, iv z15, iv z16, iv z17, rv u, rv b17, iv 1, .unset, .unset] [])) (fun _ k => XS.icmpYes X17.here hx rfl (pc0 := 303) (pc' := 322) rfl (hb hby at_303) rfl (tlt cd6).2.2.1 (by decide) (by decide) k) ?_
                refine Go.st (f' := (mkF m 323 #[iv p1, iv p2, iv p3, iv p4, iv p5, iv yy1, iv yy2, iv yy3, iv yy4, iv z9, iv z10, iv z11, iv z12, iv z13, iv z14, iv z15, iv z16, iv z17, rv u, rv b17, iv 1, .unset, .unset] [(.int 0)])) (fun _ k => XS.iconst X17.here hx rfl (hb hby at_322) k) ?_
                refine Go.st (f' := (mkF m 325 #[iv p1, iv p2, iv p3, iv p4, iv p5, iv yy1, iv yy2, iv yy3, iv yy4, iv z9, iv z10, iv z11, iv z12, iv z13, iv z14, iv z15, iv z16, iv z17, rv u, rv b17, iv 1, iv 0, .unset] [])) (fun _ k => XS.istore X17.here hx rfl (hb hby at_323) rfl (l' := #[iv p1, iv p2, iv p3, iv p4, iv p5, iv yy1, iv yy2, iv yy3, iv yy4, iv z9, iv z10, iv z11, iv z12, iv z13, iv z14, iv z15, iv z16, iv z17, rv u, rv b17, iv 1, iv 0, .unset]) rfl k) ?_
                exact J2 (1 : Int32) (0 : Int32) rfl
              · refine Go.st (f' := (mkF m 286 #[iv p1, iv p2, iv p3, iv p4, iv p5, iv yy1, iv yy2, iv yy3, iv yy4, iv z9, iv z10, iv z11, iv z12, iv z13, iv z14, iv z15, iv z16, iv z17, rv u, rv b17, .unset, .unset, .unset] [])) (fun _ k => XS.icmpNo X17.here hx rfl (hb hby at_283) rfl (flt cd25).1 k) ?_
                refine Go.st (f' := (mkF m 288 #[iv p1, iv p2, iv p3, iv p4, iv p5, iv yy1, iv yy2, iv yy3, iv yy4, iv z9, iv z10, iv z11, iv z12, iv z13, iv z14, iv z15, iv z16, iv z17, rv u, rv b17, .unset, .unset, .unset] [(.int yy2)])) (fun _ k => XS.iload X17.here hx rfl (hb hby at_286) rfl k) ?_
                refine Go.st (f' := (mkF m 290 #[iv p1, iv p2, iv p3, iv p4, iv p5, iv yy1, iv yy2, iv yy3, iv yy4, iv z9, iv z10, iv z11, iv z12, iv z13, iv z14, iv z15, iv z16, iv z17, rv u, rv b17, .unset, .unset, .unset] [(.int z16), (.int yy2)])) (fun _ k => XS.iload X17.here hx rfl (hb hby at_288) rfl k) ?_
                by_cases cd26 : yy2 = z16
                · refine Go.st (f' := (mkF m 293 #[iv p1, iv p2, iv p3, iv p4, iv p5, iv yy1, iv yy2, iv yy3, iv yy4, iv z9, iv z10, iv z11, iv z12, iv z13, iv z14, iv z15, iv z16, iv z17, rv u, rv b17, .unset, .unset, .unset] [])) (fun _ k => XS.icmpNo X17.here hx rfl (hb hby at_290) rfl (teq cd26).2 k) ?_
                  refine Go.st (f' := (mkF m 294 #[iv p1, iv p2, iv p3, iv p4, iv p5, iv yy1, iv yy2, iv yy3, iv yy4, iv z9, iv z10, iv z11, iv z12, iv z13, iv z14, iv z15, iv z16, iv z17, rv u, rv b17, .unset, .unset, .unset] [(.int 1)])) (fun _ k => XS.iconst X17.here hx rfl (hb hby at_293) k) ?_
                  refine Go.st (f' := (mkF m 298 #[iv p1, iv p2, iv p3, iv p4, iv p5, iv yy1, iv yy2, iv yy3, iv yy4, iv z9, iv z10, iv z11, iv z12, iv z13, iv z14, iv z15, iv z16, iv z17, rv u, rv b17, .unset, .unset, .unset] [(.int 1)])) (fun _ k => XS.goto X17.here hx rfl (pc0 := 294) (pc' := 298) rfl (hb hby at_294) (by decide) (by decide) k) ?_
                  refine Go.st (f' := (mkF m 300 #[iv p1, iv p2, iv p3, iv p4, iv p5, iv yy1, iv yy2, iv yy3, iv yy4, iv z9, iv z10, iv z11, iv z12, iv z13, iv z14, iv z15, iv z16, iv z17, rv u, rv b17, iv 1, .unset, .unset] [])) (fun _ k => XS.istore X17.here hx rfl (hb hby at_298) rfl (l' := #[iv p1, iv p2, iv p3, iv p4, iv p5, iv yy1, iv yy2, iv yy3, iv yy4, iv z9, iv z10, iv z11, iv z12, iv z13, iv z14, iv z15, iv z16, iv z17, rv u, rv b17, iv 1, .unset, .unset]) rfl k) ?_
                  refine Go.st (f' := (mkF m 302 #[iv p1, iv p2, iv p3, iv p4, iv p5, iv yy1, iv yy2, iv yy3, iv yy4, iv z9, iv z10, iv z11, iv z12, iv z13, iv z14, iv z15, iv z16, iv z17, rv u, rv b17, iv 1, .unset, .unset] [(.int z17)])) (fun _ k => XS.iload X17.here hx rfl (hb hby at_300) rfl k) ?_
                  refine Go.st (f' := (mkF m 303 #[iv p1, iv p2, iv p3, iv p4, iv p5, iv yy1, iv yy2, iv yy3, iv yy4, iv z9, iv z10, iv z11, iv z12, iv z13, iv z14, iv z15, iv z16, iv z17, rv u, rv b17, iv 1, .unset, .unset] [(.int 1), (.int z17)])) (fun _ k => XS.iconst X17.here hx rfl (hb hby at_302) k) ?_
                  refine Go.st (f' := (mkF m 322 #[iv p1, iv p2, iv p3, iv p4, iv p5, iv yy1, iv yy2, iv yy3, iv yy4, iv z9, iv z10, iv z11, iv z12, iv z13, iv z14, iv z15, iv z16, iv z17, rv u, rv b17, iv 1, .unset, .unset] [])) (fun _ k => XS.icmpYes X17.here hx rfl (pc0 := 303) (pc' := 322) rfl (hb hby at_303) rfl (tlt cd6).2.2.1 (by decide) (by decide) k) ?_
                  refine Go.st (f' := (mkF m 323 #[iv p1, iv p2, iv p3, iv p4, iv p5, iv yy1, iv yy2, iv yy3, iv yy4, iv z9, iv z10, iv z11, iv z12, iv z13, iv z14, iv z15, iv z16, iv z17, rv u, rv b17, iv 1, .unset, .unset] [(.int 0)])) (fun _ k => XS.iconst X17.here hx rfl (hb hby at_322) k) ?_
                  refine Go.st (f' := (mkF m 325 #[iv p1, iv p2, iv p3, iv p4, iv p5, iv yy1, iv yy2, iv yy3, iv yy4, iv z9, iv z10, iv z11, iv z12, iv z13, iv z14, iv z15, iv z16, iv z17, rv u, rv b17, iv 1, iv 0, .unset] [])) (fun _ k => XS.istore X17.here hx rfl (hb hby at_323) rfl (l' := #[iv p1, iv p2, iv p3, iv p4, iv p5, iv yy1, iv yy2, iv yy3, iv yy4, iv z9, iv z10, iv z11, iv z12, iv z13, iv z14, iv z15, iv z16, iv z17, rv u, rv b17, iv 1, iv 0, .unset]) rfl k) ?_
                  exact J2 (1 : Int32) (0 : Int32) rfl
                · refine Go.st (f' := (mkF m 297 #[iv p1, iv p2, iv p3, iv p4, iv p5, iv yy1, iv yy2, iv yy3, iv yy4, iv z9, iv z10, iv z11, iv z12, iv z13, iv z14, iv z15, iv z16, iv z17, rv u, rv b17, .unset, .unset, .unset] [])) (fun _ k => XS.icmpYes X17.here hx rfl (pc0 := 290) (pc' := 297) rfl (hb hby at_290) rfl (feq cd26).2 (by decide) (by decide) k) ?_
                  refine Go.st (f' := (mkF m 298 #[iv p1, iv p2, iv p3, iv p4, iv p5, iv yy1, iv yy2, iv yy3, iv yy4, iv z9, iv z10, iv z11, iv z12, iv z13, iv z14, iv z15, iv z16, iv z17, rv u, rv b17, .unset, .unset, .unset] [(.int 0)])) (fun _ k => XS.iconst X17.here hx rfl (hb hby at_297) k) ?_
                  refine Go.st (f' := (mkF m 300 #[iv p1, iv p2, iv p3, iv p4, iv p5, iv yy1, iv yy2, iv yy3, iv yy4, iv z9, iv z10, iv z11, iv z12, iv z13, iv z14, iv z15, iv z16, iv z17, rv u, rv b17, iv 0, .unset, .unset] [])) (fun _ k => XS.istore X17.here hx rfl (hb hby at_298) rfl (l' := #[iv p1, iv p2, iv p3, iv p4, iv p5, iv yy1, iv yy2, iv yy3, iv yy4, iv z9, iv z10, iv z11, iv z12, iv z13, iv z14, iv z15, iv z16, iv z17, rv u, rv b17, iv 0, .unset, .unset]) rfl k) ?_
                  refine Go.st (f' := (mkF m 302 #[iv p1, iv p2, iv p3, iv p4, iv p5, iv yy1, iv yy2, iv yy3, iv yy4, iv z9, iv z10, iv z11, iv z12, iv z13, iv z14, iv z15, iv z16, iv z17, rv u, rv b17, iv 0, .unset, .unset] [(.int z17)])) (fun _ k => XS.iload X17.here hx rfl (hb hby at_300) rfl k) ?_
                  refine Go.st (f' := (mkF m 303 #[iv p1, iv p2, iv p3, iv p4, iv p5, iv yy1, iv yy2, iv yy3, iv yy4, iv z9, iv z10, iv z11, iv z12, iv z13, iv z14, iv z15, iv z16, iv z17, rv u, rv b17, iv 0, .unset, .unset] [(.int 1), (.int z17)])) (fun _ k => XS.iconst X17.here hx rfl (hb hby at_302) k) ?_
                  refine Go.st (f' := (mkF m 322 #[iv p1, iv p2, iv p3, iv p4, iv p5, iv yy1, iv yy2, iv yy3, iv yy4, iv z9, iv z10, iv z11, iv z12, iv z13, iv z14, iv z15, iv z16, iv z17, rv u, rv b17, iv 0, .unset, .unset] [])) (fun _ k => XS.icmpYes X17.here hx rfl (pc0 := 303) (pc' := 322) rfl (hb hby at_303) rfl (tlt cd6).2.2.1 (by decide) (by decide) k) ?_
                  refine Go.st (f' := (mkF m 323 #[iv p1, iv p2, iv p3, iv p4, iv p5, iv yy1, iv yy2, iv yy3, iv yy4, iv z9, iv z10, iv z11, iv z12, iv z13, iv z14, iv z15, iv z16, iv z17, rv u, rv b17, iv 0, .unset, .unset] [(.int 0)])) (fun _ k => XS.iconst X17.here hx rfl (hb hby at_322) k) ?_
                  refine Go.st (f' := (mkF m 325 #[iv p1, iv p2, iv p3, iv p4, iv p5, iv yy1, iv yy2, iv yy3, iv yy4, iv z9, iv z10, iv z11, iv z12, iv z13, iv z14, iv z15, iv z16, iv z17, rv u, rv b17, iv 0, iv 0, .unset] [])) (fun _ k => XS.istore X17.here hx rfl (hb hby at_323) rfl (l' := #[iv p1, iv p2, iv p3, iv p4, iv p5, iv yy1, iv yy2, iv yy3, iv yy4, iv z9, iv z10, iv z11, iv z12, iv z13, iv z14, iv z15, iv z16, iv z17, rv u, rv b17, iv 0, iv 0, .unset]) rfl k) ?_
                  exact J2 (0 : Int32) (0 : Int32) rfl
            · refine Go.st (f' := (mkF m 273 #[iv p1, iv p2, iv p3, iv p4, iv p5, iv yy1, iv yy2, iv yy3, iv yy4, iv z9, iv z10, iv z11, iv z12, iv z13, iv z14, iv z15, iv z16, iv z17, rv u, rv b17, .unset, .unset, .unset] [])) (fun _ k => XS.icmpNo X17.here hx rfl (hb hby at_270) rfl (flt cd24).1 k) ?_
              refine Go.st (f' := (mkF m 275 #[iv p1, iv p2, iv p3, iv p4, iv p5, iv yy1, iv yy2, iv yy3, iv yy4, iv z9, iv z10, iv z11, iv z12, iv z13, iv z14, iv z15, iv z16, iv z17, rv u, rv b17, .unset, .unset, .unset] [(.int yy1)])) (fun _ k => XS.iload X17.here hx rfl (hb hby at_273) rfl k) ?_
              refine Go.st (f' := (mkF m 277 #[iv p1, iv p2, iv p3, iv p4, iv p5, iv yy1, iv yy2, iv yy3, iv yy4, iv z9, iv z10, iv z11, iv z12, iv z13, iv z14, iv z15, iv z16, iv z17, rv u, rv b17, .unset, .unset, .unset] [(.int z15), (.int yy1)])) (fun _ k => XS.iload X17.here hx rfl (hb hby at_275) rfl k) ?_
              by_cases cd27 : yy1 = z15
              · refine Go.st (f' := (mkF m 280 #[iv p1, iv p2, iv p3, iv p4, iv p5, iv yy1, iv yy2, iv yy3, iv yy4, iv z9, iv z10, iv z11, iv z12, iv z13, iv z14, iv z15, iv z16, iv z17, rv u, rv b17, .unset, .unset, .unset] [])) (fun _ k => XS.icmpNo X17.here hx rfl (hb hby at_277) rfl (teq cd27).2 k) ?_
                refine Go.st (f' := (mkF m 282 #[iv p1, iv p2, iv p3, iv p4, iv p5, iv yy1, iv yy2, iv yy3, iv yy4, iv z9, iv z10, iv z11, iv z12, iv z13, iv z14, iv z15, iv z16, iv z17, rv u, rv b17, .unset, .unset, .unset] [(.int z10)])) (fun _ k => XS.iload X17.here hx rfl (hb hby at_280) rfl k) ?_
                refine Go.st (f' := (mkF m 283 #[iv p1, iv p2, iv p3, iv p4, iv p5, iv yy1, iv yy2, iv yy3, iv yy4, iv z9, iv z10, iv z11, iv z12, iv z13, iv z14, iv z15, iv z16, iv z17, rv u, rv b17, .unset, .unset, .unset] [(.int 3), (.int z10)])) (fun _ k => XS.iconst X17.here hx rfl (hb hby at_282) k) ?_
                by_cases cd28 : z10 < (3 : Int32)
                · refine Go.st (f' := (mkF m 293 #[iv p1, iv p2, iv p3, iv p4, iv p5, iv yy1, iv yy2, iv yy3, iv yy4, iv z9, iv z10, iv z11, iv z12, iv z13, iv z14, iv z15, iv z16, iv z17, rv u, rv b17, .unset, .unset, .unset] [])) (fun _ k => XS.icmpYes X17.here hx rfl (pc0 := 283) (pc' := 293) rfl (hb hby at_283) rfl (tlt cd28).1 (by decide) (by decide) k) ?_
                  refine Go.st (f' := (mkF m 294 #[iv p1, iv p2, iv p3, iv p4, iv p5, iv yy1, iv yy2, iv yy3, iv yy4, iv z9, iv z10, iv z11, iv z12, iv z13, iv z14, iv z15, iv z16, iv z17, rv u, rv b17, .unset, .unset, .unset] [(.int 1)])) (fun _ k => XS.iconst X17.here hx rfl (hb hby at_293) k) ?_
                  refine Go.st (f' := (mkF m 298 #[iv p1, iv p2, iv p3, iv p4, iv p5, iv yy1, iv yy2, iv yy3, iv yy4, iv z9, iv z10, iv z11, iv z12, iv z13, iv z14, iv z15, iv z16, iv z17, rv u, rv b17, .unset, .unset, .unset] [(.int 1)])) (fun _ k => XS.goto X17.here hx rfl (pc0 := 294) (pc' := 298) rfl (hb hby at_294) (by decide) (by decide) k) ?_
                  refine Go.st (f' := (mkF m 300 #[iv p1, iv p2, iv p3, iv p4, iv p5, iv yy1, iv yy2, iv yy3, iv yy4, iv z9, iv z10, iv z11, iv z12, iv z13, iv z14, iv z15, iv z16, iv z17, rv u, rv b17, iv 1, .unset, .unset] [])) (fun _ k => XS.istore X17.here hx rfl (hb hby at_298) rfl (l' := #[iv p1, iv p2, iv p3, iv p4, iv p5, iv yy1, iv yy2, iv yy3, iv yy4, iv z9, iv z10, iv z11, iv z12, iv z13, iv z14, iv z15, iv z16, iv z17, rv u, rv b17, iv 1, .unset, .unset]) rfl k) ?_
                  refine Go.st (f' := (mkF m 302 #[iv p1, iv p2, iv p3, iv p4, iv p5, iv yy1, iv yy2, iv yy3, iv yy4, iv z9, iv z10, iv z11, iv z12, iv z13, iv z14, iv z15, iv z16, iv z17, rv u, rv b17, iv 1, .unset, .unset] [(.int z17)])) (fun _ k => XS.iload X17.here hx rfl (hb hby at_300) rfl k) ?_
                  refine Go.st (f' := (mkF m 303 #[iv p1, iv p2, iv p3, iv p4, iv p5, iv yy1, iv yy2, iv yy3, iv yy4, iv z9, iv z10, iv z11, iv z12, iv z13, iv z14, iv z15, iv z16, iv z17, rv u, rv b17, iv 1, .unset, .unset] [(.int 1), (.int z17)])) (fun _ k => XS.iconst X17.here hx rfl (hb hby at_302) k) ?_
                  refine Go.st (f' := (mkF m 322 #[iv p1, iv p2, iv p3, iv p4, iv p5, iv yy1, iv yy2, iv yy3, iv yy4, iv z9, iv z10, iv z11, iv z12, iv z13, iv z14, iv z15, iv z16, iv z17, rv u, rv b17, iv 1, .unset, .unset] [])) (fun _ k => XS.icmpYes X17.here hx rfl (pc0 := 303) (pc' := 322) rfl (hb hby at_303) rfl (tlt cd6).2.2.1 (by decide) (by decide) k) ?_
                  refine Go.st (f' := (mkF m 323 #[iv p1, iv p2, iv p3, iv p4, iv p5, iv yy1, iv yy2, iv yy3, iv yy4, iv z9, iv z10, iv z11, iv z12, iv z13, iv z14, iv z15, iv z16, iv z17, rv u, rv b17, iv 1, .unset, .unset] [(.int 0)])) (fun _ k => XS.iconst X17.here hx rfl (hb hby at_322) k) ?_
                  refine Go.st (f' := (mkF m 325 #[iv p1, iv p2, iv p3, iv p4, iv p5, iv yy1, iv yy2, iv yy3, iv yy4, iv z9, iv z10, iv z11, iv z12, iv z13, iv z14, iv z15, iv z16, iv z17, rv u, rv b17, iv 1, iv 0, .unset] [])) (fun _ k => XS.istore X17.here hx rfl (hb hby at_323) rfl (l' := #[iv p1, iv p2, iv p3, iv p4, iv p5, iv yy1, iv yy2, iv yy3, iv yy4, iv z9, iv z10, iv z11, iv z12, iv z13, iv z14, iv z15, iv z16, iv z17, rv u, rv b17, iv 1, iv 0, .unset]) rfl k) ?_
                  exact J2 (1 : Int32) (0 : Int32) rfl
                · refine Go.st (f' := (mkF m 286 #[iv p1, iv p2, iv p3, iv p4, iv p5, iv yy1, iv yy2, iv yy3, iv yy4, iv z9, iv z10, iv z11, iv z12, iv z13, iv z14, iv z15, iv z16, iv z17, rv u, rv b17, .unset, .unset, .unset] [])) (fun _ k => XS.icmpNo X17.here hx rfl (hb hby at_283) rfl (flt cd28).1 k) ?_
                  refine Go.st (f' := (mkF m 288 #[iv p1, iv p2, iv p3, iv p4, iv p5, iv yy1, iv yy2, iv yy3, iv yy4, iv z9, iv z10, iv z11, iv z12, iv z13, iv z14, iv z15, iv z16, iv z17, rv u, rv b17, .unset, .unset, .unset] [(.int yy2)])) (fun _ k => XS.iload X17.here hx rfl (hb hby at_286) rfl k) ?_
                  refine Go.st (f' := (mkF m 290 #[iv p1, iv p2, iv p3, iv p4, iv p5, iv yy1, iv yy2, iv yy3, iv yy4, iv z9, iv z10, iv z11, iv z12, iv z13, iv z14, iv z15, iv z16, iv z17, rv u, rv b17, .unset, .unset, .unset] [(.int z16), (.int yy2)])) (fun _ k => XS.iload X17.here hx rfl (hb hby at_288) rfl k) ?_
                  by_cases cd29 : yy2 = z16
                  · refine Go.st (f' := (mkF m 293 #[iv p1, iv p2, iv p3, iv p4, iv p5, iv yy1, iv yy2, iv yy3, iv yy4, iv z9, iv z10, iv z11, iv z12, iv z13, iv z14, iv z15, iv z16, iv z17, rv u, rv b17, .unset, .unset, .unset] [])) (fun _ k => XS.icmpNo X17.here hx rfl (hb hby at_290) rfl (teq cd29).2 k) ?_
                    refine Go.st (f' := (mkF m 294 #[iv p1, iv p2, iv p3, iv p4, iv p5, iv yy1, iv yy2, iv yy3, iv yy4, iv z9, iv z10, iv z11, iv z12, iv z13, iv z14, iv z15, iv z16, iv z17, rv u, rv b17, .unset, .unset, .unset] [(.int 1)])) (fun _ k => XS.iconst X17.here hx rfl (hb hby at_293) k) ?_
                    refine Go.st (f' := (mkF m 298 #[iv p1, iv p2, iv p3, iv p4, iv p5, iv yy1, iv yy2, iv yy3, iv yy4, iv z9, iv z10, iv z11, iv z12, iv z13, iv z14, iv z15, iv z16, iv z17, rv u, rv b17, .unset, .unset, .unset] [(.int 1)])) (fun _ k => XS.goto X17.here hx rfl (pc0 := 294) (pc' := 298) rfl (hb hby at_294) (by decide) (by decide) k) ?_
                    refine Go.st (f' := (mkF m 300 #[iv p1, iv p2, iv p3, iv p4, iv p5, iv yy1, iv yy2, iv yy3, iv yy4, iv z9, iv z10, iv z11, iv z12, iv z13, iv z14, iv z15, iv z16, iv z17, rv u, rv b17, iv 1, .unset, .unset] [])) (fun _ k => XS.istore X17.here hx rfl (hb hby at_298) rfl (l' := #[iv p1, iv p2, iv p3, iv p4, iv p5, iv yy1, iv yy2, iv yy3, iv yy4, iv z9, iv z10, iv z11, iv z12, iv z13, iv z14, iv z15, iv z16, iv z17, rv u, rv b17, iv 1, .unset, .unset]) rfl k) ?_
                    refine Go.st (f' := (mkF m 302 #[iv p1, iv p2, iv p3, iv p4, iv p5, iv yy1, iv yy2, iv yy3, iv yy4, iv z9, iv z10, iv z11, iv z12, iv z13, iv z14, iv z15, iv z16, iv z17, rv u, rv b17, iv 1, .unset, .unset] [(.int z17)])) (fun _ k => XS.iload X17.here hx rfl (hb hby at_300) rfl k) ?_
                    refine Go.st (f' := (mkF m 303 #[iv p1, iv p2, iv p3, iv p4, iv p5, iv yy1, iv yy2, iv yy3, iv yy4, iv z9, iv z10, iv z11, iv z12, iv z13, iv z14, iv z15, iv z16, iv z17, rv u, rv b17, iv 1, .unset, .unset] [(.int 1), (.int z17)])) (fun _ k => XS.iconst X17.here hx rfl (hb hby at_302) k) ?_
                    refine Go.st (f' := (mkF m 322 #[iv p1, iv p2, iv p3, iv p4, iv p5, iv yy1, iv yy2, iv yy3, iv yy4, iv z9, iv z10, iv z11, iv z12, iv z13, iv z14, iv z15, iv z16, iv z17, rv u, rv b17, iv 1, .unset, .unset] [])) (fun _ k => XS.icmpYes X17.here hx rfl (pc0 := 303) (pc' := 322) rfl (hb hby at_303) rfl (tlt cd6).2.2.1 (by decide) (by decide) k) ?_
                    refine Go.st (f' := (mkF m 323 #[iv p1, iv p2, iv p3, iv p4, iv p5, iv yy1, iv yy2, iv yy3, iv yy4, iv z9, iv z10, iv z11, iv z12, iv z13, iv z14, iv z15, iv z16, iv z17, rv u, rv b17, iv 1, .unset, .unset] [(.int 0)])) (fun _ k => XS.iconst X17.here hx rfl (hb hby at_322) k) ?_
                    refine Go.st (f' := (mkF m 325 #[iv p1, iv p2, iv p3, iv p4, iv p5, iv yy1, iv yy2, iv yy3, iv yy4, iv z9, iv z10, iv z11, iv z12, iv z13, iv z14, iv z15, iv z16, iv z17, rv u, rv b17, iv 1, iv 0, .unset] [])) (fun _ k => XS.istore X17.here hx rfl (hb hby at_323) rfl (l' := #[iv p1, iv p2, iv p3, iv p4, iv p5, iv yy1, iv yy2, iv yy3, iv yy4, iv z9, iv z10, iv z11, iv z12, iv z13, iv z14, iv z15, iv z16, iv z17, rv u, rv b17, iv 1, iv 0, .unset]) rfl k) ?_
                    exact J2 (1 : Int32) (0 : Int32) rfl
                  · refine Go.st (f' := (mkF m 297 #[iv p1, iv p2, iv p3, iv p4, iv p5, iv yy1, iv yy2, iv yy3, iv yy4, iv z9, iv z10, iv z11, iv z12, iv z13, iv z14, iv z15, iv z16, iv z17, rv u, rv b17, .unset, .unset, .unset] [])) (fun _ k => XS.icmpYes X17.here hx rfl (pc0 := 290) (pc' := 297) rfl (hb hby at_290) rfl (feq cd29).2 (by decide) (by decide) k) ?_
                    refine Go.st (f' := (mkF m 298 #[iv p1, iv p2, iv p3, iv p4, iv p5, iv yy1, iv yy2, iv yy3, iv yy4, iv z9, iv z10, iv z11, iv z12, iv z13, iv z14, iv z15, iv z16, iv z17, rv u, rv b17, .unset, .unset, .unset] [(.int 0)])) (fun _ k => XS.iconst X17.here hx rfl (hb hby at_297) k) ?_
                    refine Go.st (f' := (mkF m 300 #[iv p1, iv p2, iv p3, iv p4, iv p5, iv yy1, iv yy2, iv yy3, iv yy4, iv z9, iv z10, iv z11, iv z12, iv z13, iv z14, iv z15, iv z16, iv z17, rv u, rv b17, iv 0, .unset, .unset] [])) (fun _ k => XS.istore X17.here hx rfl (hb hby at_298) rfl (l' := #[iv p1, iv p2, iv p3, iv p4, iv p5, iv yy1, iv yy2, iv yy3, iv yy4, iv z9, iv z10, iv z11, iv z12, iv z13, iv z14, iv z15, iv z16, iv z17, rv u, rv b17, iv 0, .unset, .unset]) rfl k) ?_
                    refine Go.st (f' := (mkF m 302 #[iv p1, iv p2, iv p3, iv p4, iv p5, iv yy1, iv yy2, iv yy3, iv yy4, iv z9, iv z10, iv z11, iv z12, iv z13, iv z14, iv z15, iv z16, iv z17, rv u, rv b17, iv 0, .unset, .unset] [(.int z17)])) (fun _ k => XS.iload X17.here hx rfl (hb hby at_300) rfl k) ?_
                    refine Go.st (f' := (mkF m 303 #[iv p1, iv p2, iv p3, iv p4, iv p5, iv yy1, iv yy2, iv yy3, iv yy4, iv z9, iv z10, iv z11, iv z12, iv z13, iv z14, iv z15, iv z16, iv z17, rv u, rv b17, iv 0, .unset, .unset] [(.int 1), (.int z17)])) (fun _ k => XS.iconst X17.here hx rfl (hb hby at_302) k) ?_
                    refine Go.st (f' := (mkF m 322 #[iv p1, iv p2, iv p3, iv p4, iv p5, iv yy1, iv yy2, iv yy3, iv yy4, iv z9, iv z10, iv z11, iv z12, iv z13, iv z14, iv z15, iv z16, iv z17, rv u, rv b17, iv 0, .unset, .unset] [])) (fun _ k => XS.icmpYes X17.here hx rfl (pc0 := 303) (pc' := 322) rfl (hb hby at_303) rfl (tlt cd6).2.2.1 (by decide) (by decide) k) ?_
                    refine Go.st (f' := (mkF m 323 #[iv p1, iv p2, iv p3, iv p4, iv p5, iv yy1, iv yy2, iv yy3, iv yy4, iv z9, iv z10, iv z11, iv z12, iv z13, iv z14, iv z15, iv z16, iv z17, rv u, rv b17, iv 0, .unset, .unset] [(.int 0)])) (fun _ k => XS.iconst X17.here hx rfl (hb hby at_322) k) ?_
                    refine Go.st (f' := (mkF m 325 #[iv p1, iv p2, iv p3, iv p4, iv p5, iv yy1, iv yy2, iv yy3, iv yy4, iv z9, iv z10, iv z11, iv z12, iv z13, iv z14, iv z15, iv z16, iv z17, rv u, rv b17, iv 0, iv 0, .unset] [])) (fun _ k => XS.istore X17.here hx rfl (hb hby at_323) rfl (l' := #[iv p1, iv p2, iv p3, iv p4, iv p5, iv yy1, iv yy2, iv yy3, iv yy4, iv z9, iv z10, iv z11, iv z12, iv z13, iv z14, iv z15, iv z16, iv z17, rv u, rv b17, iv 0, iv 0, .unset]) rfl k) ?_
                    exact J2 (0 : Int32) (0 : Int32) rfl
              · refine Go.st (f' := (mkF m 297 #[iv p1, iv p2, iv p3, iv p4, iv p5, iv yy1, iv yy2, iv yy3, iv yy4, iv z9, iv z10, iv z11, iv z12, iv z13, iv z14, iv z15, iv z16, iv z17, rv u, rv b17, .unset, .unset, .unset] [])) (fun _ k => XS.icmpYes X17.here hx rfl (pc0 := 277) (pc' := 297) rfl (hb hby at_277) rfl (feq cd27).2 (by decide) (by decide) k) ?_
                refine Go.st (f' := (mkF m 298 #[iv p1, iv p2, iv p3, iv p4, iv p5, iv yy1, iv yy2, iv yy3, iv yy4, iv z9, iv z10, iv z11, iv z12, iv z13, iv z14, iv z15, iv z16, iv z17, rv u, rv b17, .unset, .unset, .unset] [(.int 0)])) (fun _ k => XS.iconst X17.here hx rfl (hb hby at_297) k) ?_
                refine Go.st (f' := (mkF m 300 #[iv p1, iv p2, iv p3, iv p4, iv p5, iv yy1, iv yy2, iv yy3, iv yy4, iv z9, iv z10, iv z11, iv z12, iv z13, iv z14, iv z15, iv z16, iv z17, rv u, rv b17, iv 0, .unset, .unset] [])) (fun _ k => XS.istore X17.here hx rfl (hb hby at_298) rfl (l' := #[iv p1, iv p2, iv p3, iv p4, iv p5, iv yy1, iv yy2, iv yy3, iv yy4, iv z9, iv z10, iv z11, iv z12, iv z13, iv z14, iv z15, iv z16, iv z17, rv u, rv b17, iv 0, .unset, .unset]) rfl k) ?_
                refine Go.st (f' := (mkF m 302 #[iv p1, iv p2, iv p3, iv p4, iv p5, iv yy1, iv yy2, iv yy3, iv yy4, iv z9, iv z10, iv z11, iv z12, iv z13, iv z14, iv z15, iv z16, iv z17, rv u, rv b17, iv 0, .unset, .unset] [(.int z17)])) (fun _ k => XS.iload X17.here hx rfl (hb hby at_300) rfl k) ?_
                refine Go.st (f' := (mkF m 303 #[iv p1, iv p2, iv p3, iv p4, iv p5, iv yy1, iv yy2, iv yy3, iv yy4, iv z9, iv z10, iv z11, iv z12, iv z13, iv z14, iv z15, iv z16, iv z17, rv u, rv b17, iv 0, .unset, .unset] [(.int 1), (.int z17)])) (fun _ k => XS.iconst X17.here hx rfl (hb hby at_302) k) ?_
                refine Go.st (f' := (mkF m 322 #[iv p1, iv p2, iv p3, iv p4, iv p5, iv yy1, iv yy2, iv yy3, iv yy4, iv z9, iv z10, iv z11, iv z12, iv z13, iv z14, iv z15, iv z16, iv z17, rv u, rv b17, iv 0, .unset, .unset] [])) (fun _ k => XS.icmpYes X17.here hx rfl (pc0 := 303) (pc' := 322) rfl (hb hby at_303) rfl (tlt cd6).2.2.1 (by decide) (by decide) k) ?_
                refine Go.st (f' := (mkF m 323 #[iv p1, iv p2, iv p3, iv p4, iv p5, iv yy1, iv yy2, iv yy3, iv yy4, iv z9, iv z10, iv z11, iv z12, iv z13, iv z14, iv z15, iv z16, iv z17, rv u, rv b17, iv 0, .unset, .unset] [(.int 0)])) (fun _ k => XS.iconst X17.here hx rfl (hb hby at_322) k) ?_
                refine Go.st (f' := (mkF m 325 #[iv p1, iv p2, iv p3, iv p4, iv p5, iv yy1, iv yy2, iv yy3, iv yy4, iv z9, iv z10, iv z11, iv z12, iv z13, iv z14, iv z15, iv z16, iv z17, rv u, rv b17, iv 0, iv 0, .unset] [])) (fun _ k => XS.istore X17.here hx rfl (hb hby at_323) rfl (l' := #[iv p1, iv p2, iv p3, iv p4, iv p5, iv yy1, iv yy2, iv yy3, iv yy4, iv z9, iv z10, iv z11, iv z12, iv z13, iv z14, iv z15, iv z16, iv z17, rv u, rv b17, iv 0, iv 0, .unset]) rfl k) ?_
                exact J2 (0 : Int32) (0 : Int32) rfl
          · refine Go.st (f' := (mkF m 297 #[iv p1, iv p2, iv p3, iv p4, iv p5, iv yy1, iv yy2, iv yy3, iv yy4, iv z9, iv z10, iv z11, iv z12, iv z13, iv z14, iv z15, iv z16, iv z17, rv u, rv b17, .unset, .unset, .unset] [])) (fun _ k => XS.icmpYes X17.here hx rfl (pc0 := 264) (pc' := 297) rfl (hb hby at_264) rfl (feq cd23).2 (by decide) (by decide) k) ?_
            refine Go.st (f' := (mkF m 298 #[iv p1, iv p2, iv p3, iv p4, iv p5, iv yy1, iv yy2, iv yy3, iv yy4, iv z9, iv z10, iv z11, iv z12, iv z13, iv z14, iv z15, iv z16, iv z17, rv u, rv b17, .unset, .unset, .unset] [(.int 0)])) (fun _ k => XS.iconst X17.here hx rfl (hb hby at_297) k) ?_
            refine Go.st (f' := (mkF m 300 #[iv p1, iv p2, iv p3, iv p4, iv p5, iv yy1, iv yy2, iv yy3, iv yy4, iv z9, iv z10, iv z11, iv z12, iv z13, iv z14, iv z15, iv z16, iv z17, rv u, rv b17, iv 0, .unset, .unset] [])) (fun _ k => XS.istore X17.here hx rfl (hb hby at_298) rfl (l' := #[iv p1, iv p2, iv p3, iv p4, iv p5, iv yy1, iv yy2, iv yy3, iv yy4, iv z9, iv z10, iv z11, iv z12, iv z13, iv z14, iv z15, iv z16, iv z17, rv u, rv b17, iv 0, .unset, .unset]) rfl k) ?_
            refine Go.st (f' := (mkF m 302 #[iv p1, iv p2, iv p3, iv p4, iv p5, iv yy1, iv yy2, iv yy3, iv yy4, iv z9, iv z10, iv z11, iv z12, iv z13, iv z14, iv z15, iv z16, iv z17, rv u, rv b17, iv 0, .unset, .unset] [(.int z17)])) (fun _ k => XS.iload X17.here hx rfl (hb hby at_300) rfl k) ?_
            refine Go.st (f' := (mkF m 303 #[iv p1, iv p2, iv p3, iv p4, iv p5, iv yy1, iv yy2, iv yy3, iv yy4, iv z9, iv z10, iv z11, iv z12, iv z13, iv z14, iv z15, iv z16, iv z17, rv u, rv b17, iv 0, .unset, .unset] [(.int 1), (.int z17)])) (fun _ k => XS.iconst X17.here hx rfl (hb hby at_302) k) ?_
            refine Go.st (f' := (mkF m 322 #[iv p1, iv p2, iv p3, iv p4, iv p5, iv yy1, iv yy2, iv yy3, iv yy4, iv z9, iv z10, iv z11, iv z12, iv z13, iv z14, iv z15, iv z16, iv z17, rv u, rv b17, iv 0, .unset, .unset] [])) (fun _ k => XS.icmpYes X17.here hx rfl (pc0 := 303) (pc' := 322) rfl (hb hby at_303) rfl (tlt cd6).2.2.1 (by decide) (by decide) k) ?_
            refine Go.st (f' := (mkF m 323 #[iv p1, iv p2, iv p3, iv p4, iv p5, iv yy1, iv yy2, iv yy3, iv yy4, iv z9, iv z10, iv z11, iv z12, iv z13, iv z14, iv z15, iv z16, iv z17, rv u, rv b17, iv 0, .unset, .unset] [(.int 0)])) (fun _ k => XS.iconst X17.here hx rfl (hb hby at_322) k) ?_
            refine Go.st (f' := (mkF m 325 #[iv p1, iv p2, iv p3, iv p4, iv p5, iv yy1, iv yy2, iv yy3, iv yy4, iv z9, iv z10, iv z11, iv z12, iv z13, iv z14, iv z15, iv z16, iv z17, rv u, rv b17, iv 0, iv 0, .unset] [])) (fun _ k => XS.istore X17.here hx rfl (hb hby at_323) rfl (l' := #[iv p1, iv p2, iv p3, iv p4, iv p5, iv yy1, iv yy2, iv yy3, iv yy4, iv z9, iv z10, iv z11, iv z12, iv z13, iv z14, iv z15, iv z16, iv z17, rv u, rv b17, iv 0, iv 0, .unset]) rfl k) ?_
            exact J2 (0 : Int32) (0 : Int32) rfl
      · refine Go.st (f' := (mkF m 215 #[iv p1, iv p2, iv p3, iv p4, iv p5, iv yy1, iv yy2, iv yy3, iv yy4, iv z9, iv z10, iv z11, iv z12, iv z13, iv z14, iv z15, iv z16, iv z17, rv u, .unset, .unset, .unset, .unset] [])) (fun _ k => XS.icmpNo XJ5.here hx rfl (hb hby at_212) rfl (flt cd6).2.2.1 k) ?_
        obtain ⟨T30, h30, X30, e30, E30, A30, D30, -, st30⟩ := newO XJ5 hx hZJ5 hownJ5 (hw _ (List.mem_of_getElem? (i := 0) rfl)) (hw _ (List.mem_of_getElem? (i := 1) rfl)) (hw _ (List.mem_of_getElem? (i := 2) rfl)) eJ5 (g := (mkF m 215 #[iv p1, iv p2, iv p3, iv p4, iv p5, iv yy1, iv yy2, iv yy3, iv yy4, iv z9, iv z10, iv z11, iv z12, iv z13, iv z14, iv z15, iv z16, iv z17, rv u, .unset, .unset, .unset, .unset] [])) rfl (hb hby at_215) (by decide) (by decide)
        obtain ⟨b30, g30⟩ : ∃ z, z = hJ5.size := ⟨_, rfl⟩
        rw [← g30] at A30 D30 st30
        have ne_u_b30 : u ≠ b30 := Nat.ne_of_lt (Nat.lt_of_lt_of_eq lt_u g30.symm)
        have g_b30 : n0 ≤ b30 := Nat.le_trans (OJ5.1 ▸ OJ5.2.1) (Nat.le_of_eq g30.symm)
        have O30 : Old Z n0 h30 := OJ5.ext E30
        have CR30 : CHr Z EL s.vm h0 vmJ5 h30 := CRJ5.trans (CHr.ext E30 CRJ5.1)
        have sf_b30 : Safe Z EL vmJ5 h30 b30 := (Safe.new (Nat.le_of_eq g30.symm)).ext E30 CRJ5.1
        have lt_b30 := A30.lt
        have F_userId_b30 : Fld Z h30 b30 "com/example/wirecall/wirecall/demo/User" "userId" "I" (.int (0 : Int32)) := D30 (Or.inl (hw _ (List.mem_of_getElem? (i := 17) rfl))) (ty := .int) (by decide)
        have F_userName_b30 : Fld Z h30 b30 "com/example/wirecall/wirecall/demo/User" "userName" "Ljava/lang/String;" .null := D30 (Or.inl (hw _ (List.mem_of_getElem? (i := 19) rfl))) (ty := (.object "java/lang/String")) (by decide)
        refine Go.st (f' := (mkF m 218 #[iv p1, iv p2, iv p3, iv p4, iv p5, iv yy1, iv yy2, iv yy3, iv yy4, iv z9, iv z10, iv z11, iv z12, iv z13, iv z14, iv z15, iv z16, iv z17, rv u, .unset, .unset, .unset, .unset] [(.ref b30)])) (fun _ k => st30 _ k) ?_
        refine Go.st (f' := (mkF m 219 #[iv p1, iv p2, iv p3, iv p4, iv p5, iv yy1, iv yy2, iv yy3, iv yy4, iv z9, iv z10, iv z11, iv z12, iv z13, iv z14, iv z15, iv z16, iv z17, rv u, .unset, .unset, .unset, .unset] [(.ref b30), (.ref b30)])) (fun _ k => XS.dup X30.here hx rfl (hb hby at_218) rfl rfl k) ?_
        refine Go.st (f' := (mkF m 221 #[iv p1, iv p2, iv p3, iv p4, iv p5, iv yy1, iv yy2, iv yy3, iv yy4, iv z9, iv z10, iv z11, iv z12, iv z13, iv z14, iv z15, iv z16, iv z17, rv u, .unset, .unset, .unset, .unset] [(.int z12), (.ref b30), (.ref b30)])) (fun _ k => XS.iload X30.here hx rfl (hb hby at_219) rfl k) ?_
        refine Go.st (f' := (mkF m 223 #[iv p1, iv p2, iv p3, iv p4, iv p5, iv yy1, iv yy2, iv yy3, iv yy4, iv z9, iv z10, iv z11, iv z12, iv z13, iv z14, iv z15, iv z16, iv z17, rv u, .unset, .unset, .unset, .unset] [(.int z13), (.int z12), (.ref b30), (.ref b30)])) (fun _ k => XS.iload X30.here hx rfl (hb hby at_221) rfl k) ?_
        refine Go.st (f' := (mkF m 225 #[iv p1, iv p2, iv p3, iv p4, iv p5, iv yy1, iv yy2, iv yy3, iv yy4, iv z9, iv z10, iv z11, iv z12, iv z13, iv z14, iv z15, iv z16, iv z17, rv u, .unset, .unset, .unset, .unset] [(.int z15), (.int z13), (.int z12), (.ref b30), (.ref b30)])) (fun _ k => XS.iload X30.here hx rfl (hb hby at_223) rfl k) ?_
        refine Go.st (f' := (mkF m 227 #[iv p1, iv p2, iv p3, iv p4, iv p5, iv yy1, iv yy2, iv yy3, iv yy4, iv z9, iv z10, iv z11, iv z12, iv z13, iv z14, iv z15, iv z16, iv z17, rv u, .unset, .unset, .unset, .unset] [(.int z16), (.int z15), (.int z13), (.int z12), (.ref b30), (.ref b30)])) (fun _ k => XS.iload X30.here hx rfl (hb hby at_225) rfl k) ?_
        obtain ⟨_, _, ⟨T31, L31, kk31, nn31⟩, -, Xw31, hSw31, hgw31, ⟨Lc31, hQ31, lq31, yq31, zz31, crw31⟩, st31⟩ := callSS X30 hx (y := (⟨"com/example/wirecall/wirecall/demo/UserEqualsPinLaw", "name", "(ICC)Ljava/lang/String;"⟩ : MethodName)) hownJ5 (mvT hZJ5 (hw _ (List.mem_of_getElem? (i := 9) rfl))) (mvT hZJ5 (hw _ (List.mem_of_getElem? (i := 10) rfl))) (mvT hZJ5 (hw _ (List.mem_of_getElem? (i := 11) rfl))) (mvT hZJ5 (hw _ (List.mem_of_getElem? (i := 12) rfl))) (by decide) (own_backW (W := 3) (rmN l Z a0 hw [] z13 z15 z16 i_COMPACT_STRINGS v_SIOOBE_FORMATTER h30 n0 O30 hz13 hz15 hz16 WW) hZJ5 (hw _ (List.mem_of_getElem? (i := 12) rfl)) (hw _ (List.mem_of_getElem? (i := 11) rfl)) (by decide) (by decide) hEL CR30.1) (g := (mkF m 227 #[iv p1, iv p2, iv p3, iv p4, iv p5, iv yy1, iv yy2, iv yy3, iv yy4, iv z9, iv z10, iv z11, iv z12, iv z13, iv z14, iv z15, iv z16, iv z17, rv u, .unset, .unset, .unset, .unset] [(.int z16), (.int z15), (.int z13), (.int z12), (.ref b30), (.ref b30)])) rfl (by rw [hml]; rfl) (argsL := [(.int z13), (.int z15), (.int z16)]) (rest := [(.int z12), (.ref b30), (.ref b30)]) (lenOf pd__ICC_Ljava_lang_String_ rfl) rfl (by show 2 * 0 + _ ≤ _; exact Nat.le_of_eq rfl) (hb hby at_227) (fun _ _ => ⟨rfl, e30, (by decide : 8 + 6 ≤ _), (by decide : 16 + 12 ≤ _)⟩)
        dsimp only [Pt.U, Pt.locs, Pt.cells, Pt.slots] at Xw31 lq31 yq31 zz31 st31 hQ31 hSw31 hgw31 crw31
        subst lq31 yq31 zz31
        have ft32 := (Nat.le_trans hkJ5 E30.1)
        obtain ⟨X31, hS31, hZ31, hown31⟩ := rebS hSJ5 (by rw [e30]; exact ft32) Xw31 hSw31 hgw31 hZJ5 hownJ5
        obtain ⟨nv31, rfl, Nq31, kq31, nm31, nw31⟩ := hQ31
        have N31 := Fr.app NJ5 Nq31
        have ft33 := (Nm.ext N_u E30)
        have dn31_nA : Dn nA nv31 := fun a b q r => Nat.ne_of_lt (Nat.lt_of_lt_of_le (Nm.lt ft33 q) (nw31 _ r))
        have O31 : Old Z n0 T31.heap := O30.keep kq31 all0
        have hk31 : T31.heap.size ≤ T31.heap.size := Nat.le_refl _
        have sf34 := crw31.safe lt_b30 sf_b30
        have CR31 := CR30.trans crw31
        refine Go.tr (f' := (mkF m 230 #[iv p1, iv p2, iv p3, iv p4, iv p5, iv yy1, iv yy2, iv yy3, iv yy4, iv z9, iv z10, iv z11, iv z12, iv z13, iv z14, iv z15, iv z16, iv z17, rv u, .unset, .unset, .unset, .unset] [nv31, (.int z12), (.ref b30), (.ref b30)])) st31 ?_
        have ft36 := (A30.keep kq31)
        have ft37 := (F_userId_b30.keep kq31 nin0)
        have ft38 := (F_userName_b30.keep kq31 nin0)
        have ft39 := (Nm.keep0 ft33 kq31)
        obtain ⟨_, _, ⟨T35, L35, kk35, nn35⟩, -, X35, ⟨Lc35, hQ35, lq35, yq35, zz35⟩, st35⟩ := X31.specialBack hx (y := (⟨"com/example/wirecall/wirecall/demo/User", "<init>", "(ILjava/lang/String;)V"⟩ : MethodName)) rfl hown31 (mvT hZ31 (hw _ (List.mem_of_getElem? (i := 13) rfl))) (mvT hZ31 (hw _ (List.mem_of_getElem? (i := 14) rfl))) (mvT hZ31 (hw _ (List.mem_of_getElem? (i := 15) rfl))) (by decide) (own_back (W := 1) (rmU2 l Z a0 hw [] b30 z12 nv31 T31.heap n0 O31 nm31.isRef g_b30 ft36 ft37 ft38) hZ31 (hw _ (List.mem_of_getElem? (i := 15) rfl)) (hw _ (List.mem_of_getElem? (i := 2) rfl)) (by decide) (by decide)) (g := (mkF m 230 #[iv p1, iv p2, iv p3, iv p4, iv p5, iv yy1, iv yy2, iv yy3, iv yy4, iv z9, iv z10, iv z11, iv z12, iv z13, iv z14, iv z15, iv z16, iv z17, rv u, .unset, .unset, .unset, .unset] [nv31, (.int z12), (.ref b30), (.ref b30)])) rfl (by rw [hml]; rfl) (Steps.refl _) (a := b30) (argsL := [(.int z12), nv31]) (rest := [(.ref b30)]) (lenOf pd__ILjava_lang_String__V rfl) rfl (by show 2 * 0 + _ ≤ _; exact Nat.le_of_eq rfl) (hb hby at_230) (fun _ _ => ⟨rfl, rfl, (by decide : 14 + 0 ≤ _), (by decide : 28 + 0 ≤ _)⟩)
        dsimp only [Pt.U, Pt.locs, Pt.cells, Pt.slots] at X35 lq35 yq35 zz35 st35 hQ35
        subst lq35 yq35 zz35
        obtain ⟨rfl, Nq35, kq35, eq35, fq35_0, fq35_1⟩ := hQ35
        have N35 := Fr.app N31 Nq35
        have O35 : Old Z n0 T35.heap := O31.keep kq35 (allS g_b30 all0)
        have CR35 : CHr Z EL s.vm h0 T31.vm T35.heap := CR31.trans (CHr.keep kq35 (sfS sf34 sf0) CR31.1)
        have nk35_nA := Nm.keep1 ft39 kq35 ft36 (by decide) (hw _ (List.mem_of_getElem? (i := 1) rfl))
        have nk35_nv31 := Nm.keep1 nm31 kq35 ft36 (by decide) (hw _ (List.mem_of_getElem? (i := 1) rfl))
        refine Go.tr (f' := (mkF m 233 #[iv p1, iv p2, iv p3, iv p4, iv p5, iv yy1, iv yy2, iv yy3, iv yy4, iv z9, iv z10, iv z11, iv z12, iv z13, iv z14, iv z15, iv z16, iv z17, rv u, .unset, .unset, .unset, .unset] [(.ref b30)])) st35 ?_
        refine Go.st (f' := (mkF m 235 #[iv p1, iv p2, iv p3, iv p4, iv p5, iv yy1, iv yy2, iv yy3, iv yy4, iv z9, iv z10, iv z11, iv z12, iv z13, iv z14, iv z15, iv z16, iv z17, rv u, rv b30, .unset, .unset, .unset] [])) (fun _ k => XS.astore X35.here hx rfl (hb hby at_233) rfl rfl (l' := #[iv p1, iv p2, iv p3, iv p4, iv p5, iv yy1, iv yy2, iv yy3, iv yy4, iv z9, iv z10, iv z11, iv z12, iv z13, iv z14, iv z15, iv z16, iv z17, rv u, rv b30, .unset, .unset, .unset]) rfl k) ?_
        refine Go.st (f' := (mkF m 260 #[iv p1, iv p2, iv p3, iv p4, iv p5, iv yy1, iv yy2, iv yy3, iv yy4, iv z9, iv z10, iv z11, iv z12, iv z13, iv z14, iv z15, iv z16, iv z17, rv u, rv b30, .unset, .unset, .unset] [])) (fun _ k => XS.goto X35.here hx rfl (pc0 := 235) (pc' := 260) rfl (hb hby at_235) (by decide) (by decide) k) ?_
        have J2 : ∀ (z20 : Int32) (z21 : Int32), (z21 = (ueI z11 z12 z10 z13 yy1 yy2 z15 z16)) → Go p e below (DoneW s Z EL (QL n0) room_1.cells room_1.slots) T35 (mkF m 325 #[iv p1, iv p2, iv p3, iv p4, iv p5, iv yy1, iv yy2, iv yy3, iv yy4, iv z9, iv z10, iv z11, iv z12, iv z13, iv z14, iv z15, iv z16, iv z17, rv u, rv b30, iv z20, iv z21, .unset] []) := by
          intro z20 z21 hz21
          refine Go.st (f' := (mkF m 327 #[iv p1, iv p2, iv p3, iv p4, iv p5, iv yy1, iv yy2, iv yy3, iv yy4, iv z9, iv z10, iv z11, iv z12, iv z13, iv z14, iv z15, iv z16, iv z17, rv u, rv b30, iv z20, iv z21, .unset] [(.ref u)])) (fun _ k => XS.aload X35.here hx rfl (hb hby at_325) rfl rfl k) ?_
          refine Go.st (f' := (mkF m 329 #[iv p1, iv p2, iv p3, iv p4, iv p5, iv yy1, iv yy2, iv yy3, iv yy4, iv z9, iv z10, iv z11, iv z12, iv z13, iv z14, iv z15, iv z16, iv z17, rv u, rv b30, iv z20, iv z21, .unset] [(.ref b30), (.ref u)])) (fun _ k => XS.aload X35.here hx rfl (hb hby at_327) rfl rfl k) ?_
          have ft41 := (((E_u.ext E30).keep kq31).keep kq35)
          have ft42 := (((F_u_i.ext E30).keep kq31 nin0).keep kq35 (ninS ne_u_b30 nin0))
          have ft43 := (((F_u_n.ext E30).keep kq31 nin0).keep kq35 (ninS ne_u_b30 nin0))
          obtain ⟨cq40, kq40, q40a, q40b, q40c⟩ := isOf hZ31 rfl ft41
          obtain ⟨_, _, ⟨T40, L40, kk40, nn40⟩, -, X40, ⟨Lc40, hQ40, lq40, yq40, zz40⟩, st40⟩ := X35.virtualBack hx (y := (⟨"com/example/wirecall/wirecall/demo/User", "equals", "(Ljava/lang/Object;)Z"⟩ : MethodName)) (z := (⟨"com/example/wirecall/wirecall/demo/User", "equals", "(Ljava/lang/Object;)Z"⟩ : MethodName)) hown31 (mvT hZ31 (hw _ (List.mem_of_getElem? (i := 20) rfl))) (mvT hZ31 (hw _ (List.mem_of_getElem? (i := 21) rfl))) (notFace_of_selects (args := #[]) (mvT hZ31 (hw _ (List.mem_of_getElem? (i := 23) rfl)))) (mvT hZ31 (hw _ (List.mem_of_getElem? (i := 23) rfl))) (mvT hZ31 (hw _ (List.mem_of_getElem? (i := 22) rfl))) (by decide) (own_back (W := 0) (rmUE l Z a0 hw [] u b30 z11 z12 nA nv31 z10 yy1 yy2 z13 z15 z16 i_COMPACT_STRINGS v_SIOOBE_FORMATTER T35.heap n0 O35 ft41 ft42 ft43 eq35 fq35_0 fq35_1 nk35_nA nk35_nv31 dn31_nA (hyy1 ▸ own_b _) (hyy2 ▸ own_b _) hz15 hz16 WW) hZ31 (hw _ (List.mem_of_getElem? (i := 24) rfl)) (hw _ (List.mem_of_getElem? (i := 2) rfl)) (by decide) (by decide)) q40a q40c (g := (mkF m 329 #[iv p1, iv p2, iv p3, iv p4, iv p5, iv yy1, iv yy2, iv yy3, iv yy4, iv z9, iv z10, iv z11, iv z12, iv z13, iv z14, iv z15, iv z16, iv z17, rv u, rv b30, iv z20, iv z21, .unset] [(.ref b30), (.ref u)])) rfl (by rw [hml]; rfl) (Steps.refl _) (argsL := [(.ref b30)]) (rest := []) (lenOf pd__Ljava_lang_Object__Z rfl) rfl (by show 2 * 0 + _ ≤ _; exact Nat.le_of_eq rfl) (hb hby at_329) (fun _ _ => ⟨rfl, rfl, (by decide : 14 + 0 ≤ _), (by decide : 28 + 0 ≤ _)⟩)
          dsimp only [Pt.U, Pt.locs, Pt.cells, Pt.slots] at X40 lq40 yq40 zz40 st40 hQ40
          subst lq40 yq40 zz40
          obtain ⟨rfl, Nq40, kq40⟩ := hQ40
          have N40 := Fr.app N35 Nq40
          refine Go.tr (f' := (mkF m 332 #[iv p1, iv p2, iv p3, iv p4, iv p5, iv yy1, iv yy2, iv yy3, iv yy4, iv z9, iv z10, iv z11, iv z12, iv z13, iv z14, iv z15, iv z16, iv z17, rv u, rv b30, iv z20, iv z21, .unset] [(.int (ueI z11 z12 z10 z13 yy1 yy2 z15 z16))])) st40 ?_
          obtain ⟨yy44, hyy44⟩ : ∃ z, z = (ueI z11 z12 z10 z13 yy1 yy2 z15 z16) := ⟨_, rfl⟩
          rw [← hyy44]
          refine Go.st (f' := (mkF m 334 #[iv p1, iv p2, iv p3, iv p4, iv p5, iv yy1, iv yy2, iv yy3, iv yy4, iv z9, iv z10, iv z11, iv z12, iv z13, iv z14, iv z15, iv z16, iv z17, rv u, rv b30, iv z20, iv z21, iv yy44] [])) (fun _ k => XS.istore X40.here hx rfl (hb hby at_332) rfl (l' := #[iv p1, iv p2, iv p3, iv p4, iv p5, iv yy1, iv yy2, iv yy3, iv yy4, iv z9, iv z10, iv z11, iv z12, iv z13, iv z14, iv z15, iv z16, iv z17, rv u, rv b30, iv z20, iv z21, iv yy44]) rfl k) ?_
          refine Go.st (f' := (mkF m 336 #[iv p1, iv p2, iv p3, iv p4, iv p5, iv yy1, iv yy2, iv yy3, iv yy4, iv z9, iv z10, iv z11, iv z12, iv z13, iv z14, iv z15, iv z16, iv z17, rv u, rv b30, iv z20, iv z21, iv yy44] [(.int yy44)])) (fun _ k => XS.iload X40.here hx rfl (hb hby at_334) rfl k) ?_
          refine Go.st (f' := (mkF m 338 #[iv p1, iv p2, iv p3, iv p4, iv p5, iv yy1, iv yy2, iv yy3, iv yy4, iv z9, iv z10, iv z11, iv z12, iv z13, iv z14, iv z15, iv z16, iv z17, rv u, rv b30, iv z20, iv z21, iv yy44] [(.int z21), (.int yy44)])) (fun _ k => XS.iload X40.here hx rfl (hb hby at_336) rfl k) ?_
          refine Go.st (f' := (mkF m 343 #[iv p1, iv p2, iv p3, iv p4, iv p5, iv yy1, iv yy2, iv yy3, iv yy4, iv z9, iv z10, iv z11, iv z12, iv z13, iv z14, iv z15, iv z16, iv z17, rv u, rv b30, iv z20, iv z21, iv yy44] [])) (fun _ k => XS.icmpYes X40.here hx rfl (pc0 := 338) (pc' := 343) rfl (hb hby at_338) rfl (teq (hyy44.trans hz21.symm)).1 (by decide) (by decide) k) ?_
          refine Go.st (f' := (mkF m 345 #[iv p1, iv p2, iv p3, iv p4, iv p5, iv yy1, iv yy2, iv yy3, iv yy4, iv z9, iv z10, iv z11, iv z12, iv z13, iv z14, iv z15, iv z16, iv z17, rv u, rv b30, iv z20, iv z21, iv yy44] [(.ref u)])) (fun _ k => XS.aload X40.here hx rfl (hb hby at_343) rfl rfl k) ?_
          refine Go.st (f' := (mkF m 347 #[iv p1, iv p2, iv p3, iv p4, iv p5, iv yy1, iv yy2, iv yy3, iv yy4, iv z9, iv z10, iv z11, iv z12, iv z13, iv z14, iv z15, iv z16, iv z17, rv u, rv b30, iv z20, iv z21, iv yy44] [(.ref u), (.ref u)])) (fun _ k => XS.aload X40.here hx rfl (hb hby at_345) rfl rfl k) ?_
          obtain ⟨cq45, kq45, q45a, q45b, q45c⟩ := isOf hZ31 kq40 ft41
          obtain ⟨_, _, ⟨T45, L45, kk45, nn45⟩, -, X45, ⟨Lc45, hQ45, lq45, yq45, zz45⟩, st45⟩ := X40.virtualBack hx (y := (⟨"com/example/wirecall/wirecall/demo/User", "equals", "(Ljava/lang/Object;)Z"⟩ : MethodName)) (z := (⟨"com/example/wirecall/wirecall/demo/User", "equals", "(Ljava/lang/Object;)Z"⟩ : MethodName)) hown31 (mvT hZ31 (hw _ (List.mem_of_getElem? (i := 20) rfl))) (mvT hZ31 (hw _ (List.mem_of_getElem? (i := 21) rfl))) (notFace_of_selects (args := #[]) (mvT hZ31 (hw _ (List.mem_of_getElem? (i := 23) rfl)))) (mvT hZ31 (hw _ (List.mem_of_getElem? (i := 23) rfl))) (mvT hZ31 (hw _ (List.mem_of_getElem? (i := 22) rfl))) (by decide) (own_back (W := 0) (rmUS l Z a0 hw [] u z11 nA T35.heap n0 O35 N_u.isRef ft41 ft42 ft43) hZ31 (hw _ (List.mem_of_getElem? (i := 24) rfl)) (hw _ (List.mem_of_getElem? (i := 2) rfl)) (by decide) (by decide)) q45a q45c (g := (mkF m 347 #[iv p1, iv p2, iv p3, iv p4, iv p5, iv yy1, iv yy2, iv yy3, iv yy4, iv z9, iv z10, iv z11, iv z12, iv z13, iv z14, iv z15, iv z16, iv z17, rv u, rv b30, iv z20, iv z21, iv yy44] [(.ref u), (.ref u)])) rfl (by rw [hml]; rfl) (Steps.refl _) (argsL := [(.ref u)]) (rest := []) (lenOf pd__Ljava_lang_Object__Z rfl) rfl (by show 2 * 0 + _ ≤ _; exact Nat.le_of_eq rfl) (hb hby at_347) (fun _ _ => ⟨rfl, kq40, (by decide : 14 + 0 ≤ _), (by decide : 28 + 0 ≤ _)⟩)
          dsimp only [Pt.U, Pt.locs, Pt.cells, Pt.slots] at X45 lq45 yq45 zz45 st45 hQ45
          subst lq45 yq45 zz45
          obtain ⟨rfl, Nq45, kq45⟩ := hQ45
          have N45 := Fr.app N40 Nq45
          refine Go.tr (f' := (mkF m 350 #[iv p1, iv p2, iv p3, iv p4, iv p5, iv yy1, iv yy2, iv yy3, iv yy4, iv z9, iv z10, iv z11, iv z12, iv z13, iv z14, iv z15, iv z16, iv z17, rv u, rv b30, iv z20, iv z21, iv yy44] [(.int 1)])) st45 ?_
          refine Go.st (f' := (mkF m 355 #[iv p1, iv p2, iv p3, iv p4, iv p5, iv yy1, iv yy2, iv yy3, iv yy4, iv z9, iv z10, iv z11, iv z12, iv z13, iv z14, iv z15, iv z16, iv z17, rv u, rv b30, iv z20, iv z21, iv yy44] [])) (fun _ k => XS.ifYes X45.here hx rfl (pc0 := 350) (pc' := 355) rfl (hb hby at_350) rfl (by decide) (by decide) (by decide) k) ?_
          refine Go.st (f' := (mkF m 357 #[iv p1, iv p2, iv p3, iv p4, iv p5, iv yy1, iv yy2, iv yy3, iv yy4, iv z9, iv z10, iv z11, iv z12, iv z13, iv z14, iv z15, iv z16, iv z17, rv u, rv b30, iv z20, iv z21, iv yy44] [(.int z17)])) (fun _ k => XS.iload X45.here hx rfl (hb hby at_355) rfl k) ?_
          refine Go.st (f' := (mkF m 358 #[iv p1, iv p2, iv p3, iv p4, iv p5, iv yy1, iv yy2, iv yy3, iv yy4, iv z9, iv z10, iv z11, iv z12, iv z13, iv z14, iv z15, iv z16, iv z17, rv u, rv b30, iv z20, iv z21, iv yy44] [(.int 1), (.int z17)])) (fun _ k => XS.iconst X45.here hx rfl (hb hby at_357) k) ?_
          refine Go.st (f' := (mkF m 361 #[iv p1, iv p2, iv p3, iv p4, iv p5, iv yy1, iv yy2, iv yy3, iv yy4, iv z9, iv z10, iv z11, iv z12, iv z13, iv z14, iv z15, iv z16, iv z17, rv u, rv b30, iv z20, iv z21, iv yy44] [])) (fun _ k => XS.icmpNo X45.here hx rfl (hb hby at_358) rfl (flt cd6).2.2.1 k) ?_
          refine Go.st (f' := (mkF m 363 #[iv p1, iv p2, iv p3, iv p4, iv p5, iv yy1, iv yy2, iv yy3, iv yy4, iv z9, iv z10, iv z11, iv z12, iv z13, iv z14, iv z15, iv z16, iv z17, rv u, rv b30, iv z20, iv z21, iv yy44] [(.ref b30)])) (fun _ k => XS.aload X45.here hx rfl (hb hby at_361) rfl rfl k) ?_
          refine Go.st (f' := (mkF m 365 #[iv p1, iv p2, iv p3, iv p4, iv p5, iv yy1, iv yy2, iv yy3, iv yy4, iv z9, iv z10, iv z11, iv z12, iv z13, iv z14, iv z15, iv z16, iv z17, rv u, rv b30, iv z20, iv z21, iv yy44] [(.ref u), (.ref b30)])) (fun _ k => XS.aload X45.here hx rfl (hb hby at_363) rfl rfl k) ?_
          obtain ⟨cq46, kq46, q46a, q46b, q46c⟩ := isOf hZ31 kq45 eq35
          obtain ⟨_, _, ⟨T46, L46, kk46, nn46⟩, -, X46, ⟨Lc46, hQ46, lq46, yq46, zz46⟩, st46⟩ := X45.virtualBack hx (y := (⟨"java/lang/Object", "equals", "(Ljava/lang/Object;)Z"⟩ : MethodName)) (z := (⟨"com/example/wirecall/wirecall/demo/User", "equals", "(Ljava/lang/Object;)Z"⟩ : MethodName)) hown31 (mvT hZ31 (hw _ (List.mem_of_getElem? (i := 31) rfl))) (mvT hZ31 (hw _ (List.mem_of_getElem? (i := 32) rfl))) (nf_top (args := #[]) (mvT hZ31 (hw _ (List.mem_of_getElem? (i := 76) rfl)))) (mvT hZ31 (hw _ (List.mem_of_getElem? (i := 34) rfl))) (mvT hZ31 (hw _ (List.mem_of_getElem? (i := 22) rfl))) (by decide) (own_back (W := 0) (rmUE l Z a0 hw [] b30 u z12 z11 nv31 nA z13 z15 z16 z10 yy1 yy2 i_COMPACT_STRINGS v_SIOOBE_FORMATTER T35.heap n0 O35 eq35 fq35_0 fq35_1 ft41 ft42 ft43 nk35_nv31 nk35_nA (Dn.symm dn31_nA) hz15 hz16 (hyy1 ▸ own_b _) (hyy2 ▸ own_b _) WW) hZ31 (hw _ (List.mem_of_getElem? (i := 24) rfl)) (hw _ (List.mem_of_getElem? (i := 2) rfl)) (by decide) (by decide)) q46a q46c (g := (mkF m 365 #[iv p1, iv p2, iv p3, iv p4, iv p5, iv yy1, iv yy2, iv yy3, iv yy4, iv z9, iv z10, iv z11, iv z12, iv z13, iv z14, iv z15, iv z16, iv z17, rv u, rv b30, iv z20, iv z21, iv yy44] [(.ref u), (.ref b30)])) rfl (by rw [hml]; rfl) (Steps.refl _) (argsL := [(.ref u)]) (rest := []) (lenOf pd__Ljava_lang_Object__Z rfl) rfl (by show 2 * 0 + _ ≤ _; exact Nat.le_of_eq rfl) (hb hby at_365) (fun _ _ => ⟨rfl, kq45, (by decide : 14 + 0 ≤ _), (by decide : 28 + 0 ≤ _)⟩)
          dsimp only [Pt.U, Pt.locs, Pt.cells, Pt.slots] at X46 lq46 yq46 zz46 st46 hQ46
          subst lq46 yq46 zz46
          obtain ⟨rfl, Nq46, kq46⟩ := hQ46
          have N46 := Fr.app N45 Nq46
          refine Go.tr (f' := (mkF m 368 #[iv p1, iv p2, iv p3, iv p4, iv p5, iv yy1, iv yy2, iv yy3, iv yy4, iv z9, iv z10, iv z11, iv z12, iv z13, iv z14, iv z15, iv z16, iv z17, rv u, rv b30, iv z20, iv z21, iv yy44] [(.int (ueI z12 z11 z13 z10 z15 z16 yy1 yy2))])) st46 ?_
          refine Go.st (f' := (mkF m 370 #[iv p1, iv p2, iv p3, iv p4, iv p5, iv yy1, iv yy2, iv yy3, iv yy4, iv z9, iv z10, iv z11, iv z12, iv z13, iv z14, iv z15, iv z16, iv z17, rv u, rv b30, iv z20, iv z21, iv yy44] [(.int yy44), (.int (ueI z12 z11 z13 z10 z15 z16 yy1 yy2))])) (fun _ k => XS.iload X46.here hx rfl (hb hby at_368) rfl k) ?_
          refine Go.st (f' := (mkF m 375 #[iv p1, iv p2, iv p3, iv p4, iv p5, iv yy1, iv yy2, iv yy3, iv yy4, iv z9, iv z10, iv z11, iv z12, iv z13, iv z14, iv z15, iv z16, iv z17, rv u, rv b30, iv z20, iv z21, iv yy44] [])) (fun _ k => XS.icmpYes X46.here hx rfl (pc0 := 370) (pc' := 375) rfl (hb hby at_370) rfl (teq ((ueI_comm _ _ _ _ _ _ _ _).trans hyy44.symm)).1 (by decide) (by decide) k) ?_
          refine Go.st (f' := (mkF m 376 #[iv p1, iv p2, iv p3, iv p4, iv p5, iv yy1, iv yy2, iv yy3, iv yy4, iv z9, iv z10, iv z11, iv z12, iv z13, iv z14, iv z15, iv z16, iv z17, rv u, rv b30, iv z20, iv z21, iv yy44] [(.int 1)])) (fun _ k => XS.iconst X46.here hx rfl (hb hby at_375) k) ?_
          have ft47 := (Nat.le_trans hk31 kq35.1)
          refine GoW.retB X46 hlk hx (t := .boolean) hret (by simp) (hb hby at_376) kq46 hS31 ft47 hZ31 hEL CR35 hh ?_ (by decide) (by decide)
          exact ⟨rfl, N46⟩
        refine Go.st (f' := (mkF m 262 #[iv p1, iv p2, iv p3, iv p4, iv p5, iv yy1, iv yy2, iv yy3, iv yy4, iv z9, iv z10, iv z11, iv z12, iv z13, iv z14, iv z15, iv z16, iv z17, rv u, rv b30, .unset, .unset, .unset] [(.int z10)])) (fun _ k => XS.iload X35.here hx rfl (hb hby at_260) rfl k) ?_
        refine Go.st (f' := (mkF m 264 #[iv p1, iv p2, iv p3, iv p4, iv p5, iv yy1, iv yy2, iv yy3, iv yy4, iv z9, iv z10, iv z11, iv z12, iv z13, iv z14, iv z15, iv z16, iv z17, rv u, rv b30, .unset, .unset, .unset] [(.int z13), (.int z10)])) (fun _ k => XS.iload X35.here hx rfl (hb hby at_262) rfl k) ?_
        by_cases cd48 : z10 = z13
        · refine Go.st (f' := (mkF m 267 #[iv p1, iv p2, iv p3, iv p4, iv p5, iv yy1, iv yy2, iv yy3, iv yy4, iv z9, iv z10, iv z11, iv z12, iv z13, iv z14, iv z15, iv z16, iv z17, rv u, rv b30, .unset, .unset, .unset] [])) (fun _ k => XS.icmpNo X35.here hx rfl (hb hby at_264) rfl (teq cd48).2 k) ?_
          refine Go.st (f' := (mkF m 269 #[iv p1, iv p2, iv p3, iv p4, iv p5, iv yy1, iv yy2, iv yy3, iv yy4, iv z9, iv z10, iv z11, iv z12, iv z13, iv z14, iv z15, iv z16, iv z17, rv u, rv b30, .unset, .unset, .unset] [(.int z10)])) (fun _ k => XS.iload X35.here hx rfl (hb hby at_267) rfl k) ?_
          refine Go.st (f' := (mkF m 270 #[iv p1, iv p2, iv p3, iv p4, iv p5, iv yy1, iv yy2, iv yy3, iv yy4, iv z9, iv z10, iv z11, iv z12, iv z13, iv z14, iv z15, iv z16, iv z17, rv u, rv b30, .unset, .unset, .unset] [(.int 2), (.int z10)])) (fun _ k => XS.iconst X35.here hx rfl (hb hby at_269) k) ?_
          by_cases cd49 : z10 < (2 : Int32)
          · refine Go.st (f' := (mkF m 280 #[iv p1, iv p2, iv p3, iv p4, iv p5, iv yy1, iv yy2, iv yy3, iv yy4, iv z9, iv z10, iv z11, iv z12, iv z13, iv z14, iv z15, iv z16, iv z17, rv u, rv b30, .unset, .unset, .unset] [])) (fun _ k => XS.icmpYes X35.here hx rfl (pc0 := 270) (pc' := 280) rfl (hb hby at_270) rfl (tlt cd49).1 (by decide) (by decide) k) ?_
            refine Go.st (f' := (mkF m 282 #[iv p1, iv p2, iv p3, iv p4, iv p5, iv yy1, iv yy2, iv yy3, iv yy4, iv z9, iv z10, iv z11, iv z12, iv z13, iv z14, iv z15, iv z16, iv z17, rv u, rv b30, .unset, .unset, .unset] [(.int z10)])) (fun _ k => XS.iload X35.here hx rfl (hb hby at_280) rfl k) ?_
            refine Go.st (f' := (mkF m 283 #[iv p1, iv p2, iv p3, iv p4, iv p5, iv yy1, iv yy2, iv yy3, iv yy4, iv z9, iv z10, iv z11, iv z12, iv z13, iv z14, iv z15, iv z16, iv z17, rv u, rv b30, .unset, .unset, .unset] [(.int 3), (.int z10)])) (fun _ k => XS.iconst X35.here hx rfl (hb hby at_282) k) ?_
            by_cases cd50 : z10 < (3 : Int32)
            · refine Go.st (f' := (mkF m 293 #[iv p1, iv p2, iv p3, iv p4, iv p5, iv yy1, iv yy2, iv yy3, iv yy4, iv z9, iv z10, iv z11, iv z12, iv z13, iv z14, iv z15, iv z16, iv z17, rv u, rv b30, .unset, .unset, .unset] [])) (fun _ k => XS.icmpYes X35.here hx rfl (pc0 := 283) (pc' := 293) rfl (hb hby at_283) rfl (tlt cd50).1 (by decide) (by decide) k) ?_
              refine Go.st (f' := (mkF m 294 #[iv p1, iv p2, iv p3, iv p4, iv p5, iv yy1, iv yy2, iv yy3, iv yy4, iv z9, iv z10, iv z11, iv z12, iv z13, iv z14, iv z15, iv z16, iv z17, rv u, rv b30, .unset, .unset, .unset] [(.int 1)])) (fun _ k => XS.iconst X35.here hx rfl (hb hby at_293) k) ?_
              refine Go.st (f' := (mkF m 298 #[iv p1, iv p2, iv p3, iv p4, iv p5, iv yy1, iv yy2, iv yy3, iv yy4, iv z9, iv z10, iv z11, iv z12, iv z13, iv z14, iv z15, iv z16, iv z17, rv u, rv b30, .unset, .unset, .unset] [(.int 1)])) (fun _ k => XS.goto X35.here hx rfl (pc0 := 294) (pc' := 298) rfl (hb hby at_294) (by decide) (by decide) k) ?_
              refine Go.st (f' := (mkF m 300 #[iv p1, iv p2, iv p3, iv p4, iv p5, iv yy1, iv yy2, iv yy3, iv yy4, iv z9, iv z10, iv z11, iv z12, iv z13, iv z14, iv z15, iv z16, iv z17, rv u, rv b30, iv 1, .unset, .unset] [])) (fun _ k => XS.istore X35.here hx rfl (hb hby at_298) rfl (l' := #[iv p1, iv p2, iv p3, iv p4, iv p5, iv yy1, iv yy2, iv yy3, iv yy4, iv z9, iv z10, iv z11, iv z12, iv z13, iv z14, iv z15, iv z16, iv z17, rv u, rv b30, iv 1, .unset, .unset]) rfl k) ?_
              refine Go.st (f' := (mkF m 302 #[iv p1, iv p2, iv p3, iv p4, iv p5, iv yy1, iv yy2, iv yy3, iv yy4, iv z9, iv z10, iv z11, iv z12, iv z13, iv z14, iv z15, iv z16, iv z17, rv u, rv b30, iv 1, .unset, .unset] [(.int z17)])) (fun _ k => XS.iload X35.here hx rfl (hb hby at_300) rfl k) ?_
              refine Go.st (f' := (mkF m 303 #[iv p1, iv p2, iv p3, iv p4, iv p5, iv yy1, iv yy2, iv yy3, iv yy4, iv z9, iv z10, iv z11, iv z12, iv z13, iv z14, iv z15, iv z16, iv z17, rv u, rv b30, iv 1, .unset, .unset] [(.int 1), (.int z17)])) (fun _ k => XS.iconst X35.here hx rfl (hb hby at_302) k) ?_
              refine Go.st (f' := (mkF m 306 #[iv p1, iv p2, iv p3, iv p4, iv p5, iv yy1, iv yy2, iv yy3, iv yy4, iv z9, iv z10, iv z11, iv z12, iv z13, iv z14, iv z15, iv z16, iv z17, rv u, rv b30, iv 1, .unset, .unset] [])) (fun _ k => XS.icmpNo X35.here hx rfl (hb hby at_303) rfl (flt cd6).2.2.1 k) ?_
              refine Go.st (f' := (mkF m 308 #[iv p1, iv p2, iv p3, iv p4, iv p5, iv yy1, iv yy2, iv yy3, iv yy4, iv z9, iv z10, iv z11, iv z12, iv z13, iv z14, iv z15, iv z16, iv z17, rv u, rv b30, iv 1, .unset, .unset] [(.int z11)])) (fun _ k => XS.iload X35.here hx rfl (hb hby at_306) rfl k) ?_
              refine Go.st (f' := (mkF m 310 #[iv p1, iv p2, iv p3, iv p4, iv p5, iv yy1, iv yy2, iv yy3, iv yy4, iv z9, iv z10, iv z11, iv z12, iv z13, iv z14, iv z15, iv z16, iv z17, rv u, rv b30, iv 1, .unset, .unset] [(.int z12), (.int z11)])) (fun _ k => XS.iload X35.here hx rfl (hb hby at_308) rfl k) ?_
              by_cases cd51 : z11 = z12
              · refine Go.st (f' := (mkF m 313 #[iv p1, iv p2, iv p3, iv p4, iv p5, iv yy1, iv yy2, iv yy3, iv yy4, iv z9, iv z10, iv z11, iv z12, iv z13, iv z14, iv z15, iv z16, iv z17, rv u, rv b30, iv 1, .unset, .unset] [])) (fun _ k => XS.icmpNo X35.here hx rfl (hb hby at_310) rfl (teq cd51).2 k) ?_
                refine Go.st (f' := (mkF m 315 #[iv p1, iv p2, iv p3, iv p4, iv p5, iv yy1, iv yy2, iv yy3, iv yy4, iv z9, iv z10, iv z11, iv z12, iv z13, iv z14, iv z15, iv z16, iv z17, rv u, rv b30, iv 1, .unset, .unset] [(.int 1)])) (fun _ k => XS.iload X35.here hx rfl (hb hby at_313) rfl k) ?_
                refine Go.st (f' := (mkF m 318 #[iv p1, iv p2, iv p3, iv p4, iv p5, iv yy1, iv yy2, iv yy3, iv yy4, iv z9, iv z10, iv z11, iv z12, iv z13, iv z14, iv z15, iv z16, iv z17, rv u, rv b30, iv 1, .unset, .unset] [])) (fun _ k => XS.ifNo X35.here hx rfl (hb hby at_315) rfl (by decide) k) ?_
                refine Go.st (f' := (mkF m 319 #[iv p1, iv p2, iv p3, iv p4, iv p5, iv yy1, iv yy2, iv yy3, iv yy4, iv z9, iv z10, iv z11, iv z12, iv z13, iv z14, iv z15, iv z16, iv z17, rv u, rv b30, iv 1, .unset, .unset] [(.int 1)])) (fun _ k => XS.iconst X35.here hx rfl (hb hby at_318) k) ?_
                refine Go.st (f' := (mkF m 323 #[iv p1, iv p2, iv p3, iv p4, iv p5, iv yy1, iv yy2, iv yy3, iv yy4, iv z9, iv z10, iv z11, iv z12, iv z13, iv z14, iv z15, iv z16, iv z17, rv u, rv b30, iv 1, .unset, .unset] [(.int 1)])) (fun _ k => XS.goto X35.here hx rfl (pc0 := 319) (pc' := 323) rfl (hb hby at_319) (by decide) (by decide) k) ?_
                refine Go.st (f' := (mkF m 325 #[iv p1, iv p2, iv p3, iv p4, iv p5, iv yy1, iv yy2, iv yy3, iv yy4, iv z9, iv z10, iv z11, iv z12, iv z13, iv z14, iv z15, iv z16, iv z17, rv u, rv b30, iv 1, iv 1, .unset] [])) (fun _ k => XS.istore X35.here hx rfl (hb hby at_323) rfl (l' := #[iv p1, iv p2, iv p3, iv p4, iv p5, iv yy1, iv yy2, iv yy3, iv yy4, iv z9, iv z10, iv z11, iv z12, iv z13, iv z14, iv z15, iv z16, iv z17, rv u, rv b30, iv 1, iv 1, .unset]) rfl k) ?_
                exact J2 (1 : Int32) (1 : Int32) (by simp only [ueI, eq_true cd48, eq_true cd49, eq_true cd50, eq_true cd51, true_and, and_true, false_and, and_false, true_or, or_true, or_false, false_or, or_self, and_self, if_true, if_false, reduceIte])
              · refine Go.st (f' := (mkF m 322 #[iv p1, iv p2, iv p3, iv p4, iv p5, iv yy1, iv yy2, iv yy3, iv yy4, iv z9, iv z10, iv z11, iv z12, iv z13, iv z14, iv z15, iv z16, iv z17, rv u, rv b30, iv 1, .unset, .unset] [])) (fun _ k => XS.icmpYes X35.here hx rfl (pc0 := 310) (pc' := 322) rfl (hb hby at_310) rfl (feq cd51).2 (by decide) (by decide) k) ?_
                refine Go.st (f' := (mkF m 323 #[iv p1, iv p2, iv p3, iv p4, iv p5, iv yy1, iv yy2, iv yy3, iv yy4, iv z9, iv z10, iv z11, iv z12, iv z13, iv z14, iv z15, iv z16, iv z17, rv u, rv b30, iv 1, .unset, .unset] [(.int 0)])) (fun _ k => XS.iconst X35.here hx rfl (hb hby at_322) k) ?_
                refine Go.st (f' := (mkF m 325 #[iv p1, iv p2, iv p3, iv p4, iv p5, iv yy1, iv yy2, iv yy3, iv yy4, iv z9, iv z10, iv z11, iv z12, iv z13, iv z14, iv z15, iv z16, iv z17, rv u, rv b30, iv 1, iv 0, .unset] [])) (fun _ k => XS.istore X35.here hx rfl (hb hby at_323) rfl (l' := #[iv p1, iv p2, iv p3, iv p4, iv p5, iv yy1, iv yy2, iv yy3, iv yy4, iv z9, iv z10, iv z11, iv z12, iv z13, iv z14, iv z15, iv z16, iv z17, rv u, rv b30, iv 1, iv 0, .unset]) rfl k) ?_
                exact J2 (1 : Int32) (0 : Int32) (by simp only [ueI, eq_true cd48, eq_true cd49, eq_true cd50, eq_false cd51, true_and, and_true, false_and, and_false, true_or, or_true, or_false, false_or, or_self, and_self, if_true, if_false, reduceIte])
            · refine Go.st (f' := (mkF m 286 #[iv p1, iv p2, iv p3, iv p4, iv p5, iv yy1, iv yy2, iv yy3, iv yy4, iv z9, iv z10, iv z11, iv z12, iv z13, iv z14, iv z15, iv z16, iv z17, rv u, rv b30, .unset, .unset, .unset] [])) (fun _ k => XS.icmpNo X35.here hx rfl (hb hby at_283) rfl (flt cd50).1 k) ?_
              refine Go.st (f' := (mkF m 288 #[iv p1, iv p2, iv p3, iv p4, iv p5, iv yy1, iv yy2, iv yy3, iv yy4, iv z9, iv z10, iv z11, iv z12, iv z13, iv z14, iv z15, iv z16, iv z17, rv u, rv b30, .unset, .unset, .unset] [(.int yy2)])) (fun _ k => XS.iload X35.here hx rfl (hb hby at_286) rfl k) ?_
              refine Go.st (f' := (mkF m 290 #[iv p1, iv p2, iv p3, iv p4, iv p5, iv yy1, iv yy2, iv yy3, iv yy4, iv z9, iv z10, iv z11, iv z12, iv z13, iv z14, iv z15, iv z16, iv z17, rv u, rv b30, .unset, .unset, .unset] [(.int z16), (.int yy2)])) (fun _ k => XS.iload X35.here hx rfl (hb hby at_288) rfl k) ?_
              by_cases cd52 : yy2 = z16
              · refine Go.st (f' := (mkF m 293 #[iv p1, iv p2, iv p3, iv p4, iv p5, iv yy1, iv yy2, iv yy3, iv yy4, iv z9, iv z10, iv z11, iv z12, iv z13, iv z14, iv z15, iv z16, iv z17, rv u, rv b30, .unset, .unset, .unset] [])) (fun _ k => XS.icmpNo X35.here hx rfl (hb hby at_290) rfl (teq cd52).2 k) ?_
                refine Go.st (f' := (mkF m 294 #[iv p1, iv p2, iv p3, iv p4, iv p5, iv yy1, iv yy2, iv yy3, iv yy4, iv z9, iv z10, iv z11, iv z12, iv z13, iv z14, iv z15, iv z16, iv z17, rv u, rv b30, .unset, .unset, .unset] [(.int 1)])) (fun _ k => XS.iconst X35.here hx rfl (hb hby at_293) k) ?_
                refine Go.st (f' := (mkF m 298 #[iv p1, iv p2, iv p3, iv p4, iv p5, iv yy1, iv yy2, iv yy3, iv yy4, iv z9, iv z10, iv z11, iv z12, iv z13, iv z14, iv z15, iv z16, iv z17, rv u, rv b30, .unset, .unset, .unset] [(.int 1)])) (fun _ k => XS.goto X35.here hx rfl (pc0 := 294) (pc' := 298) rfl (hb hby at_294) (by decide) (by decide) k) ?_
                refine Go.st (f' := (mkF m 300 #[iv p1, iv p2, iv p3, iv p4, iv p5, iv yy1, iv yy2, iv yy3, iv yy4, iv z9, iv z10, iv z11, iv z12, iv z13, iv z14, iv z15, iv z16, iv z17, rv u, rv b30, iv 1, .unset, .unset] [])) (fun _ k => XS.istore X35.here hx rfl (hb hby at_298) rfl (l' := #[iv p1, iv p2, iv p3, iv p4, iv p5, iv yy1, iv yy2, iv yy3, iv yy4, iv z9, iv z10, iv z11, iv z12, iv z13, iv z14, iv z15, iv z16, iv z17, rv u, rv b30, iv 1, .unset, .unset]) rfl k) ?_
                refine Go.st (f' := (mkF m 302 #[iv p1, iv p2, iv p3, iv p4, iv p5, iv yy1, iv yy2, iv yy3, iv yy4, iv z9, iv z10, iv z11, iv z12, iv z13, iv z14, iv z15, iv z16, iv z17, rv u, rv b30, iv 1, .unset, .unset] [(.int z17)])) (fun _ k => XS.iload X35.here hx rfl (hb hby at_300) rfl k) ?_
                refine Go.st (f' := (mkF m 303 #[iv p1, iv p2, iv p3, iv p4, iv p5, iv yy1, iv yy2, iv yy3, iv yy4, iv z9, iv z10, iv z11, iv z12, iv z13, iv z14, iv z15, iv z16, iv z17, rv u, rv b30, iv 1, .unset, .unset] [(.int 1), (.int z17)])) (fun _ k => XS.iconst X35.here hx rfl (hb hby at_302) k) ?_
                refine Go.st (f' := (mkF m 306 #[iv p1, iv p2, iv p3, iv p4, iv p5, iv yy1, iv yy2, iv yy3, iv yy4, iv z9, iv z10, iv z11, iv z12, iv z13, iv z14, iv z15, iv z16, iv z17, rv u, rv b30, iv 1, .unset, .unset] [])) (fun _ k => XS.icmpNo X35.here hx rfl (hb hby at_303) rfl (flt cd6).2.2.1 k) ?_
                refine Go.st (f' := (mkF m 308 #[iv p1, iv p2, iv p3, iv p4, iv p5, iv yy1, iv yy2, iv yy3, iv yy4, iv z9, iv z10, iv z11, iv z12, iv z13, iv z14, iv z15, iv z16, iv z17, rv u, rv b30, iv 1, .unset, .unset] [(.int z11)])) (fun _ k => XS.iload X35.here hx rfl (hb hby at_306) rfl k) ?_
                refine Go.st (f' := (mkF m 310 #[iv p1, iv p2, iv p3, iv p4, iv p5, iv yy1, iv yy2, iv yy3, iv yy4, iv z9, iv z10, iv z11, iv z12, iv z13, iv z14, iv z15, iv z16, iv z17, rv u, rv b30, iv 1, .unset, .unset] [(.int z12), (.int z11)])) (fun _ k => XS.iload X35.here hx rfl (hb hby at_308) rfl k) ?_
                by_cases cd53 : z11 = z12
                · refine Go.st (f' := (mkF m 313 #[iv p1, iv p2, iv p3, iv p4, iv p5, iv yy1, iv yy2, iv yy3, iv yy4, iv z9, iv z10, iv z11, iv z12, iv z13, iv z14, iv z15, iv z16, iv z17, rv u, rv b30, iv 1, .unset, .unset] [])) (fun _ k => XS.icmpNo X35.here hx rfl (hb hby at_310) rfl (teq cd53).2 k) ?_
                  refine Go.st (f' := (mkF m 315 #[iv p1, iv p2, iv p3, iv p4, iv p5, iv yy1, iv yy2, iv yy3, iv yy4, iv z9, iv z10, iv z11, iv z12, iv z13, iv z14, iv z15, iv z16, iv z17, rv u, rv b30, iv 1, .unset, .unset] [(.int 1)])) (fun _ k => XS.iload X35.here hx rfl (hb hby at_313) rfl k) ?_
                  refine Go.st (f' := (mkF m 318 #[iv p1, iv p2, iv p3, iv p4, iv p5, iv yy1, iv yy2, iv yy3, iv yy4, iv z9, iv z10, iv z11, iv z12, iv z13, iv z14, iv z15, iv z16, iv z17, rv u, rv b30, iv 1, .unset, .unset] [])) (fun _ k => XS.ifNo X35.here hx rfl (hb hby at_315) rfl (by decide) k) ?_
                  refine Go.st (f' := (mkF m 319 #[iv p1, iv p2, iv p3, iv p4, iv p5, iv yy1, iv yy2, iv yy3, iv yy4, iv z9, iv z10, iv z11, iv z12, iv z13, iv z14, iv z15, iv z16, iv z17, rv u, rv b30, iv 1, .unset, .unset] [(.int 1)])) (fun _ k => XS.iconst X35.here hx rfl (hb hby at_318) k) ?_
                  refine Go.st (f' := (mkF m 323 #[iv p1, iv p2, iv p3, iv p4, iv p5, iv yy1, iv yy2, iv yy3, iv yy4, iv z9, iv z10, iv z11, iv z12, iv z13, iv z14, iv z15, iv z16, iv z17, rv u, rv b30, iv 1, .unset, .unset] [(.int 1)])) (fun _ k => XS.goto X35.here hx rfl (pc0 := 319) (pc' := 323) rfl (hb hby at_319) (by decide) (by decide) k) ?_
                  refine Go.st (f' := (mkF m 325 #[iv p1, iv p2, iv p3, iv p4, iv p5, iv yy1, iv yy2, iv yy3, iv yy4, iv z9, iv z10, iv z11, iv z12, iv z13, iv z14, iv z15, iv z16, iv z17, rv u, rv b30, iv 1, iv 1, .unset] [])) (fun _ k => XS.istore X35.here hx rfl (hb hby at_323) rfl (l' := #[iv p1, iv p2, iv p3, iv p4, iv p5, iv yy1, iv yy2, iv yy3, iv yy4, iv z9, iv z10, iv z11, iv z12, iv z13, iv z14, iv z15, iv z16, iv z17, rv u, rv b30, iv 1, iv 1, .unset]) rfl k) ?_
                  exact J2 (1 : Int32) (1 : Int32) (by simp only [ueI, eq_true cd48, eq_true cd49, eq_false cd50, eq_true cd52, eq_true cd53, true_and, and_true, false_and, and_false, true_or, or_true, or_false, false_or, or_self, and_self, if_true, if_false, reduceIte])
                · refine Go.st (f' := (mkF m 322 #[iv p1, iv p2, iv p3, iv p4, iv p5, iv yy1, iv yy2, iv yy3, iv yy4, iv z9, iv z10, iv z11, iv z12, iv z13, iv z14, iv z15, iv z16, iv z17, rv u, rv b30, iv 1, .unset, .unset] [])) (fun _ k => XS.icmpYes X35.here hx rfl (pc0 := 310) (pc' := 322) rfl (hb hby at_310) rfl (feq cd53).2 (by decide) (by decide) k) ?_
                  refine Go.st (f' := (mkF m 323 #[iv p1, iv p2, iv p3, iv p4, iv p5, iv yy1, iv yy2, iv yy3, iv yy4, iv z9, iv z10, iv z11, iv z12, iv z13, iv z14, iv z15, iv z16, iv z17, rv u, rv b30, iv 1, .unset, .unset] [(.int 0)])) (fun _ k => XS.iconst X35.here hx rfl (hb hby at_322) k) ?_
                  refine Go.st (f' := (mkF m 325 #[iv p1, iv p2, iv p3, iv p4, iv p5, iv yy1, iv yy2, iv yy3, iv yy4, iv z9, iv z10, iv z11, iv z12, iv z13, iv z14, iv z15, iv z16, iv z17, rv u, rv b30, iv 1, iv 0, .unset] [])) (fun _ k => XS.istore X35.here hx rfl (hb hby at_323) rfl (l' := #[iv p1, iv p2, iv p3, iv p4, iv p5, iv yy1, iv yy2, iv yy3, iv yy4, iv z9, iv z10, iv z11, iv z12, iv z13, iv z14, iv z15, iv z16, iv z17, rv u, rv b30, iv 1, iv 0, .unset]) rfl k) ?_
                  exact J2 (1 : Int32) (0 : Int32) (by simp only [ueI, eq_true cd48, eq_true cd49, eq_false cd50, eq_true cd52, eq_false cd53, true_and, and_true, false_and, and_false, true_or, or_true, or_false, false_or, or_self, and_self, if_true, if_false, reduceIte])
              · refine Go.st (f' := (mkF m 297 #[iv p1, iv p2, iv p3, iv p4, iv p5, iv yy1, iv yy2, iv yy3, iv yy4, iv z9, iv z10, iv z11, iv z12, iv z13, iv z14, iv z15, iv z16, iv z17, rv u, rv b30, .unset, .unset, .unset] [])) (fun _ k => XS.icmpYes X35.here hx rfl (pc0 := 290) (pc' := 297) rfl (hb hby at_290) rfl (feq cd52).2 (by decide) (by decide) k) ?_
                refine Go.st (f' := (mkF m 298 #[iv p1, iv p2, iv p3, iv p4, iv p5, iv yy1, iv yy2, iv yy3, iv yy4, iv z9, iv z10, iv z11, iv z12, iv z13, iv z14, iv z15, iv z16, iv z17, rv u, rv b30, .unset, .unset, .unset] [(.int 0)])) (fun _ k => XS.iconst X35.here hx rfl (hb hby at_297) k) ?_
                refine Go.st (f' := (mkF m 300 #[iv p1, iv p2, iv p3, iv p4, iv p5, iv yy1, iv yy2, iv yy3, iv yy4, iv z9, iv z10, iv z11, iv z12, iv z13, iv z14, iv z15, iv z16, iv z17, rv u, rv b30, iv 0, .unset, .unset] [])) (fun _ k => XS.istore X35.here hx rfl (hb hby at_298) rfl (l' := #[iv p1, iv p2, iv p3, iv p4, iv p5, iv yy1, iv yy2, iv yy3, iv yy4, iv z9, iv z10, iv z11, iv z12, iv z13, iv z14, iv z15, iv z16, iv z17, rv u, rv b30, iv 0, .unset, .unset]) rfl k) ?_
                refine Go.st (f' := (mkF m 302 #[iv p1, iv p2, iv p3, iv p4, iv p5, iv yy1, iv yy2, iv yy3, iv yy4, iv z9, iv z10, iv z11, iv z12, iv z13, iv z14, iv z15, iv z16, iv z17, rv u, rv b30, iv 0, .unset, .unset] [(.int z17)])) (fun _ k => XS.iload X35.here hx rfl (hb hby at_300) rfl k) ?_
                refine Go.st (f' := (mkF m 303 #[iv p1, iv p2, iv p3, iv p4, iv p5, iv yy1, iv yy2, iv yy3, iv yy4, iv z9, iv z10, iv z11, iv z12, iv z13, iv z14, iv z15, iv z16, iv z17, rv u, rv b30, iv 0, .unset, .unset] [(.int 1), (.int z17)])) (fun _ k => XS.iconst X35.here hx rfl (hb hby at_302) k) ?_
                refine Go.st (f' := (mkF m 306 #[iv p1, iv p2, iv p3, iv p4, iv p5, iv yy1, iv yy2, iv yy3, iv yy4, iv z9, iv z10, iv z11, iv z12, iv z13, iv z14, iv z15, iv z16, iv z17, rv u, rv b30, iv 0, .unset, .unset] [])) (fun _ k => XS.icmpNo X35.here hx rfl (hb hby at_303) rfl (flt cd6).2.2.1 k) ?_
                refine Go.st (f' := (mkF m 308 #[iv p1, iv p2, iv p3, iv p4, iv p5, iv yy1, iv yy2, iv yy3, iv yy4, iv z9, iv z10, iv z11, iv z12, iv z13, iv z14, iv z15, iv z16, iv z17, rv u, rv b30, iv 0, .unset, .unset] [(.int z11)])) (fun _ k => XS.iload X35.here hx rfl (hb hby at_306) rfl k) ?_
                refine Go.st (f' := (mkF m 310 #[iv p1, iv p2, iv p3, iv p4, iv p5, iv yy1, iv yy2, iv yy3, iv yy4, iv z9, iv z10, iv z11, iv z12, iv z13, iv z14, iv z15, iv z16, iv z17, rv u, rv b30, iv 0, .unset, .unset] [(.int z12), (.int z11)])) (fun _ k => XS.iload X35.here hx rfl (hb hby at_308) rfl k) ?_
                by_cases cd54 : z11 = z12
                · refine Go.st (f' := (mkF m 313 #[iv p1, iv p2, iv p3, iv p4, iv p5, iv yy1, iv yy2, iv yy3, iv yy4, iv z9, iv z10, iv z11, iv z12, iv z13, iv z14, iv z15, iv z16, iv z17, rv u, rv b30, iv 0, .unset, .unset] [])) (fun _ k => XS.icmpNo X35.here hx rfl (hb hby at_310) rfl (teq cd54).2 k) ?_
                  refine Go.st (f' := (mkF m 315 #[iv p1, iv p2, iv p3, iv p4, iv p5, iv yy1, iv yy2, iv yy3, iv yy4, iv z9, iv z10, iv z11, iv z12, iv z13, iv z14, iv z15, iv z16, iv z17, rv u, rv b30, iv 0, .unset, .unset] [(.int 0)])) (fun _ k => XS.iload X35.here hx rfl (hb hby at_313) rfl k) ?_
                  refine Go.st (f' := (mkF m 322 #[iv p1, iv p2, iv p3, iv p4, iv p5, iv yy1, iv yy2, iv yy3, iv yy4, iv z9, iv z10, iv z11, iv z12, iv z13, iv z14, iv z15, iv z16, iv z17, rv u, rv b30, iv 0, .unset, .unset] [])) (fun _ k => XS.ifYes X35.here hx rfl (pc0 := 315) (pc' := 322) rfl (hb hby at_315) rfl (by decide) (by decide) (by decide) k) ?_
                  refine Go.st (f' := (mkF m 323 #[iv p1, iv p2, iv p3, iv p4, iv p5, iv yy1, iv yy2, iv yy3, iv yy4, iv z9, iv z10, iv z11, iv z12, iv z13, iv z14, iv z15, iv z16, iv z17, rv u, rv b30, iv 0, .unset, .unset] [(.int 0)])) (fun _ k => XS.iconst X35.here hx rfl (hb hby at_322) k) ?_
                  refine Go.st (f' := (mkF m 325 #[iv p1, iv p2, iv p3, iv p4, iv p5, iv yy1, iv yy2, iv yy3, iv yy4, iv z9, iv z10, iv z11, iv z12, iv z13, iv z14, iv z15, iv z16, iv z17, rv u, rv b30, iv 0, iv 0, .unset] [])) (fun _ k => XS.istore X35.here hx rfl (hb hby at_323) rfl (l' := #[iv p1, iv p2, iv p3, iv p4, iv p5, iv yy1, iv yy2, iv yy3, iv yy4, iv z9, iv z10, iv z11, iv z12, iv z13, iv z14, iv z15, iv z16, iv z17, rv u, rv b30, iv 0, iv 0, .unset]) rfl k) ?_
                  exact J2 (0 : Int32) (0 : Int32) (by simp only [ueI, eq_true cd48, eq_true cd49, eq_false cd50, eq_false cd52, eq_true cd54, true_and, and_true, false_and, and_false, true_or, or_true, or_false, false_or, or_self, and_self, if_true, if_false, reduceIte])
                · refine Go.st (f' := (mkF m 322 #[iv p1, iv p2, iv p3, iv p4, iv p5, iv yy1, iv yy2, iv yy3, iv yy4, iv z9, iv z10, iv z11, iv z12, iv z13, iv z14, iv z15, iv z16, iv z17, rv u, rv b30, iv 0, .unset, .unset] [])) (fun _ k => XS.icmpYes X35.here hx rfl (pc0 := 310) (pc' := 322) rfl (hb hby at_310) rfl (feq cd54).2 (by decide) (by decide) k) ?_
                  refine Go.st (f' := (mkF m 323 #[iv p1, iv p2, iv p3, iv p4, iv p5, iv yy1, iv yy2, iv yy3, iv yy4, iv z9, iv z10, iv z11, iv z12, iv z13, iv z14, iv z15, iv z16, iv z17, rv u, rv b30, iv 0, .unset, .unset] [(.int 0)])) (fun _ k => XS.iconst X35.here hx rfl (hb hby at_322) k) ?_
                  refine Go.st (f' := (mkF m 325 #[iv p1, iv p2, iv p3, iv p4, iv p5, iv yy1, iv yy2, iv yy3, iv yy4, iv z9, iv z10, iv z11, iv z12, iv z13, iv z14, iv z15, iv z16, iv z17, rv u, rv b30, iv 0, iv 0, .unset] [])) (fun _ k => XS.istore X35.here hx rfl (hb hby at_323) rfl (l' := #[iv p1, iv p2, iv p3, iv p4, iv p5, iv yy1, iv yy2, iv yy3, iv yy4, iv z9, iv z10, iv z11, iv z12, iv z13, iv z14, iv z15, iv z16, iv z17, rv u, rv b30, iv 0, iv 0, .unset]) rfl k) ?_
                  exact J2 (0 : Int32) (0 : Int32) (by simp only [ueI, eq_true cd48, eq_true cd49, eq_false cd50, eq_false cd52, eq_false cd54, true_and, and_true, false_and, and_false, true_or, or_true, or_false, false_or, or_self, and_self, if_true, if_false, reduceIte])
          · refine Go.st (f' := (mkF m 273 #[iv p1, iv p2, iv p3, iv p4, iv p5, iv yy1, iv yy2, iv yy3, iv yy4, iv z9, iv z10, iv z11, iv z12, iv z13, iv z14, iv z15, iv z16, iv z17, rv u, rv b30, .unset, .unset, .unset] [])) (fun _ k => XS.icmpNo X35.here hx rfl (hb hby at_270) rfl (flt cd49).1 k) ?_
            refine Go.st (f' := (mkF m 275 #[iv p1, iv p2, iv p3, iv p4, iv p5, iv yy1, iv yy2, iv yy3, iv yy4, iv z9, iv z10, iv z11, iv z12, iv z13, iv z14, iv z15, iv z16, iv z17, rv u, rv b30, .unset, .unset, .unset] [(.int yy1)])) (fun _ k => XS.iload X35.here hx rfl (hb hby at_273) rfl k) ?_
            refine Go.st (f' := (mkF m 277 #[iv p1, iv p2, iv p3, iv p4, iv p5, iv yy1, iv yy2, iv yy3, iv yy4, iv z9, iv z10, iv z11, iv z12, iv z13, iv z14, iv z15, iv z16, iv z17, rv u, rv b30, .unset, .unset, .unset] [(.int z15), (.int yy1)])) (fun _ k => XS.iload X35.here hx rfl (hb hby at_275) rfl k) ?_
            by_cases cd55 : yy1 = z15
            · refine Go.st (f' := (mkF m 280 #[iv p1, iv p2, iv p3, iv p4, iv p5, iv yy1, iv yy2, iv yy3, iv yy4, iv z9, iv z10, iv z11, iv z12, iv z13, iv z14, iv z15, iv z16, iv z17, rv u, rv b30, .unset, .unset, .unset] [])) (fun _ k => XS.icmpNo X35.here hx rfl (hb hby at_277) rfl (teq cd55).2 k) ?_
              refine Go.st (f' := (mkF m 282 #[iv p1, iv p2, iv p3, iv p4, iv p5, iv yy1, iv yy2, iv yy3, iv yy4, iv z9, iv z10, iv z11, iv z12, iv z13, iv z14, iv z15, iv z16, iv z17, rv u, rv b30, .unset, .unset, .unset] [(.int z10)])) (fun _ k => XS.iload X35.here hx rfl (hb hby at_280) rfl k) ?_
              refine Go.st (f' := (mkF m 283 #[iv p1, iv p2, iv p3, iv p4, iv p5, iv yy1, iv yy2, iv yy3, iv yy4, iv z9, iv z10, iv z11, iv z12, iv z13, iv z14, iv z15, iv z16, iv z17, rv u, rv b30, .unset, .unset, .unset] [(.int 3), (.int z10)])) (fun _ k => XS.iconst X35.here hx rfl (hb hby at_282) k) ?_
              by_cases cd56 : z10 < (3 : Int32)
              · refine Go.st (f' := (mkF m 293 #[iv p1, iv p2, iv p3, iv p4, iv p5, iv yy1, iv yy2, iv yy3, iv yy4, iv z9, iv z10, iv z11, iv z12, iv z13, iv z14, iv z15, iv z16, iv z17, rv u, rv b30, .unset, .unset, .unset] [])) (fun _ k => XS.icmpYes X35.here hx rfl (pc0 := 283) (pc' := 293) rfl (hb hby at_283) rfl (tlt cd56).1 (by decide) (by decide) k) ?_
                refine Go.st (f' := (mkF m 294 #[iv p1, iv p2, iv p3, iv p4, iv p5, iv yy1, iv yy2, iv yy3, iv yy4, iv z9, iv z10, iv z11, iv z12, iv z13, iv z14, iv z15, iv z16, iv z17, rv u, rv b30, .unset, .unset, .unset] [(.int 1)])) (fun _ k => XS.iconst X35.here hx rfl (hb hby at_293) k) ?_
                refine Go.st (f' := (mkF m 298 #[iv p1, iv p2, iv p3, iv p4, iv p5, iv yy1, iv yy2, iv yy3, iv yy4, iv z9, iv z10, iv z11, iv z12, iv z13, iv z14, iv z15, iv z16, iv z17, rv u, rv b30, .unset, .unset, .unset] [(.int 1)])) (fun _ k => XS.goto X35.here hx rfl (pc0 := 294) (pc' := 298) rfl (hb hby at_294) (by decide) (by decide) k) ?_
                refine Go.st (f' := (mkF m 300 #[iv p1, iv p2, iv p3, iv p4, iv p5, iv yy1, iv yy2, iv yy3, iv yy4, iv z9, iv z10, iv z11, iv z12, iv z13, iv z14, iv z15, iv z16, iv z17, rv u, rv b30, iv 1, .unset, .unset] [])) (fun _ k => XS.istore X35.here hx rfl (hb hby at_298) rfl (l' := #[iv p1, iv p2, iv p3, iv p4, iv p5, iv yy1, iv yy2, iv yy3, iv yy4, iv z9, iv z10, iv z11, iv z12, iv z13, iv z14, iv z15, iv z16, iv z17, rv u, rv b30, iv 1, .unset, .unset]) rfl k) ?_
                refine Go.st (f' := (mkF m 302 #[iv p1, iv p2, iv p3, iv p4, iv p5, iv yy1, iv yy2, iv yy3, iv yy4, iv z9, iv z10, iv z11, iv z12, iv z13, iv z14, iv z15, iv z16, iv z17, rv u, rv b30, iv 1, .unset, .unset] [(.int z17)])) (fun _ k => XS.iload X35.here hx rfl (hb hby at_300) rfl k) ?_
                refine Go.st (f' := (mkF m 303 #[iv p1, iv p2, iv p3, iv p4, iv p5, iv yy1, iv yy2, iv yy3, iv yy4, iv z9, iv z10, iv z11, iv z12, iv z13, iv z14, iv z15, iv z16, iv z17, rv u, rv b30, iv 1, .unset, .unset] [(.int 1), (.int z17)])) (fun _ k => XS.iconst X35.here hx rfl (hb hby at_302) k) ?_
                refine Go.st (f' := (mkF m 306 #[iv p1, iv p2, iv p3, iv p4, iv p5, iv yy1, iv yy2, iv yy3, iv yy4, iv z9, iv z10, iv z11, iv z12, iv z13, iv z14, iv z15, iv z16, iv z17, rv u, rv b30, iv 1, .unset, .unset] [])) (fun _ k => XS.icmpNo X35.here hx rfl (hb hby at_303) rfl (flt cd6).2.2.1 k) ?_
                refine Go.st (f' := (mkF m 308 #[iv p1, iv p2, iv p3, iv p4, iv p5, iv yy1, iv yy2, iv yy3, iv yy4, iv z9, iv z10, iv z11, iv z12, iv z13, iv z14, iv z15, iv z16, iv z17, rv u, rv b30, iv 1, .unset, .unset] [(.int z11)])) (fun _ k => XS.iload X35.here hx rfl (hb hby at_306) rfl k) ?_
                refine Go.st (f' := (mkF m 310 #[iv p1, iv p2, iv p3, iv p4, iv p5, iv yy1, iv yy2, iv yy3, iv yy4, iv z9, iv z10, iv z11, iv z12, iv z13, iv z14, iv z15, iv z16, iv z17, rv u, rv b30, iv 1, .unset, .unset] [(.int z12), (.int z11)])) (fun _ k => XS.iload X35.here hx rfl (hb hby at_308) rfl k) ?_
                by_cases cd57 : z11 = z12
                · refine Go.st (f' := (mkF m 313 #[iv p1, iv p2, iv p3, iv p4, iv p5, iv yy1, iv yy2, iv yy3, iv yy4, iv z9, iv z10, iv z11, iv z12, iv z13, iv z14, iv z15, iv z16, iv z17, rv u, rv b30, iv 1, .unset, .unset] [])) (fun _ k => XS.icmpNo X35.here hx rfl (hb hby at_310) rfl (teq cd57).2 k) ?_
                  refine Go.st (f' := (mkF m 315 #[iv p1, iv p2, iv p3, iv p4, iv p5, iv yy1, iv yy2, iv yy3, iv yy4, iv z9, iv z10, iv z11, iv z12, iv z13, iv z14, iv z15, iv z16, iv z17, rv u, rv b30, iv 1, .unset, .unset] [(.int 1)])) (fun _ k => XS.iload X35.here hx rfl (hb hby at_313) rfl k) ?_
                  refine Go.st (f' := (mkF m 318 #[iv p1, iv p2, iv p3, iv p4, iv p5, iv yy1, iv yy2, iv yy3, iv yy4, iv z9, iv z10, iv z11, iv z12, iv z13, iv z14, iv z15, iv z16, iv z17, rv u, rv b30, iv 1, .unset, .unset] [])) (fun _ k => XS.ifNo X35.here hx rfl (hb hby at_315) rfl (by decide) k) ?_
                  refine Go.st (f' := (mkF m 319 #[iv p1, iv p2, iv p3, iv p4, iv p5, iv yy1, iv yy2, iv yy3, iv yy4, iv z9, iv z10, iv z11, iv z12, iv z13, iv z14, iv z15, iv z16, iv z17, rv u, rv b30, iv 1, .unset, .unset] [(.int 1)])) (fun _ k => XS.iconst X35.here hx rfl (hb hby at_318) k) ?_
                  refine Go.st (f' := (mkF m 323 #[iv p1, iv p2, iv p3, iv p4, iv p5, iv yy1, iv yy2, iv yy3, iv yy4, iv z9, iv z10, iv z11, iv z12, iv z13, iv z14, iv z15, iv z16, iv z17, rv u, rv b30, iv 1, .unset, .unset] [(.int 1)])) (fun _ k => XS.goto X35.here hx rfl (pc0 := 319) (pc' := 323) rfl (hb hby at_319) (by decide) (by decide) k) ?_
                  refine Go.st (f' := (mkF m 325 #[iv p1, iv p2, iv p3, iv p4, iv p5, iv yy1, iv yy2, iv yy3, iv yy4, iv z9, iv z10, iv z11, iv z12, iv z13, iv z14, iv z15, iv z16, iv z17, rv u, rv b30, iv 1, iv 1, .unset] [])) (fun _ k => XS.istore X35.here hx rfl (hb hby at_323) rfl (l' := #[iv p1, iv p2, iv p3, iv p4, iv p5, iv yy1, iv yy2, iv yy3, iv yy4, iv z9, iv z10, iv z11, iv z12, iv z13, iv z14, iv z15, iv z16, iv z17, rv u, rv b30, iv 1, iv 1, .unset]) rfl k) ?_
                  exact J2 (1 : Int32) (1 : Int32) (by simp only [ueI, eq_true cd48, eq_false cd49, eq_true cd55, eq_true cd56, eq_true cd57, true_and, and_true, false_and, and_false, true_or, or_true, or_false, false_or, or_self, and_self, if_true, if_false, reduceIte])
                · refine Go.st (f' := (mkF m 322 #[iv p1, iv p2, iv p3, iv p4, iv p5, iv yy1, iv yy2, iv yy3, iv yy4, iv z9, iv z10, iv z11, iv z12, iv z13, iv z14, iv z15, iv z16, iv z17, rv u, rv b30, iv 1, .unset, .unset] [])) (fun _ k => XS.icmpYes X35.here hx rfl (pc0 := 310) (pc' := 322) rfl (hb hby at_310) rfl (feq cd57).2 (by decide) (by decide) k) ?_
                  refine Go.st (f' := (mkF m 323 #[iv p1, iv p2, iv p3, iv p4, iv p5, iv yy1, iv yy2, iv yy3, iv yy4, iv z9, iv z10, iv z11, iv z12, iv z13, iv z14, iv z15, iv z16, iv z17, rv u, rv b30, iv 1, .unset, .unset] [(.int 0)])) (fun _ k => XS.iconst X35.here hx rfl (hb hby at_322) k) ?_
                  refine Go.st (f' := (mkF m 325 #[iv p1, iv p2, iv p3, iv p4, iv p5, iv yy1, iv yy2, iv yy3, iv yy4, iv z9, iv z10, iv z11, iv z12, iv z13, iv z14, iv z15, iv z16, iv z17, rv u, rv b30, iv 1, iv 0, .unset] [])) (fun _ k => XS.istore X35.here hx rfl (hb hby at_323) rfl (l' := #[iv p1, iv p2, iv p3, iv p4, iv p5, iv yy1, iv yy2, iv yy3, iv yy4, iv z9, iv z10, iv z11, iv z12, iv z13, iv z14, iv z15, iv z16, iv z17, rv u, rv b30, iv 1, iv 0, .unset]) rfl k) ?_
                  exact J2 (1 : Int32) (0 : Int32) (by simp only [ueI, eq_true cd48, eq_false cd49, eq_true cd55, eq_true cd56, eq_false cd57, true_and, and_true, false_and, and_false, true_or, or_true, or_false, false_or, or_self, and_self, if_true, if_false, reduceIte])
              · refine Go.st (f' := (mkF m 286 #[iv p1, iv p2, iv p3, iv p4, iv p5, iv yy1, iv yy2, iv yy3, iv yy4, iv z9, iv z10, iv z11, iv z12, iv z13, iv z14, iv z15, iv z16, iv z17, rv u, rv b30, .unset, .unset, .unset] [])) (fun _ k => XS.icmpNo X35.here hx rfl (hb hby at_283) rfl (flt cd56).1 k) ?_
                refine Go.st (f' := (mkF m 288 #[iv p1, iv p2, iv p3, iv p4, iv p5, iv yy1, iv yy2, iv yy3, iv yy4, iv z9, iv z10, iv z11, iv z12, iv z13, iv z14, iv z15, iv z16, iv z17, rv u, rv b30, .unset, .unset, .unset] [(.int yy2)])) (fun _ k => XS.iload X35.here hx rfl (hb hby at_286) rfl k) ?_
                refine Go.st (f' := (mkF m 290 #[iv p1, iv p2, iv p3, iv p4, iv p5, iv yy1, iv yy2, iv yy3, iv yy4, iv z9, iv z10, iv z11, iv z12, iv z13, iv z14, iv z15, iv z16, iv z17, rv u, rv b30, .unset, .unset, .unset] [(.int z16), (.int yy2)])) (fun _ k => XS.iload X35.here hx rfl (hb hby at_288) rfl k) ?_
                by_cases cd58 : yy2 = z16
                · refine Go.st (f' := (mkF m 293 #[iv p1, iv p2, iv p3, iv p4, iv p5, iv yy1, iv yy2, iv yy3, iv yy4, iv z9, iv z10, iv z11, iv z12, iv z13, iv z14, iv z15, iv z16, iv z17, rv u, rv b30, .unset, .unset, .unset] [])) (fun _ k => XS.icmpNo X35.here hx rfl (hb hby at_290) rfl (teq cd58).2 k) ?_
                  refine Go.st (f' := (mkF m 294 #[iv p1, iv p2, iv p3, iv p4, iv p5, iv yy1, iv yy2, iv yy3, iv yy4, iv z9, iv z10, iv z11, iv z12, iv z13, iv z14, iv z15, iv z16, iv z17, rv u, rv b30, .unset, .unset, .unset] [(.int 1)])) (fun _ k => XS.iconst X35.here hx rfl (hb hby at_293) k) ?_
                  refine Go.st (f' := (mkF m 298 #[iv p1, iv p2, iv p3, iv p4, iv p5, iv yy1, iv yy2, iv yy3, iv yy4, iv z9, iv z10, iv z11, iv z12, iv z13, iv z14, iv z15, iv z16, iv z17, rv u, rv b30, .unset, .unset, .unset] [(.int 1)])) (fun _ k => XS.goto X35.here hx rfl (pc0 := 294) (pc' := 298) rfl (hb hby at_294) (by decide) (by decide) k) ?_
                  refine Go.st (f' := (mkF m 300 #[iv p1, iv p2, iv p3, iv p4, iv p5, iv yy1, iv yy2, iv yy3, iv yy4, iv z9, iv z10, iv z11, iv z12, iv z13, iv z14, iv z15, iv z16, iv z17, rv u, rv b30, iv 1, .unset, .unset] [])) (fun _ k => XS.istore X35.here hx rfl (hb hby at_298) rfl (l' := #[iv p1, iv p2, iv p3, iv p4, iv p5, iv yy1, iv yy2, iv yy3, iv yy4, iv z9, iv z10, iv z11, iv z12, iv z13, iv z14, iv z15, iv z16, iv z17, rv u, rv b30, iv 1, .unset, .unset]) rfl k) ?_
                  refine Go.st (f' := (mkF m 302 #[iv p1, iv p2, iv p3, iv p4, iv p5, iv yy1, iv yy2, iv yy3, iv yy4, iv z9, iv z10, iv z11, iv z12, iv z13, iv z14, iv z15, iv z16, iv z17, rv u, rv b30, iv 1, .unset, .unset] [(.int z17)])) (fun _ k => XS.iload X35.here hx rfl (hb hby at_300) rfl k) ?_
                  refine Go.st (f' := (mkF m 303 #[iv p1, iv p2, iv p3, iv p4, iv p5, iv yy1, iv yy2, iv yy3, iv yy4, iv z9, iv z10, iv z11, iv z12, iv z13, iv z14, iv z15, iv z16, iv z17, rv u, rv b30, iv 1, .unset, .unset] [(.int 1), (.int z17)])) (fun _ k => XS.iconst X35.here hx rfl (hb hby at_302) k) ?_
                  refine Go.st (f' := (mkF m 306 #[iv p1, iv p2, iv p3, iv p4, iv p5, iv yy1, iv yy2, iv yy3, iv yy4, iv z9, iv z10, iv z11, iv z12, iv z13, iv z14, iv z15, iv z16, iv z17, rv u, rv b30, iv 1, .unset, .unset] [])) (fun _ k => XS.icmpNo X35.here hx rfl (hb hby at_303) rfl (flt cd6).2.2.1 k) ?_
                  refine Go.st (f' := (mkF m 308 #[iv p1, iv p2, iv p3, iv p4, iv p5, iv yy1, iv yy2, iv yy3, iv yy4, iv z9, iv z10, iv z11, iv z12, iv z13, iv z14, iv z15, iv z16, iv z17, rv u, rv b30, iv 1, .unset, .unset] [(.int z11)])) (fun _ k => XS.iload X35.here hx rfl (hb hby at_306) rfl k) ?_
                  refine Go.st (f' := (mkF m 310 #[iv p1, iv p2, iv p3, iv p4, iv p5, iv yy1, iv yy2, iv yy3, iv yy4, iv z9, iv z10, iv z11, iv z12, iv z13, iv z14, iv z15, iv z16, iv z17, rv u, rv b30, iv 1, .unset, .unset] [(.int z12), (.int z11)])) (fun _ k => XS.iload X35.here hx rfl (hb hby at_308) rfl k) ?_
                  by_cases cd59 : z11 = z12
                  · refine Go.st (f' := (mkF m 313 #[iv p1, iv p2, iv p3, iv p4, iv p5, iv yy1, iv yy2, iv yy3, iv yy4, iv z9, iv z10, iv z11, iv z12, iv z13, iv z14, iv z15, iv z16, iv z17, rv u, rv b30, iv 1, .unset, .unset] [])) (fun _ k => XS.icmpNo X35.here hx rfl (hb hby at_310) rfl (teq cd59).2 k) ?_
                    refine Go.st (f' := (mkF m 315 #[iv p1, iv p2, iv p3, iv p4, iv p5, iv yy1, iv yy2, iv yy3, iv yy4, iv z9, iv z10, iv z11, iv z12, iv z13, iv z14, iv z15, iv z16, iv z17, rv u, rv b30, iv 1, .unset, .unset] [(.int 1)])) (fun _ k => XS.iload X35.here hx rfl (hb hby at_313) rfl k) ?_
                    refine Go.st (f' := (mkF m 318 #[iv p1, iv p2, iv p3, iv p4, iv p5, iv yy1, iv yy2, iv yy3, iv yy4, iv z9, iv z10, iv z11, iv z12, iv z13, iv z14, iv z15, iv z16, iv z17, rv u, rv b30, iv 1, .unset, .unset] [])) (fun _ k => XS.ifNo X35.here hx rfl (hb hby at_315) rfl (by decide) k) ?_
                    refine Go.st (f' := (mkF m 319 #[iv p1, iv p2, iv p3, iv p4, iv p5, iv yy1, iv yy2, iv yy3, iv yy4, iv z9, iv z10, iv z11, iv z12, iv z13, iv z14, iv z15, iv z16, iv z17, rv u, rv b30, iv 1, .unset, .unset] [(.int 1)])) (fun _ k => XS.iconst X35.here hx rfl (hb hby at_318) k) ?_
                    refine Go.st (f' := (mkF m 323 #[iv p1, iv p2, iv p3, iv p4, iv p5, iv yy1, iv yy2, iv yy3, iv yy4, iv z9, iv z10, iv z11, iv z12, iv z13, iv z14, iv z15, iv z16, iv z17, rv u, rv b30, iv 1, .unset, .unset] [(.int 1)])) (fun _ k => XS.goto X35.here hx rfl (pc0 := 319) (pc' := 323) rfl (hb hby at_319) (by decide) (by decide) k) ?_
                    refine Go.st (f' := (mkF m 325 #[iv p1, iv p2, iv p3, iv p4, iv p5, iv yy1, iv yy2, iv yy3, iv yy4, iv z9, iv z10, iv z11, iv z12, iv z13, iv z14, iv z15, iv z16, iv z17, rv u, rv b30, iv 1, iv 1, .unset] [])) (fun _ k => XS.istore X35.here hx rfl (hb hby at_323) rfl (l' := #[iv p1, iv p2, iv p3, iv p4, iv p5, iv yy1, iv yy2, iv yy3, iv yy4, iv z9, iv z10, iv z11, iv z12, iv z13, iv z14, iv z15, iv z16, iv z17, rv u, rv b30, iv 1, iv 1, .unset]) rfl k) ?_
                    exact J2 (1 : Int32) (1 : Int32) (by simp only [ueI, eq_true cd48, eq_false cd49, eq_true cd55, eq_false cd56, eq_true cd58, eq_true cd59, true_and, and_true, false_and, and_false, true_or, or_true, or_false, false_or, or_self, and_self, if_true, if_false, reduceIte])
                  · refine Go.st (f' := (mkF m 322 #[iv p1, iv p2, iv p3, iv p4, iv p5, iv yy1, iv yy2, iv yy3, iv yy4, iv z9, iv z10, iv z11, iv z12, iv z13, iv z14, iv z15, iv z16, iv z17, rv u, rv b30, iv 1, .unset, .unset] [])) (fun _ k => XS.icmpYes X35.here hx rfl (pc0 := 310) (pc' := 322) rfl (hb hby at_310) rfl (feq cd59).2 (by decide) (by decide) k) ?_
                    refine Go.st (f' := (mkF m 323 #[iv p1, iv p2, iv p3, iv p4, iv p5, iv yy1, iv yy2, iv yy3, iv yy4, iv z9, iv z10, iv z11, iv z12, iv z13, iv z14, iv z15, iv z16, iv z17, rv u, rv b30, iv 1, .unset, .unset] [(.int 0)])) (fun _ k => XS.iconst X35.here hx rfl (hb hby at_322) k) ?_
                    refine Go.st (f' := (mkF m 325 #[iv p1, iv p2, iv p3, iv p4, iv p5, iv yy1, iv yy2, iv yy3, iv yy4, iv z9, iv z10, iv z11, iv z12, iv z13, iv z14, iv z15, iv z16, iv z17, rv u, rv b30, iv 1, iv 0, .unset] [])) (fun _ k => XS.istore X35.here hx rfl (hb hby at_323) rfl (l' := #[iv p1, iv p2, iv p3, iv p4, iv p5, iv yy1, iv yy2, iv yy3, iv yy4, iv z9, iv z10, iv z11, iv z12, iv z13, iv z14, iv z15, iv z16, iv z17, rv u, rv b30, iv 1, iv 0, .unset]) rfl k) ?_
                    exact J2 (1 : Int32) (0 : Int32) (by simp only [ueI, eq_true cd48, eq_false cd49, eq_true cd55, eq_false cd56, eq_true cd58, eq_false cd59, true_and, and_true, false_and, and_false, true_or, or_true, or_false, false_or, or_self, and_self, if_true, if_false, reduceIte])
                · refine Go.st (f' := (mkF m 297 #[iv p1, iv p2, iv p3, iv p4, iv p5, iv yy1, iv yy2, iv yy3, iv yy4, iv z9, iv z10, iv z11, iv z12, iv z13, iv z14, iv z15, iv z16, iv z17, rv u, rv b30, .unset, .unset, .unset] [])) (fun _ k => XS.icmpYes X35.here hx rfl (pc0 := 290) (pc' := 297) rfl (hb hby at_290) rfl (feq cd58).2 (by decide) (by decide) k) ?_
                  refine Go.st (f' := (mkF m 298 #[iv p1, iv p2, iv p3, iv p4, iv p5, iv yy1, iv yy2, iv yy3, iv yy4, iv z9, iv z10, iv z11, iv z12, iv z13, iv z14, iv z15, iv z16, iv z17, rv u, rv b30, .unset, .unset, .unset] [(.int 0)])) (fun _ k => XS.iconst X35.here hx rfl (hb hby at_297) k) ?_
                  refine Go.st (f' := (mkF m 300 #[iv p1, iv p2, iv p3, iv p4, iv p5, iv yy1, iv yy2, iv yy3, iv yy4, iv z9, iv z10, iv z11, iv z12, iv z13, iv z14, iv z15, iv z16, iv z17, rv u, rv b30, iv 0, .unset, .unset] [])) (fun _ k => XS.istore X35.here hx rfl (hb hby at_298) rfl (l' := #[iv p1, iv p2, iv p3, iv p4, iv p5, iv yy1, iv yy2, iv yy3, iv yy4, iv z9, iv z10, iv z11, iv z12, iv z13, iv z14, iv z15, iv z16, iv z17, rv u, rv b30, iv 0, .unset, .unset]) rfl k) ?_
                  refine Go.st (f' := (mkF m 302 #[iv p1, iv p2, iv p3, iv p4, iv p5, iv yy1, iv yy2, iv yy3, iv yy4, iv z9, iv z10, iv z11, iv z12, iv z13, iv z14, iv z15, iv z16, iv z17, rv u, rv b30, iv 0, .unset, .unset] [(.int z17)])) (fun _ k => XS.iload X35.here hx rfl (hb hby at_300) rfl k) ?_
                  refine Go.st (f' := (mkF m 303 #[iv p1, iv p2, iv p3, iv p4, iv p5, iv yy1, iv yy2, iv yy3, iv yy4, iv z9, iv z10, iv z11, iv z12, iv z13, iv z14, iv z15, iv z16, iv z17, rv u, rv b30, iv 0, .unset, .unset] [(.int 1), (.int z17)])) (fun _ k => XS.iconst X35.here hx rfl (hb hby at_302) k) ?_
                  refine Go.st (f' := (mkF m 306 #[iv p1, iv p2, iv p3, iv p4, iv p5, iv yy1, iv yy2, iv yy3, iv yy4, iv z9, iv z10, iv z11, iv z12, iv z13, iv z14, iv z15, iv z16, iv z17, rv u, rv b30, iv 0, .unset, .unset] [])) (fun _ k => XS.icmpNo X35.here hx rfl (hb hby at_303) rfl (flt cd6).2.2.1 k) ?_
                  refine Go.st (f' := (mkF m 308 #[iv p1, iv p2, iv p3, iv p4, iv p5, iv yy1, iv yy2, iv yy3, iv yy4, iv z9, iv z10, iv z11, iv z12, iv z13, iv z14, iv z15, iv z16, iv z17, rv u, rv b30, iv 0, .unset, .unset] [(.int z11)])) (fun _ k => XS.iload X35.here hx rfl (hb hby at_306) rfl k) ?_
                  refine Go.st (f' := (mkF m 310 #[iv p1, iv p2, iv p3, iv p4, iv p5, iv yy1, iv yy2, iv yy3, iv yy4, iv z9, iv z10, iv z11, iv z12, iv z13, iv z14, iv z15, iv z16, iv z17, rv u, rv b30, iv 0, .unset, .unset] [(.int z12), (.int z11)])) (fun _ k => XS.iload X35.here hx rfl (hb hby at_308) rfl k) ?_
                  by_cases cd60 : z11 = z12
                  · refine Go.st (f' := (mkF m 313 #[iv p1, iv p2, iv p3, iv p4, iv p5, iv yy1, iv yy2, iv yy3, iv yy4, iv z9, iv z10, iv z11, iv z12, iv z13, iv z14, iv z15, iv z16, iv z17, rv u, rv b30, iv 0, .unset, .unset] [])) (fun _ k => XS.icmpNo X35.here hx rfl (hb hby at_310) rfl (teq cd60).2 k) ?_
                    refine Go.st (f' := (mkF m 315 #[iv p1, iv p2, iv p3, iv p4, iv p5, iv yy1, iv yy2, iv yy3, iv yy4, iv z9, iv z10, iv z11, iv z12, iv z13, iv z14, iv z15, iv z16, iv z17, rv u, rv b30, iv 0, .unset, .unset] [(.int 0)])) (fun _ k => XS.iload X35.here hx rfl (hb hby at_313) rfl k) ?_
                    refine Go.st (f' := (mkF m 322 #[iv p1, iv p2, iv p3, iv p4, iv p5, iv yy1, iv yy2, iv yy3, iv yy4, iv z9, iv z10, iv z11, iv z12, iv z13, iv z14, iv z15, iv z16, iv z17, rv u, rv b30, iv 0, .unset, .unset] [])) (fun _ k => XS.ifYes X35.here hx rfl (pc0 := 315) (pc' := 322) rfl (hb hby at_315) rfl (by decide) (by decide) (by decide) k) ?_
                    refine Go.st (f' := (mkF m 323 #[iv p1, iv p2, iv p3, iv p4, iv p5, iv yy1, iv yy2, iv yy3, iv yy4, iv z9, iv z10, iv z11, iv z12, iv z13, iv z14, iv z15, iv z16, iv z17, rv u, rv b30, iv 0, .unset, .unset] [(.int 0)])) (fun _ k => XS.iconst X35.here hx rfl (hb hby at_322) k) ?_
                    refine Go.st (f' := (mkF m 325 #[iv p1, iv p2, iv p3, iv p4, iv p5, iv yy1, iv yy2, iv yy3, iv yy4, iv z9, iv z10, iv z11, iv z12, iv z13, iv z14, iv z15, iv z16, iv z17, rv u, rv b30, iv 0, iv 0, .unset] [])) (fun _ k => XS.istore X35.here hx rfl (hb hby at_323) rfl (l' := #[iv p1, iv p2, iv p3, iv p4, iv p5, iv yy1, iv yy2, iv yy3, iv yy4, iv z9, iv z10, iv z11, iv z12, iv z13, iv z14, iv z15, iv z16, iv z17, rv u, rv b30, iv 0, iv 0, .unset]) rfl k) ?_
                    exact J2 (0 : Int32) (0 : Int32) (by simp only [ueI, eq_true cd48, eq_false cd49, eq_true cd55, eq_false cd56, eq_false cd58, eq_true cd60, true_and, and_true, false_and, and_false, true_or, or_true, or_false, false_or, or_self, and_self, if_true, if_false, reduceIte])
                  · refine Go.st (f' := (mkF m 322 #[iv p1, iv p2, iv p3, iv p4, iv p5, iv yy1, iv yy2, iv yy3, iv yy4, iv z9, iv z10, iv z11, iv z12, iv z13, iv z14, iv z15, iv z16, iv z17, rv u, rv b30, iv 0, .unset, .unset] [])) (fun _ k => XS.icmpYes X35.here hx rfl (pc0 := 310) (pc' := 322) rfl (hb hby at_310) rfl (feq cd60).2 (by decide) (by decide) k) ?_
                    refine Go.st (f' := (mkF m 323 #[iv p1, iv p2, iv p3, iv p4, iv p5, iv yy1, iv yy2, iv yy3, iv yy4, iv z9, iv z10, iv z11, iv z12, iv z13, iv z14, iv z15, iv z16, iv z17, rv u, rv b30, iv 0, .unset, .unset] [(.int 0)])) (fun _ k => XS.iconst X35.here hx rfl (hb hby at_322) k) ?_
                    refine Go.st (f' := (mkF m 325 #[iv p1, iv p2, iv p3, iv p4, iv p5, iv yy1, iv yy2, iv yy3, iv yy4, iv z9, iv z10, iv z11, iv z12, iv z13, iv z14, iv z15, iv z16, iv z17, rv u, rv b30, iv 0, iv 0, .unset] [])) (fun _ k => XS.istore X35.here hx rfl (hb hby at_323) rfl (l' := #[iv p1, iv p2, iv p3, iv p4, iv p5, iv yy1, iv yy2, iv yy3, iv yy4, iv z9, iv z10, iv z11, iv z12, iv z13, iv z14, iv z15, iv z16, iv z17, rv u, rv b30, iv 0, iv 0, .unset]) rfl k) ?_
                    exact J2 (0 : Int32) (0 : Int32) (by simp only [ueI, eq_true cd48, eq_false cd49, eq_true cd55, eq_false cd56, eq_false cd58, eq_false cd60, true_and, and_true, false_and, and_false, true_or, or_true, or_false, false_or, or_self, and_self, if_true, if_false, reduceIte])
            · refine Go.st (f' := (mkF m 297 #[iv p1, iv p2, iv p3, iv p4, iv p5, iv yy1, iv yy2, iv yy3, iv yy4, iv z9, iv z10, iv z11, iv z12, iv z13, iv z14, iv z15, iv z16, iv z17, rv u, rv b30, .unset, .unset, .unset] [])) (fun _ k => XS.icmpYes X35.here hx rfl (pc0 := 277) (pc' := 297) rfl (hb hby at_277) rfl (feq cd55).2 (by decide) (by decide) k) ?_
              refine Go.st (f' := (mkF m 298 #[iv p1, iv p2, iv p3, iv p4, iv p5, iv yy1, iv yy2, iv yy3, iv yy4, iv z9, iv z10, iv z11, iv z12, iv z13, iv z14, iv z15, iv z16, iv z17, rv u, rv b30, .unset, .unset, .unset] [(.int 0)])) (fun _ k => XS.iconst X35.here hx rfl (hb hby at_297) k) ?_
              refine Go.st (f' := (mkF m 300 #[iv p1, iv p2, iv p3, iv p4, iv p5, iv yy1, iv yy2, iv yy3, iv yy4, iv z9, iv z10, iv z11, iv z12, iv z13, iv z14, iv z15, iv z16, iv z17, rv u, rv b30, iv 0, .unset, .unset] [])) (fun _ k => XS.istore X35.here hx rfl (hb hby at_298) rfl (l' := #[iv p1, iv p2, iv p3, iv p4, iv p5, iv yy1, iv yy2, iv yy3, iv yy4, iv z9, iv z10, iv z11, iv z12, iv z13, iv z14, iv z15, iv z16, iv z17, rv u, rv b30, iv 0, .unset, .unset]) rfl k) ?_
              refine Go.st (f' := (mkF m 302 #[iv p1, iv p2, iv p3, iv p4, iv p5, iv yy1, iv yy2, iv yy3, iv yy4, iv z9, iv z10, iv z11, iv z12, iv z13, iv z14, iv z15, iv z16, iv z17, rv u, rv b30, iv 0, .unset, .unset] [(.int z17)])) (fun _ k => XS.iload X35.here hx rfl (hb hby at_300) rfl k) ?_
              refine Go.st (f' := (mkF m 303 #[iv p1, iv p2, iv p3, iv p4, iv p5, iv yy1, iv yy2, iv yy3, iv yy4, iv z9, iv z10, iv z11, iv z12, iv z13, iv z14, iv z15, iv z16, iv z17, rv u, rv b30, iv 0, .unset, .unset] [(.int 1), (.int z17)])) (fun _ k => XS.iconst X35.here hx rfl (hb hby at_302) k) ?_
              refine Go.st (f' := (mkF m 306 #[iv p1, iv p2, iv p3, iv p4, iv p5, iv yy1, iv yy2, iv yy3, iv yy4, iv z9, iv z10, iv z11, iv z12, iv z13, iv z14, iv z15, iv z16, iv z17, rv u, rv b30, iv 0, .unset, .unset] [])) (fun _ k => XS.icmpNo X35.here hx rfl (hb hby at_303) rfl (flt cd6).2.2.1 k) ?_
              refine Go.st (f' := (mkF m 308 #[iv p1, iv p2, iv p3, iv p4, iv p5, iv yy1, iv yy2, iv yy3, iv yy4, iv z9, iv z10, iv z11, iv z12, iv z13, iv z14, iv z15, iv z16, iv z17, rv u, rv b30, iv 0, .unset, .unset] [(.int z11)])) (fun _ k => XS.iload X35.here hx rfl (hb hby at_306) rfl k) ?_
              refine Go.st (f' := (mkF m 310 #[iv p1, iv p2, iv p3, iv p4, iv p5, iv yy1, iv yy2, iv yy3, iv yy4, iv z9, iv z10, iv z11, iv z12, iv z13, iv z14, iv z15, iv z16, iv z17, rv u, rv b30, iv 0, .unset, .unset] [(.int z12), (.int z11)])) (fun _ k => XS.iload X35.here hx rfl (hb hby at_308) rfl k) ?_
              by_cases cd61 : z11 = z12
              · refine Go.st (f' := (mkF m 313 #[iv p1, iv p2, iv p3, iv p4, iv p5, iv yy1, iv yy2, iv yy3, iv yy4, iv z9, iv z10, iv z11, iv z12, iv z13, iv z14, iv z15, iv z16, iv z17, rv u, rv b30, iv 0, .unset, .unset] [])) (fun _ k => XS.icmpNo X35.here hx rfl (hb hby at_310) rfl (teq cd61).2 k) ?_
                refine Go.st (f' := (mkF m 315 #[iv p1, iv p2, iv p3, iv p4, iv p5, iv yy1, iv yy2, iv yy3, iv yy4, iv z9, iv z10, iv z11, iv z12, iv z13, iv z14, iv z15, iv z16, iv z17, rv u, rv b30, iv 0, .unset, .unset] [(.int 0)])) (fun _ k => XS.iload X35.here hx rfl (hb hby at_313) rfl k) ?_
                refine Go.st (f' := (mkF m 322 #[iv p1, iv p2, iv p3, iv p4, iv p5, iv yy1, iv yy2, iv yy3, iv yy4, iv z9, iv z10, iv z11, iv z12, iv z13, iv z14, iv z15, iv z16, iv z17, rv u, rv b30, iv 0, .unset, .unset] [])) (fun _ k => XS.ifYes X35.here hx rfl (pc0 := 315) (pc' := 322) rfl (hb hby at_315) rfl (by decide) (by decide) (by decide) k) ?_
                refine Go.st (f' := (mkF m 323 #[iv p1, iv p2, iv p3, iv p4, iv p5, iv yy1, iv yy2, iv yy3, iv yy4, iv z9, iv z10, iv z11, iv z12, iv z13, iv z14, iv z15, iv z16, iv z17, rv u, rv b30, iv 0, .unset, .unset] [(.int 0)])) (fun _ k => XS.iconst X35.here hx rfl (hb hby at_322) k) ?_
                refine Go.st (f' := (mkF m 325 #[iv p1, iv p2, iv p3, iv p4, iv p5, iv yy1, iv yy2, iv yy3, iv yy4, iv z9, iv z10, iv z11, iv z12, iv z13, iv z14, iv z15, iv z16, iv z17, rv u, rv b30, iv 0, iv 0, .unset] [])) (fun _ k => XS.istore X35.here hx rfl (hb hby at_323) rfl (l' := #[iv p1, iv p2, iv p3, iv p4, iv p5, iv yy1, iv yy2, iv yy3, iv yy4, iv z9, iv z10, iv z11, iv z12, iv z13, iv z14, iv z15, iv z16, iv z17, rv u, rv b30, iv 0, iv 0, .unset]) rfl k) ?_
                exact J2 (0 : Int32) (0 : Int32) (by simp only [ueI, eq_true cd48, eq_false cd49, eq_false cd55, eq_true cd61, true_and, and_true, false_and, and_false, true_or, or_true, or_false, false_or, or_self, and_self, if_true, if_false, reduceIte])
              · refine Go.st (f' := (mkF m 322 #[iv p1, iv p2, iv p3, iv p4, iv p5, iv yy1, iv yy2, iv yy3, iv yy4, iv z9, iv z10, iv z11, iv z12, iv z13, iv z14, iv z15, iv z16, iv z17, rv u, rv b30, iv 0, .unset, .unset] [])) (fun _ k => XS.icmpYes X35.here hx rfl (pc0 := 310) (pc' := 322) rfl (hb hby at_310) rfl (feq cd61).2 (by decide) (by decide) k) ?_
                refine Go.st (f' := (mkF m 323 #[iv p1, iv p2, iv p3, iv p4, iv p5, iv yy1, iv yy2, iv yy3, iv yy4, iv z9, iv z10, iv z11, iv z12, iv z13, iv z14, iv z15, iv z16, iv z17, rv u, rv b30, iv 0, .unset, .unset] [(.int 0)])) (fun _ k => XS.iconst X35.here hx rfl (hb hby at_322) k) ?_
                refine Go.st (f' := (mkF m 325 #[iv p1, iv p2, iv p3, iv p4, iv p5, iv yy1, iv yy2, iv yy3, iv yy4, iv z9, iv z10, iv z11, iv z12, iv z13, iv z14, iv z15, iv z16, iv z17, rv u, rv b30, iv 0, iv 0, .unset] [])) (fun _ k => XS.istore X35.here hx rfl (hb hby at_323) rfl (l' := #[iv p1, iv p2, iv p3, iv p4, iv p5, iv yy1, iv yy2, iv yy3, iv yy4, iv z9, iv z10, iv z11, iv z12, iv z13, iv z14, iv z15, iv z16, iv z17, rv u, rv b30, iv 0, iv 0, .unset]) rfl k) ?_
                exact J2 (0 : Int32) (0 : Int32) (by simp only [ueI, eq_true cd48, eq_false cd49, eq_false cd55, eq_false cd61, true_and, and_true, false_and, and_false, true_or, or_true, or_false, false_or, or_self, and_self, if_true, if_false, reduceIte])
        · refine Go.st (f' := (mkF m 297 #[iv p1, iv p2, iv p3, iv p4, iv p5, iv yy1, iv yy2, iv yy3, iv yy4, iv z9, iv z10, iv z11, iv z12, iv z13, iv z14, iv z15, iv z16, iv z17, rv u, rv b30, .unset, .unset, .unset] [])) (fun _ k => XS.icmpYes X35.here hx rfl (pc0 := 264) (pc' := 297) rfl (hb hby at_264) rfl (feq cd48).2 (by decide) (by decide) k) ?_
          refine Go.st (f' := (mkF m 298 #[iv p1, iv p2, iv p3, iv p4, iv p5, iv yy1, iv yy2, iv yy3, iv yy4, iv z9, iv z10, iv z11, iv z12, iv z13, iv z14, iv z15, iv z16, iv z17, rv u, rv b30, .unset, .unset, .unset] [(.int 0)])) (fun _ k => XS.iconst X35.here hx rfl (hb hby at_297) k) ?_
          refine Go.st (f' := (mkF m 300 #[iv p1, iv p2, iv p3, iv p4, iv p5, iv yy1, iv yy2, iv yy3, iv yy4, iv z9, iv z10, iv z11, iv z12, iv z13, iv z14, iv z15, iv z16, iv z17, rv u, rv b30, iv 0, .unset, .unset] [])) (fun _ k => XS.istore X35.here hx rfl (hb hby at_298) rfl (l' := #[iv p1, iv p2, iv p3, iv p4, iv p5, iv yy1, iv yy2, iv yy3, iv yy4, iv z9, iv z10, iv z11, iv z12, iv z13, iv z14, iv z15, iv z16, iv z17, rv u, rv b30, iv 0, .unset, .unset]) rfl k) ?_
          refine Go.st (f' := (mkF m 302 #[iv p1, iv p2, iv p3, iv p4, iv p5, iv yy1, iv yy2, iv yy3, iv yy4, iv z9, iv z10, iv z11, iv z12, iv z13, iv z14, iv z15, iv z16, iv z17, rv u, rv b30, iv 0, .unset, .unset] [(.int z17)])) (fun _ k => XS.iload X35.here hx rfl (hb hby at_300) rfl k) ?_
          refine Go.st (f' := (mkF m 303 #[iv p1, iv p2, iv p3, iv p4, iv p5, iv yy1, iv yy2, iv yy3, iv yy4, iv z9, iv z10, iv z11, iv z12, iv z13, iv z14, iv z15, iv z16, iv z17, rv u, rv b30, iv 0, .unset, .unset] [(.int 1), (.int z17)])) (fun _ k => XS.iconst X35.here hx rfl (hb hby at_302) k) ?_
          refine Go.st (f' := (mkF m 306 #[iv p1, iv p2, iv p3, iv p4, iv p5, iv yy1, iv yy2, iv yy3, iv yy4, iv z9, iv z10, iv z11, iv z12, iv z13, iv z14, iv z15, iv z16, iv z17, rv u, rv b30, iv 0, .unset, .unset] [])) (fun _ k => XS.icmpNo X35.here hx rfl (hb hby at_303) rfl (flt cd6).2.2.1 k) ?_
          refine Go.st (f' := (mkF m 308 #[iv p1, iv p2, iv p3, iv p4, iv p5, iv yy1, iv yy2, iv yy3, iv yy4, iv z9, iv z10, iv z11, iv z12, iv z13, iv z14, iv z15, iv z16, iv z17, rv u, rv b30, iv 0, .unset, .unset] [(.int z11)])) (fun _ k => XS.iload X35.here hx rfl (hb hby at_306) rfl k) ?_
          refine Go.st (f' := (mkF m 310 #[iv p1, iv p2, iv p3, iv p4, iv p5, iv yy1, iv yy2, iv yy3, iv yy4, iv z9, iv z10, iv z11, iv z12, iv z13, iv z14, iv z15, iv z16, iv z17, rv u, rv b30, iv 0, .unset, .unset] [(.int z12), (.int z11)])) (fun _ k => XS.iload X35.here hx rfl (hb hby at_308) rfl k) ?_
          by_cases cd62 : z11 = z12
          · refine Go.st (f' := (mkF m 313 #[iv p1, iv p2, iv p3, iv p4, iv p5, iv yy1, iv yy2, iv yy3, iv yy4, iv z9, iv z10, iv z11, iv z12, iv z13, iv z14, iv z15, iv z16, iv z17, rv u, rv b30, iv 0, .unset, .unset] [])) (fun _ k => XS.icmpNo X35.here hx rfl (hb hby at_310) rfl (teq cd62).2 k) ?_
            refine Go.st (f' := (mkF m 315 #[iv p1, iv p2, iv p3, iv p4, iv p5, iv yy1, iv yy2, iv yy3, iv yy4, iv z9, iv z10, iv z11, iv z12, iv z13, iv z14, iv z15, iv z16, iv z17, rv u, rv b30, iv 0, .unset, .unset] [(.int 0)])) (fun _ k => XS.iload X35.here hx rfl (hb hby at_313) rfl k) ?_
            refine Go.st (f' := (mkF m 322 #[iv p1, iv p2, iv p3, iv p4, iv p5, iv yy1, iv yy2, iv yy3, iv yy4, iv z9, iv z10, iv z11, iv z12, iv z13, iv z14, iv z15, iv z16, iv z17, rv u, rv b30, iv 0, .unset, .unset] [])) (fun _ k => XS.ifYes X35.here hx rfl (pc0 := 315) (pc' := 322) rfl (hb hby at_315) rfl (by decide) (by decide) (by decide) k) ?_
            refine Go.st (f' := (mkF m 323 #[iv p1, iv p2, iv p3, iv p4, iv p5, iv yy1, iv yy2, iv yy3, iv yy4, iv z9, iv z10, iv z11, iv z12, iv z13, iv z14, iv z15, iv z16, iv z17, rv u, rv b30, iv 0, .unset, .unset] [(.int 0)])) (fun _ k => XS.iconst X35.here hx rfl (hb hby at_322) k) ?_
            refine Go.st (f' := (mkF m 325 #[iv p1, iv p2, iv p3, iv p4, iv p5, iv yy1, iv yy2, iv yy3, iv yy4, iv z9, iv z10, iv z11, iv z12, iv z13, iv z14, iv z15, iv z16, iv z17, rv u, rv b30, iv 0, iv 0, .unset] [])) (fun _ k => XS.istore X35.here hx rfl (hb hby at_323) rfl (l' := #[iv p1, iv p2, iv p3, iv p4, iv p5, iv yy1, iv yy2, iv yy3, iv yy4, iv z9, iv z10, iv z11, iv z12, iv z13, iv z14, iv z15, iv z16, iv z17, rv u, rv b30, iv 0, iv 0, .unset]) rfl k) ?_
            exact J2 (0 : Int32) (0 : Int32) (by simp only [ueI, eq_false cd48, eq_true cd62, true_and, and_true, false_and, and_false, true_or, or_true, or_false, false_or, or_self, and_self, if_true, if_false, reduceIte])
          · refine Go.st (f' := (mkF m 322 #[iv p1, iv p2, iv p3, iv p4, iv p5, iv yy1, iv yy2, iv yy3, iv yy4, iv z9, iv z10, iv z11, iv z12, iv z13, iv z14, iv z15, iv z16, iv z17, rv u, rv b30, iv 0, .unset, .unset] [])) (fun _ k => XS.icmpYes X35.here hx rfl (pc0 := 310) (pc' := 322) rfl (hb hby at_310) rfl (feq cd62).2 (by decide) (by decide) k) ?_
            refine Go.st (f' := (mkF m 323 #[iv p1, iv p2, iv p3, iv p4, iv p5, iv yy1, iv yy2, iv yy3, iv yy4, iv z9, iv z10, iv z11, iv z12, iv z13, iv z14, iv z15, iv z16, iv z17, rv u, rv b30, iv 0, .unset, .unset] [(.int 0)])) (fun _ k => XS.iconst X35.here hx rfl (hb hby at_322) k) ?_
            refine Go.st (f' := (mkF m 325 #[iv p1, iv p2, iv p3, iv p4, iv p5, iv yy1, iv yy2, iv yy3, iv yy4, iv z9, iv z10, iv z11, iv z12, iv z13, iv z14, iv z15, iv z16, iv z17, rv u, rv b30, iv 0, iv 0, .unset] [])) (fun _ k => XS.istore X35.here hx rfl (hb hby at_323) rfl (l' := #[iv p1, iv p2, iv p3, iv p4, iv p5, iv yy1, iv yy2, iv yy3, iv yy4, iv z9, iv z10, iv z11, iv z12, iv z13, iv z14, iv z15, iv z16, iv z17, rv u, rv b30, iv 0, iv 0, .unset]) rfl k) ?_
            exact J2 (0 : Int32) (0 : Int32) (by simp only [ueI, eq_false cd48, eq_false cd62, true_and, and_true, false_and, and_false, true_or, or_true, or_false, false_or, or_self, and_self, if_true, if_false, reduceIte])
    refine Go.st (f' := (mkF m 176 #[iv p1, iv p2, iv p3, iv p4, iv p5, iv yy1, iv yy2, iv yy3, iv yy4, iv z9, iv z10, iv z11, iv z12, iv z13, iv z14, iv z15, iv z16, iv z17, .unset, .unset, .unset, .unset, .unset] [(.int z9)])) (fun _ k => XS.iload X0.here hx rfl (hb hby at_174) rfl k) ?_
    by_cases cd63 : z9 = (0 : Int32)
    · refine Go.st (f' := (mkF m 189 #[iv p1, iv p2, iv p3, iv p4, iv p5, iv yy1, iv yy2, iv yy3, iv yy4, iv z9, iv z10, iv z11, iv z12, iv z13, iv z14, iv z15, iv z16, iv z17, .unset, .unset, .unset, .unset, .unset] [])) (fun _ k => XS.ifYes X0.here hx rfl (pc0 := 176) (pc' := 189) rfl (hb hby at_176) rfl ((if0 _ _).trans (teq cd63).1) (by decide) (by decide) k) ?_
      obtain ⟨T64, h64, X64, e64, E64, A64, D64, -, st64⟩ := newO X0 hx hZ hown (hw _ (List.mem_of_getElem? (i := 0) rfl)) (hw _ (List.mem_of_getElem? (i := 1) rfl)) (hw _ (List.mem_of_getElem? (i := 2) rfl)) e0 (g := (mkF m 189 #[iv p1, iv p2, iv p3, iv p4, iv p5, iv yy1, iv yy2, iv yy3, iv yy4, iv z9, iv z10, iv z11, iv z12, iv z13, iv z14, iv z15, iv z16, iv z17, .unset, .unset, .unset, .unset, .unset] [])) rfl (hb hby at_189) (by decide) (by decide)
      obtain ⟨b64, g64⟩ : ∃ z, z = h0.size := ⟨_, rfl⟩
      rw [← g64] at A64 D64 st64
      have g_b64 : n0 ≤ b64 := Nat.le_trans (O0.1 ▸ O0.2.1) (Nat.le_of_eq g64.symm)
      have O64 : Old Z n0 h64 := O0.ext E64
      have CR64 : CHr Z EL s.vm h0 s.vm h64 := CR0.trans (CHr.ext E64 CR0.1)
      have sf_b64 : Safe Z EL s.vm h64 b64 := (Safe.new (Nat.le_of_eq g64.symm)).ext E64 CR0.1
      have lt_b64 := A64.lt
      have F_userId_b64 : Fld Z h64 b64 "com/example/wirecall/wirecall/demo/User" "userId" "I" (.int (0 : Int32)) := D64 (Or.inl (hw _ (List.mem_of_getElem? (i := 17) rfl))) (ty := .int) (by decide)
      have F_userName_b64 : Fld Z h64 b64 "com/example/wirecall/wirecall/demo/User" "userName" "Ljava/lang/String;" .null := D64 (Or.inl (hw _ (List.mem_of_getElem? (i := 19) rfl))) (ty := (.object "java/lang/String")) (by decide)
      refine Go.st (f' := (mkF m 192 #[iv p1, iv p2, iv p3, iv p4, iv p5, iv yy1, iv yy2, iv yy3, iv yy4, iv z9, iv z10, iv z11, iv z12, iv z13, iv z14, iv z15, iv z16, iv z17, .unset, .unset, .unset, .unset, .unset] [(.ref b64)])) (fun _ k => st64 _ k) ?_
      refine Go.st (f' := (mkF m 193 #[iv p1, iv p2, iv p3, iv p4, iv p5, iv yy1, iv yy2, iv yy3, iv yy4, iv z9, iv z10, iv z11, iv z12, iv z13, iv z14, iv z15, iv z16, iv z17, .unset, .unset, .unset, .unset, .unset] [(.ref b64), (.ref b64)])) (fun _ k => XS.dup X64.here hx rfl (hb hby at_192) rfl rfl k) ?_
      refine Go.st (f' := (mkF m 195 #[iv p1, iv p2, iv p3, iv p4, iv p5, iv yy1, iv yy2, iv yy3, iv yy4, iv z9, iv z10, iv z11, iv z12, iv z13, iv z14, iv z15, iv z16, iv z17, .unset, .unset, .unset, .unset, .unset] [(.int z11), (.ref b64), (.ref b64)])) (fun _ k => XS.iload X64.here hx rfl (hb hby at_193) rfl k) ?_
      refine Go.st (f' := (mkF m 197 #[iv p1, iv p2, iv p3, iv p4, iv p5, iv yy1, iv yy2, iv yy3, iv yy4, iv z9, iv z10, iv z11, iv z12, iv z13, iv z14, iv z15, iv z16, iv z17, .unset, .unset, .unset, .unset, .unset] [(.int z10), (.int z11), (.ref b64), (.ref b64)])) (fun _ k => XS.iload X64.here hx rfl (hb hby at_195) rfl k) ?_
      refine Go.st (f' := (mkF m 199 #[iv p1, iv p2, iv p3, iv p4, iv p5, iv yy1, iv yy2, iv yy3, iv yy4, iv z9, iv z10, iv z11, iv z12, iv z13, iv z14, iv z15, iv z16, iv z17, .unset, .unset, .unset, .unset, .unset] [(.int yy1), (.int z10), (.int z11), (.ref b64), (.ref b64)])) (fun _ k => XS.iload X64.here hx rfl (hb hby at_197) rfl k) ?_
      refine Go.st (f' := (mkF m 201 #[iv p1, iv p2, iv p3, iv p4, iv p5, iv yy1, iv yy2, iv yy3, iv yy4, iv z9, iv z10, iv z11, iv z12, iv z13, iv z14, iv z15, iv z16, iv z17, .unset, .unset, .unset, .unset, .unset] [(.int yy2), (.int yy1), (.int z10), (.int z11), (.ref b64), (.ref b64)])) (fun _ k => XS.iload X64.here hx rfl (hb hby at_199) rfl k) ?_
      obtain ⟨_, _, ⟨T65, L65, kk65, nn65⟩, -, Xw65, hSw65, hgw65, ⟨Lc65, hQ65, lq65, yq65, zz65, crw65⟩, st65⟩ := callSS X64 hx (y := (⟨"com/example/wirecall/wirecall/demo/UserEqualsPinLaw", "name", "(ICC)Ljava/lang/String;"⟩ : MethodName)) hown (mvT hZ (hw _ (List.mem_of_getElem? (i := 9) rfl))) (mvT hZ (hw _ (List.mem_of_getElem? (i := 10) rfl))) (mvT hZ (hw _ (List.mem_of_getElem? (i := 11) rfl))) (mvT hZ (hw _ (List.mem_of_getElem? (i := 12) rfl))) (by decide) (own_backW (W := 3) (rmN l Z a0 hw [] z10 yy1 yy2 i_COMPACT_STRINGS v_SIOOBE_FORMATTER h64 n0 O64 hz10 (hyy1 ▸ own_b _) (hyy2 ▸ own_b _) WW) hZ (hw _ (List.mem_of_getElem? (i := 12) rfl)) (hw _ (List.mem_of_getElem? (i := 11) rfl)) (by decide) (by decide) hEL CR64.1) (g := (mkF m 201 #[iv p1, iv p2, iv p3, iv p4, iv p5, iv yy1, iv yy2, iv yy3, iv yy4, iv z9, iv z10, iv z11, iv z12, iv z13, iv z14, iv z15, iv z16, iv z17, .unset, .unset, .unset, .unset, .unset] [(.int yy2), (.int yy1), (.int z10), (.int z11), (.ref b64), (.ref b64)])) rfl (by rw [hml]; rfl) (argsL := [(.int z10), (.int yy1), (.int yy2)]) (rest := [(.int z11), (.ref b64), (.ref b64)]) (lenOf pd__ICC_Ljava_lang_String_ rfl) rfl (by show 2 * 0 + _ ≤ _; exact Nat.le_of_eq rfl) (hb hby at_201) (fun _ _ => ⟨rfl, e64, (by decide : 1 + 6 ≤ _), (by decide : 2 + 12 ≤ _)⟩)
      dsimp only [Pt.U, Pt.locs, Pt.cells, Pt.slots] at Xw65 lq65 yq65 zz65 st65 hQ65 hSw65 hgw65 crw65
      subst lq65 yq65 zz65
      obtain ⟨X65, hS65, hZ65, hown65⟩ := rebS hS (by rw [e64]; exact (Nat.zero_le _)) Xw65 hSw65 hgw65 hZ hown
      obtain ⟨nv65, rfl, Nq65, kq65, nm65, nw65⟩ := hQ65
      have N65 := Fr.app N0 Nq65
      have O65 : Old Z n0 T65.heap := O64.keep kq65 all0
      have hk65 : T65.heap.size ≤ T65.heap.size := Nat.le_refl _
      have sf66 := crw65.safe lt_b64 sf_b64
      have CR65 := CR64.trans crw65
      refine Go.tr (f' := (mkF m 204 #[iv p1, iv p2, iv p3, iv p4, iv p5, iv yy1, iv yy2, iv yy3, iv yy4, iv z9, iv z10, iv z11, iv z12, iv z13, iv z14, iv z15, iv z16, iv z17, .unset, .unset, .unset, .unset, .unset] [nv65, (.int z11), (.ref b64), (.ref b64)])) st65 ?_
      have ft68 := (A64.keep kq65)
      have ft69 := (F_userId_b64.keep kq65 nin0)
      have ft70 := (F_userName_b64.keep kq65 nin0)
      obtain ⟨_, _, ⟨T67, L67, kk67, nn67⟩, -, X67, ⟨Lc67, hQ67, lq67, yq67, zz67⟩, st67⟩ := X65.specialBack hx (y := (⟨"com/example/wirecall/wirecall/demo/User", "<init>", "(ILjava/lang/String;)V"⟩ : MethodName)) rfl hown65 (mvT hZ65 (hw _ (List.mem_of_getElem? (i := 13) rfl))) (mvT hZ65 (hw _ (List.mem_of_getElem? (i := 14) rfl))) (mvT hZ65 (hw _ (List.mem_of_getElem? (i := 15) rfl))) (by decide) (own_back (W := 1) (rmU2 l Z a0 hw [] b64 z11 nv65 T65.heap n0 O65 nm65.isRef g_b64 ft68 ft69 ft70) hZ65 (hw _ (List.mem_of_getElem? (i := 15) rfl)) (hw _ (List.mem_of_getElem? (i := 2) rfl)) (by decide) (by decide)) (g := (mkF m 204 #[iv p1, iv p2, iv p3, iv p4, iv p5, iv yy1, iv yy2, iv yy3, iv yy4, iv z9, iv z10, iv z11, iv z12, iv z13, iv z14, iv z15, iv z16, iv z17, .unset, .unset, .unset, .unset, .unset] [nv65, (.int z11), (.ref b64), (.ref b64)])) rfl (by rw [hml]; rfl) (Steps.refl _) (a := b64) (argsL := [(.int z11), nv65]) (rest := [(.ref b64)]) (lenOf pd__ILjava_lang_String__V rfl) rfl (by show 2 * 0 + _ ≤ _; exact Nat.le_of_eq rfl) (hb hby at_204) (fun _ _ => ⟨rfl, rfl, (by decide : 7 + 0 ≤ _), (by decide : 14 + 0 ≤ _)⟩)
      dsimp only [Pt.U, Pt.locs, Pt.cells, Pt.slots] at X67 lq67 yq67 zz67 st67 hQ67
      subst lq67 yq67 zz67
      obtain ⟨rfl, Nq67, kq67, eq67, fq67_0, fq67_1⟩ := hQ67
      have N67 := Fr.app N65 Nq67
      have O67 : Old Z n0 T67.heap := O65.keep kq67 (allS g_b64 all0)
      have CR67 : CHr Z EL s.vm h0 T65.vm T67.heap := CR65.trans (CHr.keep kq67 (sfS sf66 sf0) CR65.1)
      have nk67_nv65 := Nm.keep1 nm65 kq67 ft68 (by decide) (hw _ (List.mem_of_getElem? (i := 1) rfl))
      refine Go.tr (f' := (mkF m 207 #[iv p1, iv p2, iv p3, iv p4, iv p5, iv yy1, iv yy2, iv yy3, iv yy4, iv z9, iv z10, iv z11, iv z12, iv z13, iv z14, iv z15, iv z16, iv z17, .unset, .unset, .unset, .unset, .unset] [(.ref b64)])) st67 ?_
      have ft71 := (Nat.le_trans hk65 kq67.1)
      exact U _ T67.heap T65.vm _ _ b64 nv65 X67 rfl O67 N67 hS65 ft71 hZ65 hown65 CR67 eq67 fq67_0 fq67_1 nk67_nv65
    · refine Go.st (f' := (mkF m 179 #[iv p1, iv p2, iv p3, iv p4, iv p5, iv yy1, iv yy2, iv yy3, iv yy4, iv z9, iv z10, iv z11, iv z12, iv z13, iv z14, iv z15, iv z16, iv z17, .unset, .unset, .unset, .unset, .unset] [])) (fun _ k => XS.ifNo X0.here hx rfl (hb hby at_176) rfl ((if0 _ _).trans (feq cd63).1) k) ?_
      obtain ⟨T72, h72, X72, e72, E72, A72, D72, -, st72⟩ := newO X0 hx hZ hown (hw _ (List.mem_of_getElem? (i := 0) rfl)) (hw _ (List.mem_of_getElem? (i := 1) rfl)) (hw _ (List.mem_of_getElem? (i := 2) rfl)) e0 (g := (mkF m 179 #[iv p1, iv p2, iv p3, iv p4, iv p5, iv yy1, iv yy2, iv yy3, iv yy4, iv z9, iv z10, iv z11, iv z12, iv z13, iv z14, iv z15, iv z16, iv z17, .unset, .unset, .unset, .unset, .unset] [])) rfl (hb hby at_179) (by decide) (by decide)
      obtain ⟨b72, g72⟩ : ∃ z, z = h0.size := ⟨_, rfl⟩
      rw [← g72] at A72 D72 st72
      have g_b72 : n0 ≤ b72 := Nat.le_trans (O0.1 ▸ O0.2.1) (Nat.le_of_eq g72.symm)
      have O72 : Old Z n0 h72 := O0.ext E72
      have CR72 : CHr Z EL s.vm h0 s.vm h72 := CR0.trans (CHr.ext E72 CR0.1)
      have sf_b72 : Safe Z EL s.vm h72 b72 := (Safe.new (Nat.le_of_eq g72.symm)).ext E72 CR0.1
      have lt_b72 := A72.lt
      have F_userId_b72 : Fld Z h72 b72 "com/example/wirecall/wirecall/demo/User" "userId" "I" (.int (0 : Int32)) := D72 (Or.inl (hw _ (List.mem_of_getElem? (i := 17) rfl))) (ty := .int) (by decide)
      have F_userName_b72 : Fld Z h72 b72 "com/example/wirecall/wirecall/demo/User" "userName" "Ljava/lang/String;" .null := D72 (Or.inl (hw _ (List.mem_of_getElem? (i := 19) rfl))) (ty := (.object "java/lang/String")) (by decide)
      refine Go.st (f' := (mkF m 182 #[iv p1, iv p2, iv p3, iv p4, iv p5, iv yy1, iv yy2, iv yy3, iv yy4, iv z9, iv z10, iv z11, iv z12, iv z13, iv z14, iv z15, iv z16, iv z17, .unset, .unset, .unset, .unset, .unset] [(.ref b72)])) (fun _ k => st72 _ k) ?_
      refine Go.st (f' := (mkF m 183 #[iv p1, iv p2, iv p3, iv p4, iv p5, iv yy1, iv yy2, iv yy3, iv yy4, iv z9, iv z10, iv z11, iv z12, iv z13, iv z14, iv z15, iv z16, iv z17, .unset, .unset, .unset, .unset, .unset] [(.ref b72), (.ref b72)])) (fun _ k => XS.dup X72.here hx rfl (hb hby at_182) rfl rfl k) ?_
      obtain ⟨_, _, ⟨T73, L73, kk73, nn73⟩, -, X73, ⟨Lc73, hQ73, lq73, yq73, zz73⟩, st73⟩ := X72.specialBack hx (y := (⟨"com/example/wirecall/wirecall/demo/User", "<init>", "()V"⟩ : MethodName)) rfl hown (mvT hZ (hw _ (List.mem_of_getElem? (i := 3) rfl))) (mvT hZ (hw _ (List.mem_of_getElem? (i := 4) rfl))) (mvT hZ (hw _ (List.mem_of_getElem? (i := 5) rfl))) (by decide) (own_back (W := 1) (rmU0 l Z a0 hw [] b72 h72 n0 O72) hZ (hw _ (List.mem_of_getElem? (i := 5) rfl)) (hw _ (List.mem_of_getElem? (i := 2) rfl)) (by decide) (by decide)) (g := (mkF m 183 #[iv p1, iv p2, iv p3, iv p4, iv p5, iv yy1, iv yy2, iv yy3, iv yy4, iv z9, iv z10, iv z11, iv z12, iv z13, iv z14, iv z15, iv z16, iv z17, .unset, .unset, .unset, .unset, .unset] [(.ref b72), (.ref b72)])) rfl (by rw [hml]; rfl) (Steps.refl _) (a := b72) (argsL := []) (rest := [(.ref b72)]) (lenOf pd___V rfl) rfl (by show 2 * 0 + _ ≤ _; exact Nat.le_of_eq rfl) (hb hby at_183) (fun _ _ => ⟨rfl, e72, (by decide : 1 + 0 ≤ _), (by decide : 2 + 0 ≤ _)⟩)
      dsimp only [Pt.U, Pt.locs, Pt.cells, Pt.slots] at X73 lq73 yq73 zz73 st73 hQ73
      subst lq73 yq73 zz73
      obtain ⟨rfl, Nq73, kq73⟩ := hQ73
      have N73 := Fr.app N0 Nq73
      refine Go.tr (f' := (mkF m 186 #[iv p1, iv p2, iv p3, iv p4, iv p5, iv yy1, iv yy2, iv yy3, iv yy4, iv z9, iv z10, iv z11, iv z12, iv z13, iv z14, iv z15, iv z16, iv z17, .unset, .unset, .unset, .unset, .unset] [(.ref b72)])) st73 ?_
      refine Go.st (f' := (mkF m 207 #[iv p1, iv p2, iv p3, iv p4, iv p5, iv yy1, iv yy2, iv yy3, iv yy4, iv z9, iv z10, iv z11, iv z12, iv z13, iv z14, iv z15, iv z16, iv z17, .unset, .unset, .unset, .unset, .unset] [(.ref b72)])) (fun _ k => XS.goto X73.here hx rfl (pc0 := 186) (pc' := 207) rfl (hb hby at_186) (by decide) (by decide) k) ?_
      exact U _ h72 s.vm _ _ b72 .null (X73.more (by decide) (by decide)) kq73 O72 N73 hS (Nat.zero_le _) hZ hown CR72 A72 (by rw [(hz9.resolve_left cd63).2]; exact F_userId_b72) F_userName_b72 (Or.inl ⟨(hz9.resolve_left cd63).1, rfl⟩)
  have J0 : ∀ (y9 : Int32) (y10 : Int32) (y11 : Int32) (y12 : Int32), (y9 = (0 : Int32) ∨ (y10 = (0 : Int32) ∧ y11 = (0 : Int32))) → (0 ≤ y10.toInt ∧ y10.toInt ≤ 3) → Go p e below (DoneW s Z EL (QL n0) room_1.cells room_1.slots) s₁ (mkF m 98 #[iv p1, iv p2, iv p3, iv p4, iv p5, iv yy1, iv yy2, iv yy3, iv yy4, iv y9, iv y10, iv y11, iv y12, .unset, .unset, .unset, .unset, .unset, .unset, .unset, .unset, .unset, .unset] []) := by
    intro y9 y10 y11 y12 hy9 hy10
    refine Go.st (f' := (mkF m 100 #[iv p1, iv p2, iv p3, iv p4, iv p5, iv yy1, iv yy2, iv yy3, iv yy4, iv y9, iv y10, iv y11, iv y12, .unset, .unset, .unset, .unset, .unset, .unset, .unset, .unset, .unset, .unset] [(.int p5)])) (fun _ k => XS.iload X0.here hx rfl (hb hby at_98) rfl k) ?_
    refine Go.st (f' := (mkF m 101 #[iv p1, iv p2, iv p3, iv p4, iv p5, iv yy1, iv yy2, iv yy3, iv yy4, iv y9, iv y10, iv y11, iv y12, .unset, .unset, .unset, .unset, .unset, .unset, .unset, .unset, .unset, .unset] [(.int 4), (.int p5)])) (fun _ k => XS.iconst X0.here hx rfl (hb hby at_100) k) ?_
    refine Go.st (f' := (mkF m 102 #[iv p1, iv p2, iv p3, iv p4, iv p5, iv yy1, iv yy2, iv yy3, iv yy4, iv y9, iv y10, iv y11, iv y12, .unset, .unset, .unset, .unset, .unset, .unset, .unset, .unset, .unset, .unset] [(.int ((p5.toUInt32 >>> ((4 : Int32) &&& 31).toUInt32).toInt32))])) (fun _ k => XS.iushr X0.here hx rfl (hb hby at_101) rfl k) ?_
    refine Go.st (f' := (mkF m 103 #[iv p1, iv p2, iv p3, iv p4, iv p5, iv yy1, iv yy2, iv yy3, iv yy4, iv y9, iv y10, iv y11, iv y12, .unset, .unset, .unset, .unset, .unset, .unset, .unset, .unset, .unset, .unset] [(.int 1), (.int ((p5.toUInt32 >>> ((4 : Int32) &&& 31).toUInt32).toInt32))])) (fun _ k => XS.iconst X0.here hx rfl (hb hby at_102) k) ?_
    refine Go.st (f' := (mkF m 104 #[iv p1, iv p2, iv p3, iv p4, iv p5, iv yy1, iv yy2, iv yy3, iv yy4, iv y9, iv y10, iv y11, iv y12, .unset, .unset, .unset, .unset, .unset, .unset, .unset, .unset, .unset, .unset] [(.int (((p5.toUInt32 >>> ((4 : Int32) &&& 31).toUInt32).toInt32) &&& (1 : Int32)))])) (fun _ k => XS.iand X0.here hx rfl (hb hby at_103) rfl k) ?_
    by_cases cd74 : (((p5.toUInt32 >>> ((4 : Int32) &&& 31).toUInt32).toInt32) &&& (1 : Int32)) = (0 : Int32)
    · refine Go.st (f' := (mkF m 112 #[iv p1, iv p2, iv p3, iv p4, iv p5, iv yy1, iv yy2, iv yy3, iv yy4, iv y9, iv y10, iv y11, iv y12, .unset, .unset, .unset, .unset, .unset, .unset, .unset, .unset, .unset, .unset] [])) (fun _ k => XS.ifYes X0.here hx rfl (pc0 := 104) (pc' := 112) rfl (hb hby at_104) rfl ((if0 _ _).trans (teq cd74).1) (by decide) (by decide) k) ?_
      refine Go.st (f' := (mkF m 114 #[iv p1, iv p2, iv p3, iv p4, iv p5, iv yy1, iv yy2, iv yy3, iv yy4, iv y9, iv y10, iv y11, iv y12, .unset, .unset, .unset, .unset, .unset, .unset, .unset, .unset, .unset, .unset] [(.int p5)])) (fun _ k => XS.iload X0.here hx rfl (hb hby at_112) rfl k) ?_
      refine Go.st (f' := (mkF m 115 #[iv p1, iv p2, iv p3, iv p4, iv p5, iv yy1, iv yy2, iv yy3, iv yy4, iv y9, iv y10, iv y11, iv y12, .unset, .unset, .unset, .unset, .unset, .unset, .unset, .unset, .unset, .unset] [(.int 5), (.int p5)])) (fun _ k => XS.iconst X0.here hx rfl (hb hby at_114) k) ?_
      refine Go.st (f' := (mkF m 116 #[iv p1, iv p2, iv p3, iv p4, iv p5, iv yy1, iv yy2, iv yy3, iv yy4, iv y9, iv y10, iv y11, iv y12, .unset, .unset, .unset, .unset, .unset, .unset, .unset, .unset, .unset, .unset] [(.int ((p5.toUInt32 >>> ((5 : Int32) &&& 31).toUInt32).toInt32))])) (fun _ k => XS.iushr X0.here hx rfl (hb hby at_115) rfl k) ?_
      refine Go.st (f' := (mkF m 117 #[iv p1, iv p2, iv p3, iv p4, iv p5, iv yy1, iv yy2, iv yy3, iv yy4, iv y9, iv y10, iv y11, iv y12, .unset, .unset, .unset, .unset, .unset, .unset, .unset, .unset, .unset, .unset] [(.int 3), (.int ((p5.toUInt32 >>> ((5 : Int32) &&& 31).toUInt32).toInt32))])) (fun _ k => XS.iconst X0.here hx rfl (hb hby at_116) k) ?_
      refine Go.st (f' := (mkF m 118 #[iv p1, iv p2, iv p3, iv p4, iv p5, iv yy1, iv yy2, iv yy3, iv yy4, iv y9, iv y10, iv y11, iv y12, .unset, .unset, .unset, .unset, .unset, .unset, .unset, .unset, .unset, .unset] [(.int (((p5.toUInt32 >>> ((5 : Int32) &&& 31).toUInt32).toInt32) &&& (3 : Int32)))])) (fun _ k => XS.iand X0.here hx rfl (hb hby at_117) rfl k) ?_
      obtain ⟨yy75, hyy75⟩ : ∃ z, z = (((p5.toUInt32 >>> ((5 : Int32) &&& 31).toUInt32).toInt32) &&& (3 : Int32)) := ⟨_, rfl⟩
      rw [← hyy75]
      refine Go.st (f' := (mkF m 120 #[iv p1, iv p2, iv p3, iv p4, iv p5, iv yy1, iv yy2, iv yy3, iv yy4, iv y9, iv y10, iv y11, iv y12, iv yy75, .unset, .unset, .unset, .unset, .unset, .unset, .unset, .unset, .unset] [])) (fun _ k => XS.istore X0.here hx rfl (hb hby at_118) rfl (l' := #[iv p1, iv p2, iv p3, iv p4, iv p5, iv yy1, iv yy2, iv yy3, iv yy4, iv y9, iv y10, iv y11, iv y12, iv yy75, .unset, .unset, .unset, .unset, .unset, .unset, .unset, .unset, .unset]) rfl k) ?_
      refine Go.st (f' := (mkF m 122 #[iv p1, iv p2, iv p3, iv p4, iv p5, iv yy1, iv yy2, iv yy3, iv yy4, iv y9, iv y10, iv y11, iv y12, iv yy75, .unset, .unset, .unset, .unset, .unset, .unset, .unset, .unset, .unset] [(.int p5)])) (fun _ k => XS.iload X0.here hx rfl (hb hby at_120) rfl k) ?_
      refine Go.st (f' := (mkF m 124 #[iv p1, iv p2, iv p3, iv p4, iv p5, iv yy1, iv yy2, iv yy3, iv yy4, iv y9, iv y10, iv y11, iv y12, iv yy75, .unset, .unset, .unset, .unset, .unset, .unset, .unset, .unset, .unset] [(.int 7), (.int p5)])) (fun _ k => XS.bipush X0.here hx rfl (hb hby at_122) k) ?_
      refine Go.st (f' := (mkF m 125 #[iv p1, iv p2, iv p3, iv p4, iv p5, iv yy1, iv yy2, iv yy3, iv yy4, iv y9, iv y10, iv y11, iv y12, iv yy75, .unset, .unset, .unset, .unset, .unset, .unset, .unset, .unset, .unset] [(.int ((p5.toUInt32 >>> ((7 : Int32) &&& 31).toUInt32).toInt32))])) (fun _ k => XS.iushr X0.here hx rfl (hb hby at_124) rfl k) ?_
      refine Go.st (f' := (mkF m 126 #[iv p1, iv p2, iv p3, iv p4, iv p5, iv yy1, iv yy2, iv yy3, iv yy4, iv y9, iv y10, iv y11, iv y12, iv yy75, .unset, .unset, .unset, .unset, .unset, .unset, .unset, .unset, .unset] [(.int 1), (.int ((p5.toUInt32 >>> ((7 : Int32) &&& 31).toUInt32).toInt32))])) (fun _ k => XS.iconst X0.here hx rfl (hb hby at_125) k) ?_
      refine Go.st (f' := (mkF m 127 #[iv p1, iv p2, iv p3, iv p4, iv p5, iv yy1, iv yy2, iv yy3, iv yy4, iv y9, iv y10, iv y11, iv y12, iv yy75, .unset, .unset, .unset, .unset, .unset, .unset, .unset, .unset, .unset] [(.int (((p5.toUInt32 >>> ((7 : Int32) &&& 31).toUInt32).toInt32) &&& (1 : Int32)))])) (fun _ k => XS.iand X0.here hx rfl (hb hby at_126) rfl k) ?_
      by_cases cd76 : (((p5.toUInt32 >>> ((7 : Int32) &&& 31).toUInt32).toInt32) &&& (1 : Int32)) = (0 : Int32)
      · refine Go.st (f' := (mkF m 134 #[iv p1, iv p2, iv p3, iv p4, iv p5, iv yy1, iv yy2, iv yy3, iv yy4, iv y9, iv y10, iv y11, iv y12, iv yy75, .unset, .unset, .unset, .unset, .unset, .unset, .unset, .unset, .unset] [])) (fun _ k => XS.ifYes X0.here hx rfl (pc0 := 127) (pc' := 134) rfl (hb hby at_127) rfl ((if0 _ _).trans (teq cd76).1) (by decide) (by decide) k) ?_
        refine Go.st (f' := (mkF m 135 #[iv p1, iv p2, iv p3, iv p4, iv p5, iv yy1, iv yy2, iv yy3, iv yy4, iv y9, iv y10, iv y11, iv y12, iv yy75, .unset, .unset, .unset, .unset, .unset, .unset, .unset, .unset, .unset] [(.int 0)])) (fun _ k => XS.iconst X0.here hx rfl (hb hby at_134) k) ?_
        refine Go.st (f' := (mkF m 137 #[iv p1, iv p2, iv p3, iv p4, iv p5, iv yy1, iv yy2, iv yy3, iv yy4, iv y9, iv y10, iv y11, iv y12, iv yy75, iv 0, .unset, .unset, .unset, .unset, .unset, .unset, .unset, .unset] [])) (fun _ k => XS.istore X0.here hx rfl (hb hby at_135) rfl (l' := #[iv p1, iv p2, iv p3, iv p4, iv p5, iv yy1, iv yy2, iv yy3, iv yy4, iv y9, iv y10, iv y11, iv y12, iv yy75, iv 0, .unset, .unset, .unset, .unset, .unset, .unset, .unset, .unset]) rfl k) ?_
        refine Go.st (f' := (mkF m 139 #[iv p1, iv p2, iv p3, iv p4, iv p5, iv yy1, iv yy2, iv yy3, iv yy4, iv y9, iv y10, iv y11, iv y12, iv yy75, iv 0, .unset, .unset, .unset, .unset, .unset, .unset, .unset, .unset] [(.int 0)])) (fun _ k => XS.iload X0.here hx rfl (hb hby at_137) rfl k) ?_
        refine Go.st (f' := (mkF m 147 #[iv p1, iv p2, iv p3, iv p4, iv p5, iv yy1, iv yy2, iv yy3, iv yy4, iv y9, iv y10, iv y11, iv y12, iv yy75, iv 0, .unset, .unset, .unset, .unset, .unset, .unset, .unset, .unset] [])) (fun _ k => XS.ifYes X0.here hx rfl (pc0 := 139) (pc' := 147) rfl (hb hby at_139) rfl (by decide) (by decide) (by decide) k) ?_
        refine Go.st (f' := (mkF m 149 #[iv p1, iv p2, iv p3, iv p4, iv p5, iv yy1, iv yy2, iv yy3, iv yy4, iv y9, iv y10, iv y11, iv y12, iv yy75, iv 0, .unset, .unset, .unset, .unset, .unset, .unset, .unset, .unset] [(.int yy3)])) (fun _ k => XS.iload X0.here hx rfl (hb hby at_147) rfl k) ?_
        refine Go.st (f' := (mkF m 151 #[iv p1, iv p2, iv p3, iv p4, iv p5, iv yy1, iv yy2, iv yy3, iv yy4, iv y9, iv y10, iv y11, iv y12, iv yy75, iv 0, iv yy3, .unset, .unset, .unset, .unset, .unset, .unset, .unset] [])) (fun _ k => XS.istore X0.here hx rfl (hb hby at_149) rfl (l' := #[iv p1, iv p2, iv p3, iv p4, iv p5, iv yy1, iv yy2, iv yy3, iv yy4, iv y9, iv y10, iv y11, iv y12, iv yy75, iv 0, iv yy3, .unset, .unset, .unset, .unset, .unset, .unset, .unset]) rfl k) ?_
        refine Go.st (f' := (mkF m 153 #[iv p1, iv p2, iv p3, iv p4, iv p5, iv yy1, iv yy2, iv yy3, iv yy4, iv y9, iv y10, iv y11, iv y12, iv yy75, iv 0, iv yy3, .unset, .unset, .unset, .unset, .unset, .unset, .unset] [(.int 0)])) (fun _ k => XS.iload X0.here hx rfl (hb hby at_151) rfl k) ?_
        refine Go.st (f' := (mkF m 161 #[iv p1, iv p2, iv p3, iv p4, iv p5, iv yy1, iv yy2, iv yy3, iv yy4, iv y9, iv y10, iv y11, iv y12, iv yy75, iv 0, iv yy3, .unset, .unset, .unset, .unset, .unset, .unset, .unset] [])) (fun _ k => XS.ifYes X0.here hx rfl (pc0 := 153) (pc' := 161) rfl (hb hby at_153) rfl (by decide) (by decide) (by decide) k) ?_
        refine Go.st (f' := (mkF m 163 #[iv p1, iv p2, iv p3, iv p4, iv p5, iv yy1, iv yy2, iv yy3, iv yy4, iv y9, iv y10, iv y11, iv y12, iv yy75, iv 0, iv yy3, .unset, .unset, .unset, .unset, .unset, .unset, .unset] [(.int yy4)])) (fun _ k => XS.iload X0.here hx rfl (hb hby at_161) rfl k) ?_
        refine Go.st (f' := (mkF m 165 #[iv p1, iv p2, iv p3, iv p4, iv p5, iv yy1, iv yy2, iv yy3, iv yy4, iv y9, iv y10, iv y11, iv y12, iv yy75, iv 0, iv yy3, iv yy4, .unset, .unset, .unset, .unset, .unset, .unset] [])) (fun _ k => XS.istore X0.here hx rfl (hb hby at_163) rfl (l' := #[iv p1, iv p2, iv p3, iv p4, iv p5, iv yy1, iv yy2, iv yy3, iv yy4, iv y9, iv y10, iv y11, iv y12, iv yy75, iv 0, iv yy3, iv yy4, .unset, .unset, .unset, .unset, .unset, .unset]) rfl k) ?_
        refine Go.st (f' := (mkF m 167 #[iv p1, iv p2, iv p3, iv p4, iv p5, iv yy1, iv yy2, iv yy3, iv yy4, iv y9, iv y10, iv y11, iv y12, iv yy75, iv 0, iv yy3, iv yy4, .unset, .unset, .unset, .unset, .unset, .unset] [(.int p5)])) (fun _ k => XS.iload X0.here hx rfl (hb hby at_165) rfl k) ?_
        refine Go.st (f' := (mkF m 169 #[iv p1, iv p2, iv p3, iv p4, iv p5, iv yy1, iv yy2, iv yy3, iv yy4, iv y9, iv y10, iv y11, iv y12, iv yy75, iv 0, iv yy3, iv yy4, .unset, .unset, .unset, .unset, .unset, .unset] [(.int 8), (.int p5)])) (fun _ k => XS.bipush X0.here hx rfl (hb hby at_167) k) ?_
        refine Go.st (f' := (mkF m 170 #[iv p1, iv p2, iv p3, iv p4, iv p5, iv yy1, iv yy2, iv yy3, iv yy4, iv y9, iv y10, iv y11, iv y12, iv yy75, iv 0, iv yy3, iv yy4, .unset, .unset, .unset, .unset, .unset, .unset] [(.int ((p5.toUInt32 >>> ((8 : Int32) &&& 31).toUInt32).toInt32))])) (fun _ k => XS.iushr X0.here hx rfl (hb hby at_169) rfl k) ?_
        refine Go.st (f' := (mkF m 171 #[iv p1, iv p2, iv p3, iv p4, iv p5, iv yy1, iv yy2, iv yy3, iv yy4, iv y9, iv y10, iv y11, iv y12, iv yy75, iv 0, iv yy3, iv yy4, .unset, .unset, .unset, .unset, .unset, .unset] [(.int 3), (.int ((p5.toUInt32 >>> ((8 : Int32) &&& 31).toUInt32).toInt32))])) (fun _ k => XS.iconst X0.here hx rfl (hb hby at_170) k) ?_
        refine Go.st (f' := (mkF m 172 #[iv p1, iv p2, iv p3, iv p4, iv p5, iv yy1, iv yy2, iv yy3, iv yy4, iv y9, iv y10, iv y11, iv y12, iv yy75, iv 0, iv yy3, iv yy4, .unset, .unset, .unset, .unset, .unset, .unset] [(.int (((p5.toUInt32 >>> ((8 : Int32) &&& 31).toUInt32).toInt32) &&& (3 : Int32)))])) (fun _ k => XS.iand X0.here hx rfl (hb hby at_171) rfl k) ?_
        obtain ⟨yy77, hyy77⟩ : ∃ z, z = (((p5.toUInt32 >>> ((8 : Int32) &&& 31).toUInt32).toInt32) &&& (3 : Int32)) := ⟨_, rfl⟩
        rw [← hyy77]
        refine Go.st (f' := (mkF m 174 #[iv p1, iv p2, iv p3, iv p4, iv p5, iv yy1, iv yy2, iv yy3, iv yy4, iv y9, iv y10, iv y11, iv y12, iv yy75, iv 0, iv yy3, iv yy4, iv yy77, .unset, .unset, .unset, .unset, .unset] [])) (fun _ k => XS.istore X0.here hx rfl (hb hby at_172) rfl (l' := #[iv p1, iv p2, iv p3, iv p4, iv p5, iv yy1, iv yy2, iv yy3, iv yy4, iv y9, iv y10, iv y11, iv y12, iv yy75, iv 0, iv yy3, iv yy4, iv yy77, .unset, .unset, .unset, .unset, .unset]) rfl k) ?_
        exact J y9 y10 y11 y12 yy75 (0 : Int32) yy3 yy4 yy77 hy9 hy10 (hyy75 ▸ own_r3 _) (hyy3 ▸ own_b _) (hyy4 ▸ own_b _)
      · refine Go.st (f' := (mkF m 130 #[iv p1, iv p2, iv p3, iv p4, iv p5, iv yy1, iv yy2, iv yy3, iv yy4, iv y9, iv y10, iv y11, iv y12, iv yy75, .unset, .unset, .unset, .unset, .unset, .unset, .unset, .unset, .unset] [])) (fun _ k => XS.ifNo X0.here hx rfl (hb hby at_127) rfl ((if0 _ _).trans (feq cd76).1) k) ?_
        refine Go.st (f' := (mkF m 131 #[iv p1, iv p2, iv p3, iv p4, iv p5, iv yy1, iv yy2, iv yy3, iv yy4, iv y9, iv y10, iv y11, iv y12, iv yy75, .unset, .unset, .unset, .unset, .unset, .unset, .unset, .unset, .unset] [(.int 1)])) (fun _ k => XS.iconst X0.here hx rfl (hb hby at_130) k) ?_
        refine Go.st (f' := (mkF m 135 #[iv p1, iv p2, iv p3, iv p4, iv p5, iv yy1, iv yy2, iv yy3, iv yy4, iv y9, iv y10, iv y11, iv y12, iv yy75, .unset, .unset, .unset, .unset, .unset, .unset, .unset, .unset, .unset] [(.int 1)])) (fun _ k => XS.goto X0.here hx rfl (pc0 := 131) (pc' := 135) rfl (hb hby at_131) (by decide) (by decide) k) ?_
        refine Go.st (f' := (mkF m 137 #[iv p1, iv p2, iv p3, iv p4, iv p5, iv yy1, iv yy2, iv yy3, iv yy4, iv y9, iv y10, iv y11, iv y12, iv yy75, iv 1, .unset, .unset, .unset, .unset, .unset, .unset, .unset, .unset] [])) (fun _ k => XS.istore X0.here hx rfl (hb hby at_135) rfl (l' := #[iv p1, iv p2, iv p3, iv p4, iv p5, iv yy1, iv yy2, iv yy3, iv yy4, iv y9, iv y10, iv y11, iv y12, iv yy75, iv 1, .unset, .unset, .unset, .unset, .unset, .unset, .unset, .unset]) rfl k) ?_
        refine Go.st (f' := (mkF m 139 #[iv p1, iv p2, iv p3, iv p4, iv p5, iv yy1, iv yy2, iv yy3, iv yy4, iv y9, iv y10, iv y11, iv y12, iv yy75, iv 1, .unset, .unset, .unset, .unset, .unset, .unset, .unset, .unset] [(.int 1)])) (fun _ k => XS.iload X0.here hx rfl (hb hby at_137) rfl k) ?_
        refine Go.st (f' := (mkF m 142 #[iv p1, iv p2, iv p3, iv p4, iv p5, iv yy1, iv yy2, iv yy3, iv yy4, iv y9, iv y10, iv y11, iv y12, iv yy75, iv 1, .unset, .unset, .unset, .unset, .unset, .unset, .unset, .unset] [])) (fun _ k => XS.ifNo X0.here hx rfl (hb hby at_139) rfl (by decide) k) ?_
        refine Go.st (f' := (mkF m 144 #[iv p1, iv p2, iv p3, iv p4, iv p5, iv yy1, iv yy2, iv yy3, iv yy4, iv y9, iv y10, iv y11, iv y12, iv yy75, iv 1, .unset, .unset, .unset, .unset, .unset, .unset, .unset, .unset] [(.int yy1)])) (fun _ k => XS.iload X0.here hx rfl (hb hby at_142) rfl k) ?_
        refine Go.st (f' := (mkF m 149 #[iv p1, iv p2, iv p3, iv p4, iv p5, iv yy1, iv yy2, iv yy3, iv yy4, iv y9, iv y10, iv y11, iv y12, iv yy75, iv 1, .unset, .unset, .unset, .unset, .unset, .unset, .unset, .unset] [(.int yy1)])) (fun _ k => XS.goto X0.here hx rfl (pc0 := 144) (pc' := 149) rfl (hb hby at_144) (by decide) (by decide) k) ?_
        refine Go.st (f' := (mkF m 151 #[iv p1, iv p2, iv p3, iv p4, iv p5, iv yy1, iv yy2, iv yy3, iv yy4, iv y9, iv y10, iv y11, iv y12, iv yy75, iv 1, iv yy1, .unset, .unset, .unset, .unset, .unset, .unset, .unset] [])) (fun _ k => XS.istore X0.here hx rfl (hb hby at_149) rfl (l' := #[iv p1, iv p2, iv p3, iv p4, iv p5, iv yy1, iv yy2, iv yy3, iv yy4, iv y9, iv y10, iv y11, iv y12, iv yy75, iv 1, iv yy1, .unset, .unset, .unset, .unset, .unset, .unset, .unset]) rfl k) ?_
        refine Go.st (f' := (mkF m 153 #[iv p1, iv p2, iv p3, iv p4, iv p5, iv yy1, iv yy2, iv yy3, iv yy4, iv y9, iv y10, iv y11, iv y12, iv yy75, iv 1, iv yy1, .unset, .unset, .unset, .unset, .unset, .unset, .unset] [(.int 1)])) (fun _ k => XS.iload X0.here hx rfl (hb hby at_151) rfl k) ?_
        refine Go.st (f' := (mkF m 156 #[iv p1, iv p2, iv p3, iv p4, iv p5, iv yy1, iv yy2, iv yy3, iv yy4, iv y9, iv y10, iv y11, iv y12, iv yy75, iv 1, iv yy1, .unset, .unset, .unset, .unset, .unset, .unset, .unset] [])) (fun _ k => XS.ifNo X0.here hx rfl (hb hby at_153) rfl (by decide) k) ?_
        refine Go.st (f' := (mkF m 158 #[iv p1, iv p2, iv p3, iv p4, iv p5, iv yy1, iv yy2, iv yy3, iv yy4, iv y9, iv y10, iv y11, iv y12, iv yy75, iv 1, iv yy1, .unset, .unset, .unset, .unset, .unset, .unset, .unset] [(.int yy2)])) (fun _ k => XS.iload X0.here hx rfl (hb hby at_156) rfl k) ?_
        refine Go.st (f' := (mkF m 163 #[iv p1, iv p2, iv p3, iv p4, iv p5, iv yy1, iv yy2, iv yy3, iv yy4, iv y9, iv y10, iv y11, iv y12, iv yy75, iv 1, iv yy1, .unset, .unset, .unset, .unset, .unset, .unset, .unset] [(.int yy2)])) (fun _ k => XS.goto X0.here hx rfl (pc0 := 158) (pc' := 163) rfl (hb hby at_158) (by decide) (by decide) k) ?_
        refine Go.st (f' := (mkF m 165 #[iv p1, iv p2, iv p3, iv p4, iv p5, iv yy1, iv yy2, iv yy3, iv yy4, iv y9, iv y10, iv y11, iv y12, iv yy75, iv 1, iv yy1, iv yy2, .unset, .unset, .unset, .unset, .unset, .unset] [])) (fun _ k => XS.istore X0.here hx rfl (hb hby at_163) rfl (l' := #[iv p1, iv p2, iv p3, iv p4, iv p5, iv yy1, iv yy2, iv yy3, iv yy4, iv y9, iv y10, iv y11, iv y12, iv yy75, iv 1, iv yy1, iv yy2, .unset, .unset, .unset, .unset, .unset, .unset]) rfl k) ?_
        refine Go.st (f' := (mkF m 167 #[iv p1, iv p2, iv p3, iv p4, iv p5, iv yy1, iv yy2, iv yy3, iv yy4, iv y9, iv y10, iv y11, iv y12, iv yy75, iv 1, iv yy1, iv yy2, .unset, .unset, .unset, .unset, .unset, .unset] [(.int p5)])) (fun _ k => XS.iload X0.here hx rfl (hb hby at_165) rfl k) ?_
        refine Go.st (f' := (mkF m 169 #[iv p1, iv p2, iv p3, iv p4, iv p5, iv yy1, iv yy2, iv yy3, iv yy4, iv y9, iv y10, iv y11, iv y12, iv yy75, iv 1, iv yy1, iv yy2, .unset, .unset, .unset, .unset, .unset, .unset] [(.int 8), (.int p5)])) (fun _ k => XS.bipush X0.here hx rfl (hb hby at_167) k) ?_
        refine Go.st (f' := (mkF m 170 #[iv p1, iv p2, iv p3, iv p4, iv p5, iv yy1, iv yy2, iv yy3, iv yy4, iv y9, iv y10, iv y11, iv y12, iv yy75, iv 1, iv yy1, iv yy2, .unset, .unset, .unset, .unset, .unset, .unset] [(.int ((p5.toUInt32 >>> ((8 : Int32) &&& 31).toUInt32).toInt32))])) (fun _ k => XS.iushr X0.here hx rfl (hb hby at_169) rfl k) ?_
        refine Go.st (f' := (mkF m 171 #[iv p1, iv p2, iv p3, iv p4, iv p5, iv yy1, iv yy2, iv yy3, iv yy4, iv y9, iv y10, iv y11, iv y12, iv yy75, iv 1, iv yy1, iv yy2, .unset, .unset, .unset, .unset, .unset, .unset] [(.int 3), (.int ((p5.toUInt32 >>> ((8 : Int32) &&& 31).toUInt32).toInt32))])) (fun _ k => XS.iconst X0.here hx rfl (hb hby at_170) k) ?_
        refine Go.st (f' := (mkF m 172 #[iv p1, iv p2, iv p3, iv p4, iv p5, iv yy1, iv yy2, iv yy3, iv yy4, iv y9, iv y10, iv y11, iv y12, iv yy75, iv 1, iv yy1, iv yy2, .unset, .unset, .unset, .unset, .unset, .unset] [(.int (((p5.toUInt32 >>> ((8 : Int32) &&& 31).toUInt32).toInt32) &&& (3 : Int32)))])) (fun _ k => XS.iand X0.here hx rfl (hb hby at_171) rfl k) ?_
        obtain ⟨yy78, hyy78⟩ : ∃ z, z = (((p5.toUInt32 >>> ((8 : Int32) &&& 31).toUInt32).toInt32) &&& (3 : Int32)) := ⟨_, rfl⟩
        rw [← hyy78]
        refine Go.st (f' := (mkF m 174 #[iv p1, iv p2, iv p3, iv p4, iv p5, iv yy1, iv yy2, iv yy3, iv yy4, iv y9, iv y10, iv y11, iv y12, iv yy75, iv 1, iv yy1, iv yy2, iv yy78, .unset, .unset, .unset, .unset, .unset] [])) (fun _ k => XS.istore X0.here hx rfl (hb hby at_172) rfl (l' := #[iv p1, iv p2, iv p3, iv p4, iv p5, iv yy1, iv yy2, iv yy3, iv yy4, iv y9, iv y10, iv y11, iv y12, iv yy75, iv 1, iv yy1, iv yy2, iv yy78, .unset, .unset, .unset, .unset, .unset]) rfl k) ?_
        exact J y9 y10 y11 y12 yy75 (1 : Int32) yy1 yy2 yy78 hy9 hy10 (hyy75 ▸ own_r3 _) (hyy1 ▸ own_b _) (hyy2 ▸ own_b _)
    · refine Go.st (f' := (mkF m 107 #[iv p1, iv p2, iv p3, iv p4, iv p5, iv yy1, iv yy2, iv yy3, iv yy4, iv y9, iv y10, iv y11, iv y12, .unset, .unset, .unset, .unset, .unset, .unset, .unset, .unset, .unset, .unset] [])) (fun _ k => XS.ifNo X0.here hx rfl (hb hby at_104) rfl ((if0 _ _).trans (feq cd74).1) k) ?_
      refine Go.st (f' := (mkF m 109 #[iv p1, iv p2, iv p3, iv p4, iv p5, iv yy1, iv yy2, iv yy3, iv yy4, iv y9, iv y10, iv y11, iv y12, .unset, .unset, .unset, .unset, .unset, .unset, .unset, .unset, .unset, .unset] [(.int y10)])) (fun _ k => XS.iload X0.here hx rfl (hb hby at_107) rfl k) ?_
      refine Go.st (f' := (mkF m 118 #[iv p1, iv p2, iv p3, iv p4, iv p5, iv yy1, iv yy2, iv yy3, iv yy4, iv y9, iv y10, iv y11, iv y12, .unset, .unset, .unset, .unset, .unset, .unset, .unset, .unset, .unset, .unset] [(.int y10)])) (fun _ k => XS.goto X0.here hx rfl (pc0 := 109) (pc' := 118) rfl (hb hby at_109) (by decide) (by decide) k) ?_
      refine Go.st (f' := (mkF m 120 #[iv p1, iv p2, iv p3, iv p4, iv p5, iv yy1, iv yy2, iv yy3, iv yy4, iv y9, iv y10, iv y11, iv y12, iv y10, .unset, .unset, .unset, .unset, .unset, .unset, .unset, .unset, .unset] [])) (fun _ k => XS.istore X0.here hx rfl (hb hby at_118) rfl (l' := #[iv p1, iv p2, iv p3, iv p4, iv p5, iv yy1, iv yy2, iv yy3, iv yy4, iv y9, iv y10, iv y11, iv y12, iv y10, .unset, .unset, .unset, .unset, .unset, .unset, .unset, .unset, .unset]) rfl k) ?_
      refine Go.st (f' := (mkF m 122 #[iv p1, iv p2, iv p3, iv p4, iv p5, iv yy1, iv yy2, iv yy3, iv yy4, iv y9, iv y10, iv y11, iv y12, iv y10, .unset, .unset, .unset, .unset, .unset, .unset, .unset, .unset, .unset] [(.int p5)])) (fun _ k => XS.iload X0.here hx rfl (hb hby at_120) rfl k) ?_
      refine Go.st (f' := (mkF m 124 #[iv p1, iv p2, iv p3, iv p4, iv p5, iv yy1, iv yy2, iv yy3, iv yy4, iv y9, iv y10, iv y11, iv y12, iv y10, .unset, .unset, .unset, .unset, .unset, .unset, .unset, .unset, .unset] [(.int 7), (.int p5)])) (fun _ k => XS.bipush X0.here hx rfl (hb hby at_122) k) ?_
      refine Go.st (f' := (mkF m 125 #[iv p1, iv p2, iv p3, iv p4, iv p5, iv yy1, iv yy2, iv yy3, iv yy4, iv y9, iv y10, iv y11, iv y12, iv y10, .unset, .unset, .unset, .unset, .unset, .unset, .unset, .unset, .unset] [(.int ((p5.toUInt32 >>> ((7 : Int32) &&& 31).toUInt32).toInt32))])) (fun _ k => XS.iushr X0.here hx rfl (hb hby at_124) rfl k) ?_
      refine Go.st (f' := (mkF m 126 #[iv p1, iv p2, iv p3, iv p4, iv p5, iv yy1, iv yy2, iv yy3, iv yy4, iv y9, iv y10, iv y11, iv y12, iv y10, .unset, .unset, .unset, .unset, .unset, .unset, .unset, .unset, .unset] [(.int 1), (.int ((p5.toUInt32 >>> ((7 : Int32) &&& 31).toUInt32).toInt32))])) (fun _ k => XS.iconst X0.here hx rfl (hb hby at_125) k) ?_
      refine Go.st (f' := (mkF m 127 #[iv p1, iv p2, iv p3, iv p4, iv p5, iv yy1, iv yy2, iv yy3, iv yy4, iv y9, iv y10, iv y11, iv y12, iv y10, .unset, .unset, .unset, .unset, .unset, .unset, .unset, .unset, .unset] [(.int (((p5.toUInt32 >>> ((7 : Int32) &&& 31).toUInt32).toInt32) &&& (1 : Int32)))])) (fun _ k => XS.iand X0.here hx rfl (hb hby at_126) rfl k) ?_
      by_cases cd79 : (((p5.toUInt32 >>> ((7 : Int32) &&& 31).toUInt32).toInt32) &&& (1 : Int32)) = (0 : Int32)
      · refine Go.st (f' := (mkF m 134 #[iv p1, iv p2, iv p3, iv p4, iv p5, iv yy1, iv yy2, iv yy3, iv yy4, iv y9, iv y10, iv y11, iv y12, iv y10, .unset, .unset, .unset, .unset, .unset, .unset, .unset, .unset, .unset] [])) (fun _ k => XS.ifYes X0.here hx rfl (pc0 := 127) (pc' := 134) rfl (hb hby at_127) rfl ((if0 _ _).trans (teq cd79).1) (by decide) (by decide) k) ?_
        refine Go.st (f' := (mkF m 135 #[iv p1, iv p2, iv p3, iv p4, iv p5, iv yy1, iv yy2, iv yy3, iv yy4, iv y9, iv y10, iv y11, iv y12, iv y10, .unset, .unset, .unset, .unset, .unset, .unset, .unset, .unset, .unset] [(.int 0)])) (fun _ k => XS.iconst X0.here hx rfl (hb hby at_134) k) ?_
        refine Go.st (f' := (mkF m 137 #[iv p1, iv p2, iv p3, iv p4, iv p5, iv yy1, iv yy2, iv yy3, iv yy4, iv y9, iv y10, iv y11, iv y12, iv y10, iv 0, .unset, .unset, .unset, .unset, .unset, .unset, .unset, .unset] [])) (fun _ k => XS.istore X0.here hx rfl (hb hby at_135) rfl (l' := #[iv p1, iv p2, iv p3, iv p4, iv p5, iv yy1, iv yy2, iv yy3, iv yy4, iv y9, iv y10, iv y11, iv y12, iv y10, iv 0, .unset, .unset, .unset, .unset, .unset, .unset, .unset, .unset]) rfl k) ?_
        refine Go.st (f' := (mkF m 139 #[iv p1, iv p2, iv p3, iv p4, iv p5, iv yy1, iv yy2, iv yy3, iv yy4, iv y9, iv y10, iv y11, iv y12, iv y10, iv 0, .unset, .unset, .unset, .unset, .unset, .unset, .unset, .unset] [(.int 0)])) (fun _ k => XS.iload X0.here hx rfl (hb hby at_137) rfl k) ?_
        refine Go.st (f' := (mkF m 147 #[iv p1, iv p2, iv p3, iv p4, iv p5, iv yy1, iv yy2, iv yy3, iv yy4, iv y9, iv y10, iv y11, iv y12, iv y10, iv 0, .unset, .unset, .unset, .unset, .unset, .unset, .unset, .unset] [])) (fun _ k => XS.ifYes X0.here hx rfl (pc0 := 139) (pc' := 147) rfl (hb hby at_139) rfl (by decide) (by decide) (by decide) k) ?_
        refine Go.st (f' := (mkF m 149 #[iv p1, iv p2, iv p3, iv p4, iv p5, iv yy1, iv yy2, iv yy3, iv yy4, iv y9, iv y10, iv y11, iv y12, iv y10, iv 0, .unset, .unset, .unset, .unset, .unset, .unset, .unset, .unset] [(.int yy3)])) (fun _ k => XS.iload X0.here hx rfl (hb hby at_147) rfl k) ?_
        refine Go.st (f' := (mkF m 151 #[iv p1, iv p2, iv p3, iv p4, iv p5, iv yy1, iv yy2, iv yy3, iv yy4, iv y9, iv y10, iv y11, iv y12, iv y10, iv 0, iv yy3, .unset, .unset, .unset, .unset, .unset, .unset, .unset] [])) (fun _ k => XS.istore X0.here hx rfl (hb hby at_149) rfl (l' := #[iv p1, iv p2, iv p3, iv p4, iv p5, iv yy1, iv yy2, iv yy3, iv yy4, iv y9, iv y10, iv y11, iv y12, iv y10, iv 0, iv yy3, .unset, .unset, .unset, .unset, .unset, .unset, .unset]) rfl k) ?_
        refine Go.st (f' := (mkF m 153 #[iv p1, iv p2, iv p3, iv p4, iv p5, iv yy1, iv yy2, iv yy3, iv yy4, iv y9, iv y10, iv y11, iv y12, iv y10, iv 0, iv yy3, .unset, .unset, .unset, .unset, .unset, .unset, .unset] [(.int 0)])) (fun _ k => XS.iload X0.here hx rfl (hb hby at_151) rfl k) ?_
        refine Go.st (f' := (mkF m 161 #[iv p1, iv p2, iv p3, iv p4, iv p5, iv yy1, iv yy2, iv yy3, iv yy4, iv y9, iv y10, iv y11, iv y12, iv y10, iv 0, iv yy3, .unset, .unset, .unset, .unset, .unset, .unset, .unset] [])) (fun _ k => XS.ifYes X0.here hx rfl (pc0 := 153) (pc' := 161) rfl (hb hby at_153) rfl (by decide) (by decide) (by decide) k) ?_
        refine Go.st (f' := (mkF m 163 #[iv p1, iv p2, iv p3, iv p4, iv p5, iv yy1, iv yy2, iv yy3, iv yy4, iv y9, iv y10, iv y11, iv y12, iv y10, iv 0, iv yy3, .unset, .unset, .unset, .unset, .unset, .unset, .unset] [(.int yy4)])) (fun _ k => XS.iload X0.here hx rfl (hb hby at_161) rfl k) ?_
        refine Go.st (f' := (mkF m 165 #[iv p1, iv p2, iv p3, iv p4, iv p5, iv yy1, iv yy2, iv yy3, iv yy4, iv y9, iv y10, iv y11, iv y12, iv y10, iv 0, iv yy3, iv yy4, .unset, .unset, .unset, .unset, .unset, .unset] [])) (fun _ k => XS.istore X0.here hx rfl (hb hby at_163) rfl (l' := #[iv p1, iv p2, iv p3, iv p4, iv p5, iv yy1, iv yy2, iv yy3, iv yy4, iv y9, iv y10, iv y11, iv y12, iv y10, iv 0, iv yy3, iv yy4, .unset, .unset, .unset, .unset, .unset, .unset]) rfl k) ?_
        refine Go.st (f' := (mkF m 167 #[iv p1, iv p2, iv p3, iv p4, iv p5, iv yy1, iv yy2, iv yy3, iv yy4, iv y9, iv y10, iv y11, iv y12, iv y10, iv 0, iv yy3, iv yy4, .unset, .unset, .unset, .unset, .unset, .unset] [(.int p5)])) (fun _ k => XS.iload X0.here hx rfl (hb hby at_165) rfl k) ?_
        refine Go.st (f' := (mkF m 169 #[iv p1, iv p2, iv p3, iv p4, iv p5, iv yy1, iv yy2, iv yy3, iv yy4, iv y9, iv y10, iv y11, iv y12, iv y10, iv 0, iv yy3, iv yy4, .unset, .unset, .unset, .unset, .unset, .unset] [(.int 8), (.int p5)])) (fun _ k => XS.bipush X0.here hx rfl (hb hby at_167) k) ?_
        refine Go.st (f' := (mkF m 170 #[iv p1, iv p2, iv p3, iv p4, iv p5, iv yy1, iv yy2, iv yy3, iv yy4, iv y9, iv y10, iv y11, iv y12, iv y10, iv 0, iv yy3, iv yy4, .unset, .unset, .unset, .unset, .unset, .unset] [(.int ((p5.toUInt32 >>> ((8 : Int32) &&& 31).toUInt32).toInt32))])) (fun _ k => XS.iushr X0.here hx rfl (hb hby at_169) rfl k) ?_
        refine Go.st (f' := (mkF m 171 #[iv p1, iv p2, iv p3, iv p4, iv p5, iv yy1, iv yy2, iv yy3, iv yy4, iv y9, iv y10, iv y11, iv y12, iv y10, iv 0, iv yy3, iv yy4, .unset, .unset, .unset, .unset, .unset, .unset] [(.int 3), (.int ((p5.toUInt32 >>> ((8 : Int32) &&& 31).toUInt32).toInt32))])) (fun _ k => XS.iconst X0.here hx rfl (hb hby at_170) k) ?_
        refine Go.st (f' := (mkF m 172 #[iv p1, iv p2, iv p3, iv p4, iv p5, iv yy1, iv yy2, iv yy3, iv yy4, iv y9, iv y10, iv y11, iv y12, iv y10, iv 0, iv yy3, iv yy4, .unset, .unset, .unset, .unset, .unset, .unset] [(.int (((p5.toUInt32 >>> ((8 : Int32) &&& 31).toUInt32).toInt32) &&& (3 : Int32)))])) (fun _ k => XS.iand X0.here hx rfl (hb hby at_171) rfl k) ?_
        obtain ⟨yy80, hyy80⟩ : ∃ z, z = (((p5.toUInt32 >>> ((8 : Int32) &&& 31).toUInt32).toInt32) &&& (3 : Int32)) := ⟨_, rfl⟩
        rw [← hyy80]
        refine Go.st (f' := (mkF m 174 #[iv p1, iv p2, iv p3, iv p4, iv p5, iv yy1, iv yy2, iv yy3, iv yy4, iv y9, iv y10, iv y11, iv y12, iv y10, iv 0, iv yy3, iv yy4, iv yy80, .unset, .unset, .unset, .unset, .unset] [])) (fun _ k => XS.istore X0.here hx rfl (hb hby at_172) rfl (l' := #[iv p1, iv p2, iv p3, iv p4, iv p5, iv yy1, iv yy2, iv yy3, iv yy4, iv y9, iv y10, iv y11, iv y12, iv y10, iv 0, iv yy3, iv yy4, iv yy80, .unset, .unset, .unset, .unset, .unset]) rfl k) ?_
        exact J y9 y10 y11 y12 y10 (0 : Int32) yy3 yy4 yy80 hy9 hy10 hy10 (hyy3 ▸ own_b _) (hyy4 ▸ own_b _)
      · refine Go.st (f' := (mkF m 130 #[iv p1, iv p2, iv p3, iv p4, iv p5, iv yy1, iv yy2, iv yy3, iv yy4, iv y9, iv y10, iv y11, iv y12, iv y10, .unset, .unset, .unset, .unset, .unset, .unset, .unset, .unset, .unset] [])) (fun _ k => XS.ifNo X0.here hx rfl (hb hby at_127) rfl ((if0 _ _).trans (feq cd79).1) k) ?_
        refine Go.st (f' := (mkF m 131 #[iv p1, iv p2, iv p3, iv p4, iv p5, iv yy1, iv yy2, iv yy3, iv yy4, iv y9, iv y10, iv y11, iv y12, iv y10, .unset, .unset, .unset, .unset, .unset, .unset, .unset, .unset, .unset] [(.int 1)])) (fun _ k => XS.iconst X0.here hx rfl (hb hby at_130) k) ?_
        refine Go.st (f' := (mkF m 135 #[iv p1, iv p2, iv p3, iv p4, iv p5, iv yy1, iv yy2, iv yy3, iv yy4, iv y9, iv y10, iv y11, iv y12, iv y10, .unset, .unset, .unset, .unset, .unset, .unset, .unset, .unset, .unset] [(.int 1)])) (fun _ k => XS.goto X0.here hx rfl (pc0 := 131) (pc' := 135) rfl (hb hby at_131) (by decide) (by decide) k) ?_
        refine Go.st (f' := (mkF m 137 #[iv p1, iv p2, iv p3, iv p4, iv p5, iv yy1, iv yy2, iv yy3, iv yy4, iv y9, iv y10, iv y11, iv y12, iv y10, iv 1, .unset, .unset, .unset, .unset, .unset, .unset, .unset, .unset] [])) (fun _ k => XS.istore X0.here hx rfl (hb hby at_135) rfl (l' := #[iv p1, iv p2, iv p3, iv p4, iv p5, iv yy1, iv yy2, iv yy3, iv yy4, iv y9, iv y10, iv y11, iv y12, iv y10, iv 1, .unset, .unset, .unset, .unset, .unset, .unset, .unset, .unset]) rfl k) ?_
        refine Go.st (f' := (mkF m 139 #[iv p1, iv p2, iv p3, iv p4, iv p5, iv yy1, iv yy2, iv yy3, iv yy4, iv y9, iv y10, iv y11, iv y12, iv y10, iv 1, .unset, .unset, .unset, .unset, .unset, .unset, .unset, .unset] [(.int 1)])) (fun _ k => XS.iload X0.here hx rfl (hb hby at_137) rfl k) ?_
        refine Go.st (f' := (mkF m 142 #[iv p1, iv p2, iv p3, iv p4, iv p5, iv yy1, iv yy2, iv yy3, iv yy4, iv y9, iv y10, iv y11, iv y12, iv y10, iv 1, .unset, .unset, .unset, .unset, .unset, .unset, .unset, .unset] [])) (fun _ k => XS.ifNo X0.here hx rfl (hb hby at_139) rfl (by decide) k) ?_
        refine Go.st (f' := (mkF m 144 #[iv p1, iv p2, iv p3, iv p4, iv p5, iv yy1, iv yy2, iv yy3, iv yy4, iv y9, iv y10, iv y11, iv y12, iv y10, iv 1, .unset, .unset, .unset, .unset, .unset, .unset, .unset, .unset] [(.int yy1)])) (fun _ k => XS.iload X0.here hx rfl (hb hby at_142) rfl k) ?_
        refine Go.st (f' := (mkF m 149 #[iv p1, iv p2, iv p3, iv p4, iv p5, iv yy1, iv yy2, iv yy3, iv yy4, iv y9, iv y10, iv y11, iv y12, iv y10, iv 1, .unset, .unset, .unset, .unset, .unset, .unset, .unset, .unset] [(.int yy1)])) (fun _ k => XS.goto X0.here hx rfl (pc0 := 144) (pc' := 149) rfl (hb hby at_144) (by decide) (by decide) k) ?_
        refine Go.st (f' := (mkF m 151 #[iv p1, iv p2, iv p3, iv p4, iv p5, iv yy1, iv yy2, iv yy3, iv yy4, iv y9, iv y10, iv y11, iv y12, iv y10, iv 1, iv yy1, .unset, .unset, .unset, .unset, .unset, .unset, .unset] [])) (fun _ k => XS.istore X0.here hx rfl (hb hby at_149) rfl (l' := #[iv p1, iv p2, iv p3, iv p4, iv p5, iv yy1, iv yy2, iv yy3, iv yy4, iv y9, iv y10, iv y11, iv y12, iv y10, iv 1, iv yy1, .unset, .unset, .unset, .unset, .unset, .unset, .unset]) rfl k) ?_
        refine Go.st (f' := (mkF m 153 #[iv p1, iv p2, iv p3, iv p4, iv p5, iv yy1, iv yy2, iv yy3, iv yy4, iv y9, iv y10, iv y11, iv y12, iv y10, iv 1, iv yy1, .unset, .unset, .unset, .unset, .unset, .unset, .unset] [(.int 1)])) (fun _ k => XS.iload X0.here hx rfl (hb hby at_151) rfl k) ?_
        refine Go.st (f' := (mkF m 156 #[iv p1, iv p2, iv p3, iv p4, iv p5, iv yy1, iv yy2, iv yy3, iv yy4, iv y9, iv y10, iv y11, iv y12, iv y10, iv 1, iv yy1, .unset, .unset, .unset, .unset, .unset, .unset, .unset] [])) (fun _ k => XS.ifNo X0.here hx rfl (hb hby at_153) rfl (by decide) k) ?_
        refine Go.st (f' := (mkF m 158 #[iv p1, iv p2, iv p3, iv p4, iv p5, iv yy1, iv yy2, iv yy3, iv yy4, iv y9, iv y10, iv y11, iv y12, iv y10, iv 1, iv yy1, .unset, .unset, .unset, .unset, .unset, .unset, .unset] [(.int yy2)])) (fun _ k => XS.iload X0.here hx rfl (hb hby at_156) rfl k) ?_
        refine Go.st (f' := (mkF m 163 #[iv p1, iv p2, iv p3, iv p4, iv p5, iv yy1, iv yy2, iv yy3, iv yy4, iv y9, iv y10, iv y11, iv y12, iv y10, iv 1, iv yy1, .unset, .unset, .unset, .unset, .unset, .unset, .unset] [(.int yy2)])) (fun _ k => XS.goto X0.here hx rfl (pc0 := 158) (pc' := 163) rfl (hb hby at_158) (by decide) (by decide) k) ?_
        refine Go.st (f' := (mkF m 165 #[iv p1, iv p2, iv p3, iv p4, iv p5, iv yy1, iv yy2, iv yy3, iv yy4, iv y9, iv y10, iv y11, iv y12, iv y10, iv 1, iv yy1, iv yy2, .unset, .unset, .unset, .unset, .unset, .unset] [])) (fun _ k => XS.istore X0.here hx rfl (hb hby at_163) rfl (l' := #[iv p1, iv p2, iv p3, iv p4, iv p5, iv yy1, iv yy2, iv yy3, iv yy4, iv y9, iv y10, iv y11, iv y12, iv y10, iv 1, iv yy1, iv yy2, .unset, .unset, .unset, .unset, .unset, .unset]) rfl k) ?_
        refine Go.st (f' := (mkF m 167 #[iv p1, iv p2, iv p3, iv p4, iv p5, iv yy1, iv yy2, iv yy3, iv yy4, iv y9, iv y10, iv y11, iv y12, iv y10, iv 1, iv yy1, iv yy2, .unset, .unset, .unset, .unset, .unset, .unset] [(.int p5)])) (fun _ k => XS.iload X0.here hx rfl (hb hby at_165) rfl k) ?_
        refine Go.st (f' := (mkF m 169 #[iv p1, iv p2, iv p3, iv p4, iv p5, iv yy1, iv yy2, iv yy3, iv yy4, iv y9, iv y10, iv y11, iv y12, iv y10, iv 1, iv yy1, iv yy2, .unset, .unset, .unset, .unset, .unset, .unset] [(.int 8), (.int p5)])) (fun _ k => XS.bipush X0.here hx rfl (hb hby at_167) k) ?_
        refine Go.st (f' := (mkF m 170 #[iv p1, iv p2, iv p3, iv p4, iv p5, iv yy1, iv yy2, iv yy3, iv yy4, iv y9, iv y10, iv y11, iv y12, iv y10, iv 1, iv yy1, iv yy2, .unset, .unset, .unset, .unset, .unset, .unset] [(.int ((p5.toUInt32 >>> ((8 : Int32) &&& 31).toUInt32).toInt32))])) (fun _ k => XS.iushr X0.here hx rfl (hb hby at_169) rfl k) ?_
        refine Go.st (f' := (mkF m 171 #[iv p1, iv p2, iv p3, iv p4, iv p5, iv yy1, iv yy2, iv yy3, iv yy4, iv y9, iv y10, iv y11, iv y12, iv y10, iv 1, iv yy1, iv yy2, .unset, .unset, .unset, .unset, .unset, .unset] [(.int 3), (.int ((p5.toUInt32 >>> ((8 : Int32) &&& 31).toUInt32).toInt32))])) (fun _ k => XS.iconst X0.here hx rfl (hb hby at_170) k) ?_
        refine Go.st (f' := (mkF m 172 #[iv p1, iv p2, iv p3, iv p4, iv p5, iv yy1, iv yy2, iv yy3, iv yy4, iv y9, iv y10, iv y11, iv y12, iv y10, iv 1, iv yy1, iv yy2, .unset, .unset, .unset, .unset, .unset, .unset] [(.int (((p5.toUInt32 >>> ((8 : Int32) &&& 31).toUInt32).toInt32) &&& (3 : Int32)))])) (fun _ k => XS.iand X0.here hx rfl (hb hby at_171) rfl k) ?_
        obtain ⟨yy81, hyy81⟩ : ∃ z, z = (((p5.toUInt32 >>> ((8 : Int32) &&& 31).toUInt32).toInt32) &&& (3 : Int32)) := ⟨_, rfl⟩
        rw [← hyy81]
        refine Go.st (f' := (mkF m 174 #[iv p1, iv p2, iv p3, iv p4, iv p5, iv yy1, iv yy2, iv yy3, iv yy4, iv y9, iv y10, iv y11, iv y12, iv y10, iv 1, iv yy1, iv yy2, iv yy81, .unset, .unset, .unset, .unset, .unset] [])) (fun _ k => XS.istore X0.here hx rfl (hb hby at_172) rfl (l' := #[iv p1, iv p2, iv p3, iv p4, iv p5, iv yy1, iv yy2, iv yy3, iv yy4, iv y9, iv y10, iv y11, iv y12, iv y10, iv 1, iv yy1, iv yy2, iv yy81, .unset, .unset, .unset, .unset, .unset]) rfl k) ?_
        exact J y9 y10 y11 y12 y10 (1 : Int32) yy1 yy2 yy81 hy9 hy10 hy10 (hyy1 ▸ own_b _) (hyy2 ▸ own_b _)
  by_cases cd82 : (p5 &&& (1 : Int32)) = (0 : Int32)
  · refine Go.st (f' := (mkF m 45 #[iv p1, iv p2, iv p3, iv p4, iv p5, iv yy1, iv yy2, iv yy3, iv yy4, .unset, .unset, .unset, .unset, .unset, .unset, .unset, .unset, .unset, .unset, .unset, .unset, .unset, .unset] [])) (fun _ k => XS.ifNo X0.here hx rfl (hb hby at_42) rfl ((if0 _ _).trans (teq cd82).2) k) ?_
    refine Go.st (f' := (mkF m 46 #[iv p1, iv p2, iv p3, iv p4, iv p5, iv yy1, iv yy2, iv yy3, iv yy4, .unset, .unset, .unset, .unset, .unset, .unset, .unset, .unset, .unset, .unset, .unset, .unset, .unset, .unset] [(.int 1)])) (fun _ k => XS.iconst X0.here hx rfl (hb hby at_45) k) ?_
    refine Go.st (f' := (mkF m 50 #[iv p1, iv p2, iv p3, iv p4, iv p5, iv yy1, iv yy2, iv yy3, iv yy4, .unset, .unset, .unset, .unset, .unset, .unset, .unset, .unset, .unset, .unset, .unset, .unset, .unset, .unset] [(.int 1)])) (fun _ k => XS.goto X0.here hx rfl (pc0 := 46) (pc' := 50) rfl (hb hby at_46) (by decide) (by decide) k) ?_
    refine Go.st (f' := (mkF m 52 #[iv p1, iv p2, iv p3, iv p4, iv p5, iv yy1, iv yy2, iv yy3, iv yy4, iv 1, .unset, .unset, .unset, .unset, .unset, .unset, .unset, .unset, .unset, .unset, .unset, .unset, .unset] [])) (fun _ k => XS.istore X0.here hx rfl (hb hby at_50) rfl (l' := #[iv p1, iv p2, iv p3, iv p4, iv p5, iv yy1, iv yy2, iv yy3, iv yy4, iv 1, .unset, .unset, .unset, .unset, .unset, .unset, .unset, .unset, .unset, .unset, .unset, .unset, .unset]) rfl k) ?_
    refine Go.st (f' := (mkF m 54 #[iv p1, iv p2, iv p3, iv p4, iv p5, iv yy1, iv yy2, iv yy3, iv yy4, iv 1, .unset, .unset, .unset, .unset, .unset, .unset, .unset, .unset, .unset, .unset, .unset, .unset, .unset] [(.int 1)])) (fun _ k => XS.iload X0.here hx rfl (hb hby at_52) rfl k) ?_
    refine Go.st (f' := (mkF m 57 #[iv p1, iv p2, iv p3, iv p4, iv p5, iv yy1, iv yy2, iv yy3, iv yy4, iv 1, .unset, .unset, .unset, .unset, .unset, .unset, .unset, .unset, .unset, .unset, .unset, .unset, .unset] [])) (fun _ k => XS.ifNo X0.here hx rfl (hb hby at_54) rfl (by decide) k) ?_
    refine Go.st (f' := (mkF m 58 #[iv p1, iv p2, iv p3, iv p4, iv p5, iv yy1, iv yy2, iv yy3, iv yy4, iv 1, .unset, .unset, .unset, .unset, .unset, .unset, .unset, .unset, .unset, .unset, .unset, .unset, .unset] [(.int 0)])) (fun _ k => XS.iconst X0.here hx rfl (hb hby at_57) k) ?_
    refine Go.st (f' := (mkF m 67 #[iv p1, iv p2, iv p3, iv p4, iv p5, iv yy1, iv yy2, iv yy3, iv yy4, iv 1, .unset, .unset, .unset, .unset, .unset, .unset, .unset, .unset, .unset, .unset, .unset, .unset, .unset] [(.int 0)])) (fun _ k => XS.goto X0.here hx rfl (pc0 := 58) (pc' := 67) rfl (hb hby at_58) (by decide) (by decide) k) ?_
    refine Go.st (f' := (mkF m 69 #[iv p1, iv p2, iv p3, iv p4, iv p5, iv yy1, iv yy2, iv yy3, iv yy4, iv 1, iv 0, .unset, .unset, .unset, .unset, .unset, .unset, .unset, .unset, .unset, .unset, .unset, .unset] [])) (fun _ k => XS.istore X0.here hx rfl (hb hby at_67) rfl (l' := #[iv p1, iv p2, iv p3, iv p4, iv p5, iv yy1, iv yy2, iv yy3, iv yy4, iv 1, iv 0, .unset, .unset, .unset, .unset, .unset, .unset, .unset, .unset, .unset, .unset, .unset, .unset]) rfl k) ?_
    refine Go.st (f' := (mkF m 71 #[iv p1, iv p2, iv p3, iv p4, iv p5, iv yy1, iv yy2, iv yy3, iv yy4, iv 1, iv 0, .unset, .unset, .unset, .unset, .unset, .unset, .unset, .unset, .unset, .unset, .unset, .unset] [(.int 1)])) (fun _ k => XS.iload X0.here hx rfl (hb hby at_69) rfl k) ?_
    refine Go.st (f' := (mkF m 74 #[iv p1, iv p2, iv p3, iv p4, iv p5, iv yy1, iv yy2, iv yy3, iv yy4, iv 1, iv 0, .unset, .unset, .unset, .unset, .unset, .unset, .unset, .unset, .unset, .unset, .unset, .unset] [])) (fun _ k => XS.ifNo X0.here hx rfl (hb hby at_71) rfl (by decide) k) ?_
    refine Go.st (f' := (mkF m 75 #[iv p1, iv p2, iv p3, iv p4, iv p5, iv yy1, iv yy2, iv yy3, iv yy4, iv 1, iv 0, .unset, .unset, .unset, .unset, .unset, .unset, .unset, .unset, .unset, .unset, .unset, .unset] [(.int 0)])) (fun _ k => XS.iconst X0.here hx rfl (hb hby at_74) k) ?_
    refine Go.st (f' := (mkF m 79 #[iv p1, iv p2, iv p3, iv p4, iv p5, iv yy1, iv yy2, iv yy3, iv yy4, iv 1, iv 0, .unset, .unset, .unset, .unset, .unset, .unset, .unset, .unset, .unset, .unset, .unset, .unset] [(.int 0)])) (fun _ k => XS.goto X0.here hx rfl (pc0 := 75) (pc' := 79) rfl (hb hby at_75) (by decide) (by decide) k) ?_
    refine Go.st (f' := (mkF m 81 #[iv p1, iv p2, iv p3, iv p4, iv p5, iv yy1, iv yy2, iv yy3, iv yy4, iv 1, iv 0, iv 0, .unset, .unset, .unset, .unset, .unset, .unset, .unset, .unset, .unset, .unset, .unset] [])) (fun _ k => XS.istore X0.here hx rfl (hb hby at_79) rfl (l' := #[iv p1, iv p2, iv p3, iv p4, iv p5, iv yy1, iv yy2, iv yy3, iv yy4, iv 1, iv 0, iv 0, .unset, .unset, .unset, .unset, .unset, .unset, .unset, .unset, .unset, .unset, .unset]) rfl k) ?_
    refine Go.st (f' := (mkF m 83 #[iv p1, iv p2, iv p3, iv p4, iv p5, iv yy1, iv yy2, iv yy3, iv yy4, iv 1, iv 0, iv 0, .unset, .unset, .unset, .unset, .unset, .unset, .unset, .unset, .unset, .unset, .unset] [(.int p5)])) (fun _ k => XS.iload X0.here hx rfl (hb hby at_81) rfl k) ?_
    refine Go.st (f' := (mkF m 84 #[iv p1, iv p2, iv p3, iv p4, iv p5, iv yy1, iv yy2, iv yy3, iv yy4, iv 1, iv 0, iv 0, .unset, .unset, .unset, .unset, .unset, .unset, .unset, .unset, .unset, .unset, .unset] [(.int 3), (.int p5)])) (fun _ k => XS.iconst X0.here hx rfl (hb hby at_83) k) ?_
    refine Go.st (f' := (mkF m 85 #[iv p1, iv p2, iv p3, iv p4, iv p5, iv yy1, iv yy2, iv yy3, iv yy4, iv 1, iv 0, iv 0, .unset, .unset, .unset, .unset, .unset, .unset, .unset, .unset, .unset, .unset, .unset] [(.int ((p5.toUInt32 >>> ((3 : Int32) &&& 31).toUInt32).toInt32))])) (fun _ k => XS.iushr X0.here hx rfl (hb hby at_84) rfl k) ?_
    refine Go.st (f' := (mkF m 86 #[iv p1, iv p2, iv p3, iv p4, iv p5, iv yy1, iv yy2, iv yy3, iv yy4, iv 1, iv 0, iv 0, .unset, .unset, .unset, .unset, .unset, .unset, .unset, .unset, .unset, .unset, .unset] [(.int 1), (.int ((p5.toUInt32 >>> ((3 : Int32) &&& 31).toUInt32).toInt32))])) (fun _ k => XS.iconst X0.here hx rfl (hb hby at_85) k) ?_
    refine Go.st (f' := (mkF m 87 #[iv p1, iv p2, iv p3, iv p4, iv p5, iv yy1, iv yy2, iv yy3, iv yy4, iv 1, iv 0, iv 0, .unset, .unset, .unset, .unset, .unset, .unset, .unset, .unset, .unset, .unset, .unset] [(.int (((p5.toUInt32 >>> ((3 : Int32) &&& 31).toUInt32).toInt32) &&& (1 : Int32)))])) (fun _ k => XS.iand X0.here hx rfl (hb hby at_86) rfl k) ?_
    by_cases cd83 : (((p5.toUInt32 >>> ((3 : Int32) &&& 31).toUInt32).toInt32) &&& (1 : Int32)) = (0 : Int32)
    · refine Go.st (f' := (mkF m 95 #[iv p1, iv p2, iv p3, iv p4, iv p5, iv yy1, iv yy2, iv yy3, iv yy4, iv 1, iv 0, iv 0, .unset, .unset, .unset, .unset, .unset, .unset, .unset, .unset, .unset, .unset, .unset] [])) (fun _ k => XS.ifYes X0.here hx rfl (pc0 := 87) (pc' := 95) rfl (hb hby at_87) rfl ((if0 _ _).trans (teq cd83).1) (by decide) (by decide) k) ?_
      refine Go.st (f' := (mkF m 96 #[iv p1, iv p2, iv p3, iv p4, iv p5, iv yy1, iv yy2, iv yy3, iv yy4, iv 1, iv 0, iv 0, .unset, .unset, .unset, .unset, .unset, .unset, .unset, .unset, .unset, .unset, .unset] [(.int p2)])) (fun _ k => XS.iloadN X0.here hx rfl (hb hby at_95) rfl k) ?_
      refine Go.st (f' := (mkF m 98 #[iv p1, iv p2, iv p3, iv p4, iv p5, iv yy1, iv yy2, iv yy3, iv yy4, iv 1, iv 0, iv 0, iv p2, .unset, .unset, .unset, .unset, .unset, .unset, .unset, .unset, .unset, .unset] [])) (fun _ k => XS.istore X0.here hx rfl (hb hby at_96) rfl (l' := #[iv p1, iv p2, iv p3, iv p4, iv p5, iv yy1, iv yy2, iv yy3, iv yy4, iv 1, iv 0, iv 0, iv p2, .unset, .unset, .unset, .unset, .unset, .unset, .unset, .unset, .unset, .unset]) rfl k) ?_
      exact J0 (1 : Int32) (0 : Int32) (0 : Int32) p2 (Or.inr ⟨rfl, rfl⟩) (by decide)
    · refine Go.st (f' := (mkF m 90 #[iv p1, iv p2, iv p3, iv p4, iv p5, iv yy1, iv yy2, iv yy3, iv yy4, iv 1, iv 0, iv 0, .unset, .unset, .unset, .unset, .unset, .unset, .unset, .unset, .unset, .unset, .unset] [])) (fun _ k => XS.ifNo X0.here hx rfl (hb hby at_87) rfl ((if0 _ _).trans (feq cd83).1) k) ?_
      refine Go.st (f' := (mkF m 92 #[iv p1, iv p2, iv p3, iv p4, iv p5, iv yy1, iv yy2, iv yy3, iv yy4, iv 1, iv 0, iv 0, .unset, .unset, .unset, .unset, .unset, .unset, .unset, .unset, .unset, .unset, .unset] [(.int 0)])) (fun _ k => XS.iload X0.here hx rfl (hb hby at_90) rfl k) ?_
      refine Go.st (f' := (mkF m 96 #[iv p1, iv p2, iv p3, iv p4, iv p5, iv yy1, iv yy2, iv yy3, iv yy4, iv 1, iv 0, iv 0, .unset, .unset, .unset, .unset, .unset, .unset, .unset, .unset, .unset, .unset, .unset] [(.int 0)])) (fun _ k => XS.goto X0.here hx rfl (pc0 := 92) (pc' := 96) rfl (hb hby at_92) (by decide) (by decide) k) ?_
      refine Go.st (f' := (mkF m 98 #[iv p1, iv p2, iv p3, iv p4, iv p5, iv yy1, iv yy2, iv yy3, iv yy4, iv 1, iv 0, iv 0, iv 0, .unset, .unset, .unset, .unset, .unset, .unset, .unset, .unset, .unset, .unset] [])) (fun _ k => XS.istore X0.here hx rfl (hb hby at_96) rfl (l' := #[iv p1, iv p2, iv p3, iv p4, iv p5, iv yy1, iv yy2, iv yy3, iv yy4, iv 1, iv 0, iv 0, iv 0, .unset, .unset, .unset, .unset, .unset, .unset, .unset, .unset, .unset, .unset]) rfl k) ?_
      exact J0 (1 : Int32) (0 : Int32) (0 : Int32) (0 : Int32) (Or.inr ⟨rfl, rfl⟩) (by decide)
  · refine Go.st (f' := (mkF m 49 #[iv p1, iv p2, iv p3, iv p4, iv p5, iv yy1, iv yy2, iv yy3, iv yy4, .unset, .unset, .unset, .unset, .unset, .unset, .unset, .unset, .unset, .unset, .unset, .unset, .unset, .unset] [])) (fun _ k => XS.ifYes X0.here hx rfl (pc0 := 42) (pc' := 49) rfl (hb hby at_42) rfl ((if0 _ _).trans (feq cd82).2) (by decide) (by decide) k) ?_
    refine Go.st (f' := (mkF m 50 #[iv p1, iv p2, iv p3, iv p4, iv p5, iv yy1, iv yy2, iv yy3, iv yy4, .unset, .unset, .unset, .unset, .unset, .unset, .unset, .unset, .unset, .unset, .unset, .unset, .unset, .unset] [(.int 0)])) (fun _ k => XS.iconst X0.here hx rfl (hb hby at_49) k) ?_
    refine Go.st (f' := (mkF m 52 #[iv p1, iv p2, iv p3, iv p4, iv p5, iv yy1, iv yy2, iv yy3, iv yy4, iv 0, .unset, .unset, .unset, .unset, .unset, .unset, .unset, .unset, .unset, .unset, .unset, .unset, .unset] [])) (fun _ k => XS.istore X0.here hx rfl (hb hby at_50) rfl (l' := #[iv p1, iv p2, iv p3, iv p4, iv p5, iv yy1, iv yy2, iv yy3, iv yy4, iv 0, .unset, .unset, .unset, .unset, .unset, .unset, .unset, .unset, .unset, .unset, .unset, .unset, .unset]) rfl k) ?_
    refine Go.st (f' := (mkF m 54 #[iv p1, iv p2, iv p3, iv p4, iv p5, iv yy1, iv yy2, iv yy3, iv yy4, iv 0, .unset, .unset, .unset, .unset, .unset, .unset, .unset, .unset, .unset, .unset, .unset, .unset, .unset] [(.int 0)])) (fun _ k => XS.iload X0.here hx rfl (hb hby at_52) rfl k) ?_
    refine Go.st (f' := (mkF m 61 #[iv p1, iv p2, iv p3, iv p4, iv p5, iv yy1, iv yy2, iv yy3, iv yy4, iv 0, .unset, .unset, .unset, .unset, .unset, .unset, .unset, .unset, .unset, .unset, .unset, .unset, .unset] [])) (fun _ k => XS.ifYes X0.here hx rfl (pc0 := 54) (pc' := 61) rfl (hb hby at_54) rfl (by decide) (by decide) (by decide) k) ?_
    refine Go.st (f' := (mkF m 63 #[iv p1, iv p2, iv p3, iv p4, iv p5, iv yy1, iv yy2, iv yy3, iv yy4, iv 0, .unset, .unset, .unset, .unset, .unset, .unset, .unset, .unset, .unset, .unset, .unset, .unset, .unset] [(.int p5)])) (fun _ k => XS.iload X0.here hx rfl (hb hby at_61) rfl k) ?_
    refine Go.st (f' := (mkF m 64 #[iv p1, iv p2, iv p3, iv p4, iv p5, iv yy1, iv yy2, iv yy3, iv yy4, iv 0, .unset, .unset, .unset, .unset, .unset, .unset, .unset, .unset, .unset, .unset, .unset, .unset, .unset] [(.int 1), (.int p5)])) (fun _ k => XS.iconst X0.here hx rfl (hb hby at_63) k) ?_
    refine Go.st (f' := (mkF m 65 #[iv p1, iv p2, iv p3, iv p4, iv p5, iv yy1, iv yy2, iv yy3, iv yy4, iv 0, .unset, .unset, .unset, .unset, .unset, .unset, .unset, .unset, .unset, .unset, .unset, .unset, .unset] [(.int ((p5.toUInt32 >>> ((1 : Int32) &&& 31).toUInt32).toInt32))])) (fun _ k => XS.iushr X0.here hx rfl (hb hby at_64) rfl k) ?_
    refine Go.st (f' := (mkF m 66 #[iv p1, iv p2, iv p3, iv p4, iv p5, iv yy1, iv yy2, iv yy3, iv yy4, iv 0, .unset, .unset, .unset, .unset, .unset, .unset, .unset, .unset, .unset, .unset, .unset, .unset, .unset] [(.int 3), (.int ((p5.toUInt32 >>> ((1 : Int32) &&& 31).toUInt32).toInt32))])) (fun _ k => XS.iconst X0.here hx rfl (hb hby at_65) k) ?_
    refine Go.st (f' := (mkF m 67 #[iv p1, iv p2, iv p3, iv p4, iv p5, iv yy1, iv yy2, iv yy3, iv yy4, iv 0, .unset, .unset, .unset, .unset, .unset, .unset, .unset, .unset, .unset, .unset, .unset, .unset, .unset] [(.int (((p5.toUInt32 >>> ((1 : Int32) &&& 31).toUInt32).toInt32) &&& (3 : Int32)))])) (fun _ k => XS.iand X0.here hx rfl (hb hby at_66) rfl k) ?_
    obtain ⟨yy84, hyy84⟩ : ∃ z, z = (((p5.toUInt32 >>> ((1 : Int32) &&& 31).toUInt32).toInt32) &&& (3 : Int32)) := ⟨_, rfl⟩
    rw [← hyy84]
    refine Go.st (f' := (mkF m 69 #[iv p1, iv p2, iv p3, iv p4, iv p5, iv yy1, iv yy2, iv yy3, iv yy4, iv 0, iv yy84, .unset, .unset, .unset, .unset, .unset, .unset, .unset, .unset, .unset, .unset, .unset, .unset] [])) (fun _ k => XS.istore X0.here hx rfl (hb hby at_67) rfl (l' := #[iv p1, iv p2, iv p3, iv p4, iv p5, iv yy1, iv yy2, iv yy3, iv yy4, iv 0, iv yy84, .unset, .unset, .unset, .unset, .unset, .unset, .unset, .unset, .unset, .unset, .unset, .unset]) rfl k) ?_
    refine Go.st (f' := (mkF m 71 #[iv p1, iv p2, iv p3, iv p4, iv p5, iv yy1, iv yy2, iv yy3, iv yy4, iv 0, iv yy84, .unset, .unset, .unset, .unset, .unset, .unset, .unset, .unset, .unset, .unset, .unset, .unset] [(.int 0)])) (fun _ k => XS.iload X0.here hx rfl (hb hby at_69) rfl k) ?_
    refine Go.st (f' := (mkF m 78 #[iv p1, iv p2, iv p3, iv p4, iv p5, iv yy1, iv yy2, iv yy3, iv yy4, iv 0, iv yy84, .unset, .unset, .unset, .unset, .unset, .unset, .unset, .unset, .unset, .unset, .unset, .unset] [])) (fun _ k => XS.ifYes X0.here hx rfl (pc0 := 71) (pc' := 78) rfl (hb hby at_71) rfl (by decide) (by decide) (by decide) k) ?_
    refine Go.st (f' := (mkF m 79 #[iv p1, iv p2, iv p3, iv p4, iv p5, iv yy1, iv yy2, iv yy3, iv yy4, iv 0, iv yy84, .unset, .unset, .unset, .unset, .unset, .unset, .unset, .unset, .unset, .unset, .unset, .unset] [(.int p1)])) (fun _ k => XS.iloadN X0.here hx rfl (hb hby at_78) rfl k) ?_
    refine Go.st (f' := (mkF m 81 #[iv p1, iv p2, iv p3, iv p4, iv p5, iv yy1, iv yy2, iv yy3, iv yy4, iv 0, iv yy84, iv p1, .unset, .unset, .unset, .unset, .unset, .unset, .unset, .unset, .unset, .unset, .unset] [])) (fun _ k => XS.istore X0.here hx rfl (hb hby at_79) rfl (l' := #[iv p1, iv p2, iv p3, iv p4, iv p5, iv yy1, iv yy2, iv yy3, iv yy4, iv 0, iv yy84, iv p1, .unset, .unset, .unset, .unset, .unset, .unset, .unset, .unset, .unset, .unset, .unset]) rfl k) ?_
    refine Go.st (f' := (mkF m 83 #[iv p1, iv p2, iv p3, iv p4, iv p5, iv yy1, iv yy2, iv yy3, iv yy4, iv 0, iv yy84, iv p1, .unset, .unset, .unset, .unset, .unset, .unset, .unset, .unset, .unset, .unset, .unset] [(.int p5)])) (fun _ k => XS.iload X0.here hx rfl (hb hby at_81) rfl k) ?_
    refine Go.st (f' := (mkF m 84 #[iv p1, iv p2, iv p3, iv p4, iv p5, iv yy1, iv yy2, iv yy3, iv yy4, iv 0, iv yy84, iv p1, .unset, .unset, .unset, .unset, .unset, .unset, .unset, .unset, .unset, .unset, .unset] [(.int 3), (.int p5)])) (fun _ k => XS.iconst X0.here hx rfl (hb hby at_83) k) ?_
    refine Go.st (f' := (mkF m 85 #[iv p1, iv p2, iv p3, iv p4, iv p5, iv yy1, iv yy2, iv yy3, iv yy4, iv 0, iv yy84, iv p1, .unset, .unset, .unset, .unset, .unset, .unset, .unset, .unset, .unset, .unset, .unset] [(.int ((p5.toUInt32 >>> ((3 : Int32) &&& 31).toUInt32).toInt32))])) (fun _ k => XS.iushr X0.here hx rfl (hb hby at_84) rfl k) ?_
    refine Go.st (f' := (mkF m 86 #[iv p1, iv p2, iv p3, iv p4, iv p5, iv yy1, iv yy2, iv yy3, iv yy4, iv 0, iv yy84, iv p1, .unset, .unset, .unset, .unset, .unset, .unset, .unset, .unset, .unset, .unset, .unset] [(.int 1), (.int ((p5.toUInt32 >>> ((3 : Int32) &&& 31).toUInt32).toInt32))])) (fun _ k => XS.iconst X0.here hx rfl (hb hby at_85) k) ?_
    refine Go.st (f' := (mkF m 87 #[iv p1, iv p2, iv p3, iv p4, iv p5, iv yy1, iv yy2, iv yy3, iv yy4, iv 0, iv yy84, iv p1, .unset, .unset, .unset, .unset, .unset, .unset, .unset, .unset, .unset, .unset, .unset] [(.int (((p5.toUInt32 >>> ((3 : Int32) &&& 31).toUInt32).toInt32) &&& (1 : Int32)))])) (fun _ k => XS.iand X0.here hx rfl (hb hby at_86) rfl k) ?_
    by_cases cd85 : (((p5.toUInt32 >>> ((3 : Int32) &&& 31).toUInt32).toInt32) &&& (1 : Int32)) = (0 : Int32)
    · refine Go.st (f' := (mkF m 95 #[iv p1, iv p2, iv p3, iv p4, iv p5, iv yy1, iv yy2, iv yy3, iv yy4, iv 0, iv yy84, iv p1, .unset, .unset, .unset, .unset, .unset, .unset, .unset, .unset, .unset, .unset, .unset] [])) (fun _ k => XS.ifYes X0.here hx rfl (pc0 := 87) (pc' := 95) rfl (hb hby at_87) rfl ((if0 _ _).trans (teq cd85).1) (by decide) (by decide) k) ?_
      refine Go.st (f' := (mkF m 96 #[iv p1, iv p2, iv p3, iv p4, iv p5, iv yy1, iv yy2, iv yy3, iv yy4, iv 0, iv yy84, iv p1, .unset, .unset, .unset, .unset, .unset, .unset, .unset, .unset, .unset, .unset, .unset] [(.int p2)])) (fun _ k => XS.iloadN X0.here hx rfl (hb hby at_95) rfl k) ?_
      refine Go.st (f' := (mkF m 98 #[iv p1, iv p2, iv p3, iv p4, iv p5, iv yy1, iv yy2, iv yy3, iv yy4, iv 0, iv yy84, iv p1, iv p2, .unset, .unset, .unset, .unset, .unset, .unset, .unset, .unset, .unset, .unset] [])) (fun _ k => XS.istore X0.here hx rfl (hb hby at_96) rfl (l' := #[iv p1, iv p2, iv p3, iv p4, iv p5, iv yy1, iv yy2, iv yy3, iv yy4, iv 0, iv yy84, iv p1, iv p2, .unset, .unset, .unset, .unset, .unset, .unset, .unset, .unset, .unset, .unset]) rfl k) ?_
      exact J0 (0 : Int32) yy84 p1 p2 (Or.inl rfl) (hyy84 ▸ own_r3 _)
    · refine Go.st (f' := (mkF m 90 #[iv p1, iv p2, iv p3, iv p4, iv p5, iv yy1, iv yy2, iv yy3, iv yy4, iv 0, iv yy84, iv p1, .unset, .unset, .unset, .unset, .unset, .unset, .unset, .unset, .unset, .unset, .unset] [])) (fun _ k => XS.ifNo X0.here hx rfl (hb hby at_87) rfl ((if0 _ _).trans (feq cd85).1) k) ?_
      refine Go.st (f' := (mkF m 92 #[iv p1, iv p2, iv p3, iv p4, iv p5, iv yy1, iv yy2, iv yy3, iv yy4, iv 0, iv yy84, iv p1, .unset, .unset, .unset, .unset, .unset, .unset, .unset, .unset, .unset, .unset, .unset] [(.int p1)])) (fun _ k => XS.iload X0.here hx rfl (hb hby at_90) rfl k) ?_
      refine Go.st (f' := (mkF m 96 #[iv p1, iv p2, iv p3, iv p4, iv p5, iv yy1, iv yy2, iv yy3, iv yy4, iv 0, iv yy84, iv p1, .unset, .unset, .unset, .unset, .unset, .unset, .unset, .unset, .unset, .unset, .unset] [(.int p1)])) (fun _ k => XS.goto X0.here hx rfl (pc0 := 92) (pc' := 96) rfl (hb hby at_92) (by decide) (by decide) k) ?_
      refine Go.st (f' := (mkF m 98 #[iv p1, iv p2, iv p3, iv p4, iv p5, iv yy1, iv yy2, iv yy3, iv yy4, iv 0, iv yy84, iv p1, iv p1, .unset, .unset, .unset, .unset, .unset, .unset, .unset, .unset, .unset, .unset] [])) (fun _ k => XS.istore X0.here hx rfl (hb hby at_96) rfl (l' := #[iv p1, iv p2, iv p3, iv p4, iv p5, iv yy1, iv yy2, iv yy3, iv yy4, iv 0, iv yy84, iv p1, iv p1, .unset, .unset, .unset, .unset, .unset, .unset, .unset, .unset, .unset, .unset]) rfl k) ?_
      exact J0 (0 : Int32) yy84 p1 p1 (Or.inl rfl) (hyy84 ▸ own_r3 _)
set_option maxRecDepth 65536 in
set_option maxHeartbeats 40000000 in
theorem comes_1 {Post : Tables → Env → Array Value → State → Outcome → State → Prop} (hpost : ∀ tb e args s v u, (limb_1_1.after args s (.returned v) u = true ∧ limb_1_2.after args s (.returned v) u = true ∧ True) → ReturnedEndW s (.returned v) u (Jvm.fieldLocs frame_1_writes args s ++ Jvm.arrayLocs frame_1_arrays args s ++ Jvm.staticLocs frame_1_statics s) 32 1152 → Post tb e args s (.returned v) u) :
    ArmFor flags0 classFile x code maxLocals ret World_1 tables_1 room_1 Calls_1 rest_1 Pre_1 Post := by
  intro l hfl _ _ p e ha hc hk s m args below hf hA hF happ hP
  obtain ⟨hcalls, hrest, hpre⟩ := hP
  obtain ⟨-, -, -, hnamed, -, -, -, hat⟩ := (Spec.applies_iff hf).mp happ
  obtain ⟨hg, hn⟩ := and_e (Cond.before_iff.mp (show (Jvm.Cond.and given_1 narrow_1).before args s = true from hpre))
  obtain ⟨g1, g2⟩ := and_e hg
  obtain ⟨g3, g4⟩ := and_e g2
  obtain ⟨g5, g6⟩ := and_e g4
  obtain ⟨g7, g8⟩ := and_e g6
  obtain ⟨g9, g10⟩ := and_e g8
  obtain ⟨v0, v1, v2, v3, v4, rfl⟩ : ∃ v0 v1 v2 v3 v4 : Value, args = #[v0, v1, v2, v3, v4] := by
    have hs : args.size = 5 := by simpa [Cond.value, given_1] using g1
    obtain ⟨L⟩ := args
    match L, hs with
    | [v0, v1, v2, v3, v4], _ => exact ⟨v0, v1, v2, v3, v4, rfl⟩
  have hw := fun d (hd : d ∈ tables_1) => atoms_spec (ws := Jvm.Cond.code x code maxLocals ret :: tables_1) hat d (List.mem_cons_of_mem _ hd)
  have hfit : Fit s := fun {y c} hc i hi => by
    obtain ⟨ha, rfl⟩ := Array.getElem?_eq_some_iff.mp hc
    have q := List.all_eq_true.mp ((Array.all_eq_true_iff_forall_mem.mp hF) _ (Array.getElem_mem ha)) i (List.mem_range.mpr hi)
    simpa [Array.getElem?_eq_getElem hi] using q
  obtain ⟨hsets, hown0⟩ := atoms_of _ (rest_1_c_eq ▸ (show rest_1_c.before _ s = true from hrest))
  have hr0 := Cond.before_iff.mp hown0
  obtain ⟨i0, ei0⟩ := is_v g3
  obtain rfl : v0 = (.int i0) := Option.some.inj ei0
  obtain ⟨i1, ei1⟩ := is_v g5
  obtain rfl : v1 = (.int i1) := Option.some.inj ei1
  obtain ⟨i2, ei2⟩ := is_v g7
  obtain rfl : v2 = (.int i2) := Option.some.inj ei2
  obtain ⟨i3, ei3⟩ := is_v g9
  obtain rfl : v3 = (.int i3) := Option.some.inj ei3
  obtain ⟨i4, ei4⟩ := is_v g10
  obtain rfl : v4 = (.int i4) := Option.some.inj ei4
  obtain ⟨i_COMPACT_STRINGS, ev_i_COMPACT_STRINGS⟩ := is_v (Cond.before_iff.mp (hsets _ (List.mem_of_getElem? (i := 1) rfl)))
  have S_i_COMPACT_STRINGS := Sta.start ev_i_COMPACT_STRINGS (Or.inl (hsets _ (List.mem_of_getElem? (i := 0) rfl)))
  have nz_i_COMPACT_STRINGS : ¬ i_COMPACT_STRINGS = (0 : Int32) := own_ne_int (Cond.before_iff.mp (hsets _ (List.mem_of_getElem? (i := 2) rfl))) ev_i_COMPACT_STRINGS
  obtain ⟨v_SIOOBE_FORMATTER, ev_v_SIOOBE_FORMATTER, r_v_SIOOBE_FORMATTER⟩ := isR_v (Cond.before_iff.mp (hsets _ (List.mem_of_getElem? (i := 8) rfl)))
  have S_v_SIOOBE_FORMATTER := Sta.start ev_v_SIOOBE_FORMATTER (Or.inl (hsets _ (List.mem_of_getElem? (i := 7) rfl)))
  have WW : World1 s    i_COMPACT_STRINGS v_SIOOBE_FORMATTER := ⟨S_i_COMPACT_STRINGS, nz_i_COMPACT_STRINGS, S_v_SIOOBE_FORMATTER, r_v_SIOOBE_FORMATTER⟩
  have hCH : CHv s EL s.vm s.heap := CHv.start (own_EL hw) (fun p hp => hcalls.1 p hp) (hsets _ (List.mem_of_getElem? (i := 2) rfl)) (own_wS hw _ (by simp [Bundle.stringAtoms])) (own_wS hw _ (by simp [Bundle.stringAtoms, Bundle.sN]))
  obtain ⟨n, o, h1, h2, h3, _, L, rfl, ⟨rfl, N⟩, -, hq⟩ := rm0 l s _ hw tables_1 i0 i1 i2 i3 i4    i_COMPACT_STRINGS v_SIOOBE_FORMATTER s.heap s.heap.size (Old.start s) WW  p e ha hc hk s m _ below hf ((Spec.applies_iff_loose hf).mp happ).1 ⟨rfl, State.Warmed39.refl s, rfl, hCH⟩ trivial
  refine ⟨n, _, h1, h2, h3, hpost _ _ _ _ _ _ ⟨Cond.after_iff.mpr rfl, Cond.after_iff.mpr (eq_i res_at (Term.int_eval (1)) rfl), trivial⟩ ⟨hq.1, hq.2.1, hq.2.2.1, (hq.2.2.2.sift fun y hy => Or.inr (N y hy)).mono (by decide) (by decide)⟩⟩
theorem main_1_1 : Claimed_1_1 := comes_1 fun _ _ _ _ _ _ h hF => ⟨h.1, hF⟩
theorem main_1_2 : Claimed_1_2 := comes_1 fun _ _ _ _ _ _ h hF => ⟨h.2.1, hF⟩
end Jvm.Pilot.@@N@@
namespace Jvm.Pilot.@@N@@
open Jvm Jvm.ClassFile Sem Op Lib Jvm.Free Jvm.Stand Jvm.Pilot.@@N@@.Jvm.D
/-! MADE BY PROGRAM (witnessworld.py) out of the Statement's table words and the real class files: 21 classes; the members and pool entries that the words name. The judged class is class 1, her method 2. -/
namespace start1
open Jvm.ClassFile
def u (s : String) : CpInfo := .utf8 (stringToUtf16 s)
/-- a pool by its gaps: so many unusable entries, then the entry; so many at the end -/
def gap : Nat → List CpInfo → List CpInfo
  | 0, r => r
  | n + 1, r => .unusable :: gap n r
def poolList (es : List (Nat × CpInfo)) (last : Nat) : List CpInfo := es.foldr (fun e r => gap e.1 (e.2 :: r)) (gap last [])
def pool (es : List (Nat × CpInfo)) (last : Nat) : Array CpInfo := ⟨poolList es last⟩
def fileOf (pool : Array CpInfo) (this : Nat) (attrs : Array Attribute := #[]) (ms : Array MethodInfo := #[]) (fl : Nat := 33) (sup : Nat := 0) (ifs : Array Nat := #[]) (fds : Array FieldInfo := #[]) : ClassFile where
  minorVersion := 0
  majorVersion := 65
  constantPool := pool
  accessFlags := fl
  thisClass := this
  superClass := sup
  interfaces := ifs
  fields := fds
  methods := ms
  attributes := attrs
def plain (name : String) (sup : Option ClassId) : Class where
  name := name
  kind := .ordinary
  loader := none
  accessFlags := 33
  super := sup
  interfaces := #[]
  cf := none
  fields := #[]
  methods := #[]
  instanceTypes := #[]
  staticTypes := #[]
  resolved := #[]
  callSites := []
  init := .initialized
  statics := none
  mirror := none

def pool0 : Array CpInfo := pool [(5, u "<init>"), (0, u "()V"), (1, .class_ 10), (1, u "java/lang/Object"), (81, u "equals"), (0, u "(Ljava/lang/Object;)Z")] 30

def k0c0 : Code := { maxStack := 0, maxLocals := 1, code := object_method_1_code, exceptionTable := #[], attributes := #[] }
def k0m0 : Method := { name := "<init>", desc := "()V", sig := { parameters := [], returnType := none }, accessFlags := 1, code := some k0c0 }
def k0c1 : Code := { maxStack := 2, maxLocals := 2, code := ⟨#[0x2a, 0x2b, 0xa6, 0x00, 0x07, 0x04, 0xa7, 0x00, 0x04, 0x03, 0xac]⟩, exceptionTable := #[], attributes := #[] }
def k0m1 : Method := { name := "equals", desc := "(Ljava/lang/Object;)Z", sig := { parameters := [(.object "java/lang/Object")], returnType := some .boolean }, accessFlags := 1, code := some k0c1 }
/-- java/lang/Object -/
def k0 : Class := { plain "java/lang/Object" none with
  accessFlags := 33
  interfaces := #[]
  cf := some (fileOf pool0 8 #[] #[{ accessFlags := 1, nameIndex := 5, descriptorIndex := 6, attributes := #[] }, { accessFlags := 1, nameIndex := 92, descriptorIndex := 93, attributes := #[] }] 33 0 #[] #[])
  fields := #[]
  methods := #[k0m0, k0m1]
  instanceTypes := #[]
  staticTypes := #[]
  resolved := Array.replicate 124 none
  statics := none }

def pool1 : Array CpInfo := pool [(2, .class_ 4), (0, .nameAndType 5 6), (0, u "java/lang/Object"), (0, u "<init>"), (0, u "()V"), (0, .class_ 8), (0, u "java/lang/String"), (0, .methodref 7 10), (0, .nameAndType 5 11), (0, u "([C)V"), (0, .class_ 13), (0, u "com/example/wirecall/wirecall/demo/User"), (0, .methodref 12 3), (0, .methodref 16 17), (0, .class_ 18), (0, .nameAndType 19 20), (0, u "com/example/wirecall/wirecall/demo/UserEqualsPinLaw"), (0, u "name"), (0, u "(ICC)Ljava/lang/String;"), (0, .methodref 12 22), (0, .nameAndType 5 23), (0, u "(ILjava/lang/String;)V"), (0, .methodref 12 25), (0, .nameAndType 26 27), (0, u "equals"), (0, u "(Ljava/lang/Object;)Z"), (0, .methodref 2 25), (3, u "law"), (0, u "(IIIII)Z")] 2

def k1m0 : Method := { name := "<init>", desc := "()V", sig := { parameters := [], returnType := none }, accessFlags := 1, code := none }
def k1c1 : Code := { maxStack := 6, maxLocals := 3, code := method_2_code, exceptionTable := #[], attributes := #[] }
def k1m1 : Method := { name := "name", desc := "(ICC)Ljava/lang/String;", sig := { parameters := [.int, .char, .char], returnType := some (.object "java/lang/String") }, accessFlags := 10, code := some k1c1 }
def k1c2 : Code := { maxStack := 6, maxLocals := 23, code := code, exceptionTable := #[], attributes := #[] }
def k1m2 : Method := { name := "law", desc := "(IIIII)Z", sig := { parameters := [.int, .int, .int, .int, .int], returnType := some .boolean }, accessFlags := 9, code := some k1c2 }
/-- com/example/wirecall/wirecall/demo/UserEqualsPinLaw -/
def k1 : Class := { plain "com/example/wirecall/wirecall/demo/UserEqualsPinLaw" (some 0) with
  accessFlags := 49
  interfaces := #[]
  cf := some (fileOf pool1 16 #[] #[{ accessFlags := 1, nameIndex := 5, descriptorIndex := 6, attributes := #[] }, { accessFlags := 10, nameIndex := 19, descriptorIndex := 20, attributes := #[] }, { accessFlags := 9, nameIndex := 32, descriptorIndex := 33, attributes := #[] }] 49 2 #[] #[])
  fields := #[]
  methods := #[k1m0, k1m1, k1m2]
  instanceTypes := #[]
  staticTypes := #[]
  resolved := Array.replicate 36 none
  statics := none }

def pool2 : Array CpInfo := pool [(1, .methodref 2 3), (0, .class_ 4), (0, .nameAndType 5 6), (0, u "java/lang/Object"), (0, u "<init>"), (0, u "()V"), (0, .fieldref 8 9), (0, .class_ 10), (0, .nameAndType 11 12), (0, u "com/example/wirecall/wirecall/demo/User"), (0, u "userId"), (0, u "I"), (0, .fieldref 8 14), (0, .nameAndType 15 16), (0, u "userName"), (0, u "Ljava/lang/String;"), (0, .methodref 18 19), (0, .class_ 20), (0, .nameAndType 21 22), (0, u "java/util/Objects"), (0, u "equals"), (0, u "(Ljava/lang/Object;Ljava/lang/Object;)Z"), (16, u "(ILjava/lang/String;)V"), (4, u "(Ljava/lang/Object;)Z")] 20

def k2c0 : Code := { maxStack := 1, maxLocals := 1, code := prog_20_method_1_code, exceptionTable := #[], attributes := #[] }
def k2m0 : Method := { name := "<init>", desc := "()V", sig := { parameters := [], returnType := none }, accessFlags := 1, code := some k2c0 }
def k2c1 : Code := { maxStack := 2, maxLocals := 3, code := prog_20_method_2_code, exceptionTable := #[], attributes := #[] }
def k2m1 : Method := { name := "<init>", desc := "(ILjava/lang/String;)V", sig := { parameters := [.int, (.object "java/lang/String")], returnType := none }, accessFlags := 1, code := some k2c1 }
def k2c2 : Code := { maxStack := 2, maxLocals := 3, code := prog_20_method_5_code, exceptionTable := #[], attributes := #[] }
def k2m2 : Method := { name := "equals", desc := "(Ljava/lang/Object;)Z", sig := { parameters := [(.object "java/lang/Object")], returnType := some .boolean }, accessFlags := 1, code := some k2c2 }
/-- com/example/wirecall/wirecall/demo/User -/
def k2 : Class := { plain "com/example/wirecall/wirecall/demo/User" (some 0) with
  accessFlags := 49
  interfaces := #[]
  cf := some (fileOf pool2 8 #[] #[{ accessFlags := 1, nameIndex := 5, descriptorIndex := 6, attributes := #[] }, { accessFlags := 1, nameIndex := 5, descriptorIndex := 39, attributes := #[] }, { accessFlags := 1, nameIndex := 21, descriptorIndex := 44, attributes := #[] }] 49 2 #[] #[{ accessFlags := 2, nameIndex := 11, descriptorIndex := 12, attributes := #[] }, { accessFlags := 2, nameIndex := 15, descriptorIndex := 16, attributes := #[] }])
  fields := #[{ name := "userId", type := .int, accessFlags := 2, slot := 0, constantValue := 0 }, { name := "userName", type := (.object "java/lang/String"), accessFlags := 2, slot := 1, constantValue := 0 }]
  methods := #[k2m0, k2m1, k2m2]
  instanceTypes := #[.int, (.object "java/lang/String")]
  staticTypes := #[]
  resolved := Array.replicate 65 none
  statics := none }

def pool3 : Array CpInfo := pool [(2, .class_ 4), (1, u "java/lang/Object"), (0, u "<init>"), (0, u "()V"), (7, .methodref 2 15), (0, .nameAndType 16 17), (0, u "equals"), (0, u "(Ljava/lang/Object;)Z"), (5, u "(Ljava/lang/Object;Ljava/lang/Object;)Z"), (18, .class_ 44), (1, u "java/util/Objects")] 139

def k3m0 : Method := { name := "<init>", desc := "()V", sig := { parameters := [], returnType := none }, accessFlags := 2, code := none }
def k3c1 : Code := { maxStack := 2, maxLocals := 2, code := jdk_31_method_2_code, exceptionTable := #[], attributes := #[] }
def k3m1 : Method := { name := "equals", desc := "(Ljava/lang/Object;Ljava/lang/Object;)Z", sig := { parameters := [(.object "java/lang/Object"), (.object "java/lang/Object")], returnType := some .boolean }, accessFlags := 9, code := some k3c1 }
/-- java/util/Objects -/
def k3 : Class := { plain "java/util/Objects" (some 0) with
  accessFlags := 49
  interfaces := #[]
  cf := some (fileOf pool3 42 #[] #[{ accessFlags := 2, nameIndex := 5, descriptorIndex := 6, attributes := #[] }, { accessFlags := 9, nameIndex := 16, descriptorIndex := 23, attributes := #[] }] 49 2 #[] #[])
  fields := #[]
  methods := #[k3m0, k3m1]
  instanceTypes := #[]
  staticTypes := #[]
  resolved := Array.replicate 184 none
  statics := none }

def pool4 : Array CpInfo := pool [(1, .class_ 2), (0, u "java/io/Serializable"), (0, .class_ 4), (0, u "java/lang/Object")] 2

/-- java/io/Serializable -/
def k4 : Class := { plain "java/io/Serializable" (some 0) with
  accessFlags := 1537
  interfaces := #[]
  cf := some (fileOf pool4 1 #[] #[] 1537 3 #[] #[])
  fields := #[]
  methods := #[]
  instanceTypes := #[]
  staticTypes := #[]
  resolved := Array.replicate 7 none
  statics := none }

def pool5 : Array CpInfo := pool [(1, .class_ 2), (0, u "java/lang/Comparable"), (0, .class_ 4), (0, u "java/lang/Object")] 7

/-- java/lang/Comparable -/
def k5 : Class := { plain "java/lang/Comparable" (some 0) with
  accessFlags := 1537
  interfaces := #[]
  cf := some (fileOf pool5 1 #[] #[] 1537 3 #[] #[])
  fields := #[]
  methods := #[]
  instanceTypes := #[]
  staticTypes := #[]
  resolved := Array.replicate 12 none
  statics := none }

def pool6 : Array CpInfo := pool [(2, .class_ 4), (1, u "java/lang/CharSequence"), (42, .class_ 48), (0, u "java/lang/CharSequence$1CodePointIterator"), (10, .class_ 60), (0, u "java/lang/CharSequence$1CharIterator"), (5, .class_ 67), (0, u "java/lang/Object")] 63

/-- java/lang/CharSequence -/
def k6 : Class := { plain "java/lang/CharSequence" (some 0) with
  accessFlags := 1537
  interfaces := #[]
  cf := some (fileOf pool6 2 #[.nestMembers #[47, 59]] #[] 1537 66 #[] #[])
  fields := #[]
  methods := #[]
  instanceTypes := #[]
  staticTypes := #[]
  resolved := Array.replicate 131 none
  statics := none }

def pool7 : Array CpInfo := pool [(1, .class_ 2), (0, u "java/lang/constant/Constable"), (0, .class_ 4), (0, u "java/lang/Object")] 6

/-- java/lang/constant/Constable -/
def k7 : Class := { plain "java/lang/constant/Constable" (some 0) with
  accessFlags := 1537
  interfaces := #[]
  cf := some (fileOf pool7 1 #[] #[] 1537 3 #[] #[])
  fields := #[]
  methods := #[]
  instanceTypes := #[]
  staticTypes := #[]
  resolved := Array.replicate 11 none
  statics := none }

def pool8 : Array CpInfo := pool [(1, .class_ 2), (0, u "java/lang/constant/ConstantDesc"), (0, .class_ 4), (0, u "java/lang/Object")] 32

/-- java/lang/constant/ConstantDesc -/
def k8 : Class := { plain "java/lang/constant/ConstantDesc" (some 0) with
  accessFlags := 1537
  interfaces := #[]
  cf := some (fileOf pool8 1 #[] #[] 1537 3 #[] #[])
  fields := #[]
  methods := #[]
  instanceTypes := #[]
  staticTypes := #[]
  resolved := Array.replicate 37 none
  statics := none }

def pool9 : Array CpInfo := pool [(1, .methodref 2 3), (0, .class_ 4), (0, .nameAndType 5 6), (0, u "java/lang/Object"), (0, u "<init>"), (0, u "()V"), (0, .string 8), (0, u ""), (0, .fieldref 10 11), (0, .class_ 12), (0, .nameAndType 13 14), (0, u "java/lang/String"), (0, u "value"), (0, u "[B"), (0, .fieldref 10 16), (0, .nameAndType 17 18), (0, u "coder"), (0, u "B"), (2, u "hash"), (0, u "I"), (2, u "hashIsZero"), (0, u "Z"), (0, .methodref 10 28), (0, .nameAndType 5 29), (0, u "([CIILjava/lang/Void;)V"), (8, .fieldref 10 39), (0, .nameAndType 40 26), (0, u "COMPACT_STRINGS"), (1, .class_ 44), (1, u "java/lang/StringUTF16"), (0, u "compress"), (1, .methodref 42 48), (0, .nameAndType 49 50), (0, u "coderFromArrayLen"), (0, u "([BI)B"), (56, .class_ 109), (1, u "java/lang/StringLatin1"), (67, .methodref 42 178), (0, .nameAndType 45 179), (0, u "([CII)[B"), (361, .methodref 107 542), (0, .nameAndType 543 544), (0, u "equals"), (0, u "([B[B)Z"), (28, u "(Ljava/lang/Object;)Z"), (1, .class_ 576), (0, u "java/lang/CharSequence"), (22, u "CASE_INSENSITIVE_ORDER"), (0, u "Ljava/util/Comparator;"), (409, u "([C)V"), (90, u "serialPersistentFields"), (0, u "[Ljava/io/ObjectStreamField;"), (0, .class_ 1104), (0, u "java/lang/String$CaseInsensitiveComparator"), (1, .class_ 1107), (0, u "java/io/Serializable"), (0, .class_ 1109), (0, u "java/lang/Comparable"), (0, .class_ 1111), (0, u "java/lang/constant/Constable"), (0, .class_ 1113), (0, u "java/lang/constant/ConstantDesc"), (2, u "serialVersionUID"), (0, u "J"), (3, u "REPL"), (0, u "C"), (2, u "LATIN1"), (1, u "UTF16")] 323

def k9m0 : Method := { name := "<init>", desc := "()V", sig := { parameters := [], returnType := none }, accessFlags := 1, code := none }
def k9c1 : Code := { maxStack := 5, maxLocals := 2, code := jdk_42_method_3_code, exceptionTable := #[], attributes := #[] }
def k9m1 : Method := { name := "<init>", desc := "([C)V", sig := { parameters := [(.array .char)], returnType := none }, accessFlags := 1, code := some k9c1 }
def k9c2 : Code := { maxStack := 2, maxLocals := 3, code := jdk_42_method_66_code, exceptionTable := #[], attributes := #[] }
def k9m2 : Method := { name := "equals", desc := "(Ljava/lang/Object;)Z", sig := { parameters := [(.object "java/lang/Object")], returnType := some .boolean }, accessFlags := 1, code := some k9c2 }
def k9c3 : Code := { maxStack := 4, maxLocals := 6, code := jdk_42_method_149_code, exceptionTable := #[], attributes := #[] }
def k9m3 : Method := { name := "<init>", desc := "([CIILjava/lang/Void;)V", sig := { parameters := [(.array .char), .int, .int, (.object "java/lang/Void")], returnType := none }, accessFlags := 2, code := some k9c3 }
/-- java/lang/String -/
def k9 : Class := { plain "java/lang/String" (some 0) with
  accessFlags := 49
  interfaces := #[4, 5, 6, 7, 8]
  cf := some (fileOf pool9 10 #[.nestMembers #[1103]] #[{ accessFlags := 1, nameIndex := 5, descriptorIndex := 6, attributes := #[] }, { accessFlags := 1, nameIndex := 5, descriptorIndex := 1010, attributes := #[] }, { accessFlags := 1, nameIndex := 543, descriptorIndex := 573, attributes := #[] }, { accessFlags := 2, nameIndex := 5, descriptorIndex := 29, attributes := #[] }] 49 2 #[1106, 1108, 575, 1110, 1112] #[{ accessFlags := 18, nameIndex := 13, descriptorIndex := 14, attributes := #[] }, { accessFlags := 18, nameIndex := 17, descriptorIndex := 18, attributes := #[] }, { accessFlags := 2, nameIndex := 21, descriptorIndex := 22, attributes := #[] }, { accessFlags := 2, nameIndex := 25, descriptorIndex := 26, attributes := #[] }, { accessFlags := 26, nameIndex := 1116, descriptorIndex := 1117, attributes := #[] }, { accessFlags := 24, nameIndex := 40, descriptorIndex := 26, attributes := #[] }, { accessFlags := 26, nameIndex := 1101, descriptorIndex := 1102, attributes := #[] }, { accessFlags := 26, nameIndex := 1121, descriptorIndex := 1122, attributes := #[] }, { accessFlags := 25, nameIndex := 599, descriptorIndex := 600, attributes := #[] }, { accessFlags := 24, nameIndex := 1125, descriptorIndex := 18, attributes := #[] }, { accessFlags := 24, nameIndex := 1127, descriptorIndex := 18, attributes := #[] }])
  fields := #[{ name := "value", type := (.array .byte), accessFlags := 18, slot := 0, constantValue := 0 }, { name := "coder", type := .byte, accessFlags := 18, slot := 1, constantValue := 0 }, { name := "hash", type := .int, accessFlags := 2, slot := 2, constantValue := 0 }, { name := "hashIsZero", type := .boolean, accessFlags := 2, slot := 3, constantValue := 0 }, { name := "serialVersionUID", type := .long, accessFlags := 26, slot := 0, constantValue := 0 }, { name := "COMPACT_STRINGS", type := .boolean, accessFlags := 24, slot := 1, constantValue := 0 }, { name := "serialPersistentFields", type := (.array (.object "java/io/ObjectStreamField")), accessFlags := 26, slot := 2, constantValue := 0 }, { name := "REPL", type := .char, accessFlags := 26, slot := 3, constantValue := 0 }, { name := "CASE_INSENSITIVE_ORDER", type := (.object "java/util/Comparator"), accessFlags := 25, slot := 4, constantValue := 0 }, { name := "LATIN1", type := .byte, accessFlags := 24, slot := 5, constantValue := 0 }, { name := "UTF16", type := .byte, accessFlags := 24, slot := 6, constantValue := 0 }]
  methods := #[k9m0, k9m1, k9m2, k9m3]
  instanceTypes := #[(.array .byte), .byte, .int, .boolean]
  staticTypes := #[.long, .boolean, (.array (.object "java/io/ObjectStreamField")), .char, (.object "java/util/Comparator"), .byte, .byte]
  resolved := Array.replicate 1451 none
  statics := some 0 }

def pool10 : Array CpInfo := pool [(6, .class_ 8), (1, u "java/lang/Object"), (0, u "<init>"), (0, u "()V"), (1, .class_ 14), (1, u "java/lang/StringUTF16"), (31, u "$assertionsDisabled"), (0, u "Z"), (13, u "HI_BYTE_SHIFT"), (0, u "I"), (2, u "LO_BYTE_SHIFT"), (49, .methodref 12 116), (0, .nameAndType 117 118), (0, u "compress"), (0, u "([CI[BII)I"), (3, u "([CII)[B"), (138, u "coderFromArrayLen"), (0, u "([BI)B"), (106, .class_ 371), (1, u "java/lang/StringUTF16$LinesSpliterator"), (58, u "MAX_LENGTH"), (196, .class_ 628), (0, u "java/lang/StringUTF16$CodePointsSpliterator"), (0, .class_ 630), (0, u "java/lang/StringUTF16$CharsSpliterator")] 4

def k10m0 : Method := { name := "<init>", desc := "()V", sig := { parameters := [], returnType := none }, accessFlags := 0, code := none }
def k10c1 : Code := { maxStack := 2, maxLocals := 2, code := jdk_52_method_15_code, exceptionTable := #[], attributes := #[] }
def k10m1 : Method := { name := "coderFromArrayLen", desc := "([BI)B", sig := { parameters := [(.array .byte), .int], returnType := some .byte }, accessFlags := 8, code := some k10c1 }
def k10c2 : Code := { maxStack := 5, maxLocals := 6, code := jdk_52_method_16_code, exceptionTable := #[], attributes := #[] }
def k10m2 : Method := { name := "compress", desc := "([CII)[B", sig := { parameters := [(.array .char), .int, .int], returnType := some (.array .byte) }, accessFlags := 9, code := some k10c2 }
def k10c3 : Code := { maxStack := 3, maxLocals := 7, code := jdk_52_method_21_code, exceptionTable := #[], attributes := #[] }
def k10m3 : Method := { name := "compress", desc := "([CI[BII)I", sig := { parameters := [(.array .char), .int, (.array .byte), .int, .int], returnType := some .int }, accessFlags := 9, code := some k10c3 }
/-- java/lang/StringUTF16 -/
def k10 : Class := { plain "java/lang/StringUTF16" (some 0) with
  accessFlags := 48
  interfaces := #[]
  cf := some (fileOf pool10 12 #[.nestMembers #[627, 629, 369]] #[{ accessFlags := 0, nameIndex := 9, descriptorIndex := 10, attributes := #[] }, { accessFlags := 8, nameIndex := 261, descriptorIndex := 262, attributes := #[] }, { accessFlags := 9, nameIndex := 117, descriptorIndex := 122, attributes := #[] }, { accessFlags := 9, nameIndex := 117, descriptorIndex := 118, attributes := #[] }] 48 6 #[] #[{ accessFlags := 26, nameIndex := 61, descriptorIndex := 62, attributes := #[] }, { accessFlags := 26, nameIndex := 65, descriptorIndex := 62, attributes := #[] }, { accessFlags := 24, nameIndex := 430, descriptorIndex := 62, attributes := #[] }, { accessFlags := 4120, nameIndex := 46, descriptorIndex := 47, attributes := #[] }])
  fields := #[{ name := "HI_BYTE_SHIFT", type := .int, accessFlags := 26, slot := 0, constantValue := 0 }, { name := "LO_BYTE_SHIFT", type := .int, accessFlags := 26, slot := 1, constantValue := 0 }, { name := "MAX_LENGTH", type := .int, accessFlags := 24, slot := 2, constantValue := 0 }, { name := "$assertionsDisabled", type := .boolean, accessFlags := 4120, slot := 3, constantValue := 0 }]
  methods := #[k10m0, k10m1, k10m2, k10m3]
  instanceTypes := #[]
  staticTypes := #[.int, .int, .int, .boolean]
  resolved := Array.replicate 635 none
  statics := none }

def pool11 : Array CpInfo := pool [(4, .class_ 6), (1, u "java/lang/Object"), (0, u "<init>"), (0, u "()V"), (5, .class_ 16), (1, u "java/lang/StringLatin1"), (104, u "$assertionsDisabled"), (0, u "Z"), (98, .class_ 223), (1, u "java/lang/StringLatin1$LinesSpliterator"), (57, u "equals"), (0, u "([B[B)Z"), (107, .class_ 391), (0, u "java/lang/StringLatin1$CharsSpliterator")] 3

def k11m0 : Method := { name := "<init>", desc := "()V", sig := { parameters := [], returnType := none }, accessFlags := 0, code := none }
def k11c1 : Code := { maxStack := 3, maxLocals := 3, code := jdk_43_method_13_code, exceptionTable := #[], attributes := #[] }
def k11m1 : Method := { name := "equals", desc := "([B[B)Z", sig := { parameters := [(.array .byte), (.array .byte)], returnType := some .boolean }, accessFlags := 9, code := some k11c1 }
/-- java/lang/StringLatin1 -/
def k11 : Class := { plain "java/lang/StringLatin1" (some 0) with
  accessFlags := 48
  interfaces := #[]
  cf := some (fileOf pool11 14 #[.nestMembers #[390, 221]] #[{ accessFlags := 0, nameIndex := 7, descriptorIndex := 8, attributes := #[] }, { accessFlags := 9, nameIndex := 281, descriptorIndex := 282, attributes := #[] }] 48 4 #[] #[{ accessFlags := 4120, nameIndex := 121, descriptorIndex := 122, attributes := #[] }])
  fields := #[{ name := "$assertionsDisabled", type := .boolean, accessFlags := 4120, slot := 0, constantValue := 0 }]
  methods := #[k11m0, k11m1]
  instanceTypes := #[]
  staticTypes := #[.boolean]
  resolved := Array.replicate 395 none
  statics := none }

def pool12 : Array CpInfo := pool [(2, .class_ 4), (1, u "java/lang/Object"), (0, u "<init>"), (0, u "()V"), (17, .class_ 26), (1, u "jdk/internal/util/Preconditions"), (28, .class_ 56), (0, u "jdk/internal/util/Preconditions$4"), (57, .class_ 115), (0, u "jdk/internal/util/Preconditions$1"), (7, u "SIOOBE_FORMATTER"), (0, u "Ljava/util/function/BiFunction;"), (0, .class_ 126), (0, u "jdk/internal/util/Preconditions$2"), (3, u "AIOOBE_FORMATTER"), (0, .class_ 132), (0, u "jdk/internal/util/Preconditions$3"), (3, u "IOOBE_FORMATTER")] 57

def k12m0 : Method := { name := "<init>", desc := "()V", sig := { parameters := [], returnType := none }, accessFlags := 1, code := none }
/-- jdk/internal/util/Preconditions -/
def k12 : Class := { plain "jdk/internal/util/Preconditions" (some 0) with
  accessFlags := 33
  interfaces := #[]
  cf := some (fileOf pool12 24 #[.nestMembers #[55, 131, 125, 114]] #[{ accessFlags := 1, nameIndex := 5, descriptorIndex := 6, attributes := #[] }] 33 2 #[] #[{ accessFlags := 25, nameIndex := 123, descriptorIndex := 124, attributes := #[] }, { accessFlags := 25, nameIndex := 130, descriptorIndex := 124, attributes := #[] }, { accessFlags := 25, nameIndex := 136, descriptorIndex := 124, attributes := #[] }])
  fields := #[{ name := "SIOOBE_FORMATTER", type := (.object "java/util/function/BiFunction"), accessFlags := 25, slot := 0, constantValue := 0 }, { name := "AIOOBE_FORMATTER", type := (.object "java/util/function/BiFunction"), accessFlags := 25, slot := 1, constantValue := 0 }, { name := "IOOBE_FORMATTER", type := (.object "java/util/function/BiFunction"), accessFlags := 25, slot := 2, constantValue := 0 }]
  methods := #[k12m0]
  instanceTypes := #[]
  staticTypes := #[(.object "java/util/function/BiFunction"), (.object "java/util/function/BiFunction"), (.object "java/util/function/BiFunction")]
  resolved := Array.replicate 194 none
  statics := some 1 }

def pool13 : Array CpInfo := pool [(9, u "<init>"), (6, .class_ 18), (1, u "java/lang/Object"), (0, u "()V"), (1, .class_ 23), (1, u "jdk/internal/util/ArraysSupport"), (0, u "LOG2_ARRAY_LONG_INDEX_SCALE"), (0, u "I"), (2, u "U"), (0, u "Ljdk/internal/misc/Unsafe;"), (8, u "BIG_ENDIAN"), (0, u "Z"), (8, u "LOG2_BYTE_BIT_SIZE"), (4, u "LOG2_ARRAY_INT_INDEX_SCALE"), (54, u "JLA"), (0, u "Ljdk/internal/access/JavaLangAccess;"), (11, u "LOG2_ARRAY_BOOLEAN_INDEX_SCALE"), (9, u "LOG2_ARRAY_BYTE_INDEX_SCALE"), (5, u "LOG2_ARRAY_CHAR_INDEX_SCALE"), (5, u "LOG2_ARRAY_SHORT_INDEX_SCALE"), (18, u "LOG2_ARRAY_FLOAT_INDEX_SCALE"), (24, u "LOG2_ARRAY_DOUBLE_INDEX_SCALE"), (89, u "T_BOOLEAN"), (2, u "T_CHAR"), (1, u "T_FLOAT"), (1, u "T_DOUBLE"), (1, u "T_BYTE"), (1, u "T_SHORT"), (1, u "T_INT"), (1, u "T_LONG"), (1, u "SOFT_MAX_ARRAY_LENGTH")] 83

def k13m0 : Method := { name := "<init>", desc := "()V", sig := { parameters := [], returnType := none }, accessFlags := 2, code := none }
/-- jdk/internal/util/ArraysSupport -/
def k13 : Class := { plain "jdk/internal/util/ArraysSupport" (some 0) with
  accessFlags := 33
  interfaces := #[]
  cf := some (fileOf pool13 21 #[] #[{ accessFlags := 2, nameIndex := 9, descriptorIndex := 19, attributes := #[] }] 33 16 #[] #[{ accessFlags := 24, nameIndex := 28, descriptorIndex := 29, attributes := #[] }, { accessFlags := 26, nameIndex := 38, descriptorIndex := 39, attributes := #[] }, { accessFlags := 25, nameIndex := 121, descriptorIndex := 25, attributes := #[] }, { accessFlags := 25, nameIndex := 131, descriptorIndex := 25, attributes := #[] }, { accessFlags := 25, nameIndex := 137, descriptorIndex := 25, attributes := #[] }, { accessFlags := 25, nameIndex := 143, descriptorIndex := 25, attributes := #[] }, { accessFlags := 25, nameIndex := 53, descriptorIndex := 25, attributes := #[] }, { accessFlags := 25, nameIndex := 24, descriptorIndex := 25, attributes := #[] }, { accessFlags := 25, nameIndex := 162, descriptorIndex := 25, attributes := #[] }, { accessFlags := 25, nameIndex := 187, descriptorIndex := 25, attributes := #[] }, { accessFlags := 26, nameIndex := 48, descriptorIndex := 25, attributes := #[] }, { accessFlags := 25, nameIndex := 277, descriptorIndex := 25, attributes := #[] }, { accessFlags := 25, nameIndex := 280, descriptorIndex := 25, attributes := #[] }, { accessFlags := 25, nameIndex := 282, descriptorIndex := 25, attributes := #[] }, { accessFlags := 25, nameIndex := 284, descriptorIndex := 25, attributes := #[] }, { accessFlags := 25, nameIndex := 286, descriptorIndex := 25, attributes := #[] }, { accessFlags := 25, nameIndex := 288, descriptorIndex := 25, attributes := #[] }, { accessFlags := 25, nameIndex := 290, descriptorIndex := 25, attributes := #[] }, { accessFlags := 25, nameIndex := 292, descriptorIndex := 25, attributes := #[] }, { accessFlags := 26, nameIndex := 108, descriptorIndex := 109, attributes := #[] }, { accessFlags := 25, nameIndex := 294, descriptorIndex := 25, attributes := #[] }])
  fields := #[{ name := "U", type := (.object "jdk/internal/misc/Unsafe"), accessFlags := 24, slot := 0, constantValue := 0 }, { name := "BIG_ENDIAN", type := .boolean, accessFlags := 26, slot := 1, constantValue := 0 }, { name := "LOG2_ARRAY_BOOLEAN_INDEX_SCALE", type := .int, accessFlags := 25, slot := 2, constantValue := 0 }, { name := "LOG2_ARRAY_BYTE_INDEX_SCALE", type := .int, accessFlags := 25, slot := 3, constantValue := 0 }, { name := "LOG2_ARRAY_CHAR_INDEX_SCALE", type := .int, accessFlags := 25, slot := 4, constantValue := 0 }, { name := "LOG2_ARRAY_SHORT_INDEX_SCALE", type := .int, accessFlags := 25, slot := 5, constantValue := 0 }, { name := "LOG2_ARRAY_INT_INDEX_SCALE", type := .int, accessFlags := 25, slot := 6, constantValue := 0 }, { name := "LOG2_ARRAY_LONG_INDEX_SCALE", type := .int, accessFlags := 25, slot := 7, constantValue := 0 }, { name := "LOG2_ARRAY_FLOAT_INDEX_SCALE", type := .int, accessFlags := 25, slot := 8, constantValue := 0 }, { name := "LOG2_ARRAY_DOUBLE_INDEX_SCALE", type := .int, accessFlags := 25, slot := 9, constantValue := 0 }, { name := "LOG2_BYTE_BIT_SIZE", type := .int, accessFlags := 26, slot := 10, constantValue := 0 }, { name := "T_BOOLEAN", type := .int, accessFlags := 25, slot := 11, constantValue := 0 }, { name := "T_CHAR", type := .int, accessFlags := 25, slot := 12, constantValue := 0 }, { name := "T_FLOAT", type := .int, accessFlags := 25, slot := 13, constantValue := 0 }, { name := "T_DOUBLE", type := .int, accessFlags := 25, slot := 14, constantValue := 0 }, { name := "T_BYTE", type := .int, accessFlags := 25, slot := 15, constantValue := 0 }, { name := "T_SHORT", type := .int, accessFlags := 25, slot := 16, constantValue := 0 }, { name := "T_INT", type := .int, accessFlags := 25, slot := 17, constantValue := 0 }, { name := "T_LONG", type := .int, accessFlags := 25, slot := 18, constantValue := 0 }, { name := "JLA", type := (.object "jdk/internal/access/JavaLangAccess"), accessFlags := 26, slot := 19, constantValue := 0 }, { name := "SOFT_MAX_ARRAY_LENGTH", type := .int, accessFlags := 25, slot := 20, constantValue := 0 }]
  methods := #[k13m0]
  instanceTypes := #[]
  staticTypes := #[(.object "jdk/internal/misc/Unsafe"), .boolean, .int, .int, .int, .int, .int, .int, .int, .int, .int, .int, .int, .int, .int, .int, .int, .int, .int, (.object "jdk/internal/access/JavaLangAccess"), .int]
  resolved := Array.replicate 378 none
  statics := none }

def pool14 : Array CpInfo := pool [(1, u "java/lang/Cloneable"), (0, .class_ 1), (0, u "java/lang/Object"), (0, .class_ 3)] 3

/-- java/lang/Cloneable -/
def k14 : Class := { plain "java/lang/Cloneable" (some 0) with
  accessFlags := 1537
  interfaces := #[]
  cf := some (fileOf pool14 2 #[] #[] 1537 4 #[] #[])
  fields := #[]
  methods := #[]
  instanceTypes := #[]
  staticTypes := #[]
  resolved := Array.replicate 8 none
  statics := none }

/-- the primitive byte -/
def k15 : Class := { plain "byte" none with kind := .primitive 'B', accessFlags := 0x411 }
/-- [B -/
def k16 : Class := { plain "[B" (some 0) with kind := .array 15 .byte, interfaces := #[14, 4], accessFlags := 1041 }

/-- the primitive char -/
def k17 : Class := { plain "char" none with kind := .primitive 'C', accessFlags := 0x411 }
/-- [C -/
def k18 : Class := { plain "[C" (some 0) with kind := .array 17 .char, interfaces := #[14, 4], accessFlags := 1041 }

/-- the primitive int -/
def k19 : Class := { plain "int" none with kind := .primitive 'I', accessFlags := 0x411 }
/-- [I -/
def k20 : Class := { plain "[I" (some 0) with kind := .array 19 .int, interfaces := #[14, 4], accessFlags := 1041 }

def heap : Heap := #[{ cls := 9, slots := #[.long 0, .int 1, .null, .int 0, .null, .int 0, .int 0], vm := .statics 9 },
  { cls := 12, slots := #[.null, .null, .null], vm := .statics 12 }]
def classes : Array Class := #[k0, k1, k2, k3, k4, k5, k6, k7, k8, k9, k10, k11, k12, k13, k14, k15, k16, k17, k18, k19, k20]
def interned : List (Array UInt16 × Addr) := []
def slotsUsed : Nat := 10
def theMethod : MethodId := ⟨1, 2⟩
def args0 : Array Value := #[.int 1, .int 2, .int 3, .int 4, .int 5]
def aboutOver (below : List Frame) : State where
  vm := { classes := classes, interned := interned.toArray }
  heap := heap
  slotsUsed := slotsUsed
  threads := #[{ frames := .invoking theMethod args0 :: below }]
def below0 : List Frame := [.native { method := ⟨0, 0⟩, args := #[] }]
def about1 : State := aboutOver below0
def p0 : Program := .bare "" "" ""
def e0 : Env := launch0.env 0 0 0
theorem w_frames : about1.frames = Frame.invoking theMethod args0 :: below0 := rfl
set_option maxRecDepth 65536 in
theorem w_args : argsFit about1.vm theMethod args0 = true := by decide +kernel
set_option maxRecDepth 65536 in
theorem w_heap : heapFits about1 = true := by decide +kernel
set_option maxRecDepth 65536 in
theorem w_runnable : about1.curStatus? = some .runnable := by decide +kernel
set_option maxRecDepth 65536 in
theorem w_alone : about1.alone = true := by decide +kernel
set_option maxRecDepth 65536 in
theorem w_named : about1.methodNamed? x = some theMethod := by decide +kernel
set_option maxRecDepth 65536 in
theorem w_hears : about1.hears theMethod below0 = true := by decide +kernel
set_option maxRecDepth 65536 in
theorem w_ripe : about1.ripe theMethod args0 below0 = true := by decide +kernel
theorem w_running : about1.status = .running := rfl
set_option maxRecDepth 65536 in
theorem w_room : about1.hasRoom e0.platform room_1 = true :=
  launch0.hasRoom_least _ room_1 (by decide +kernel) (by decide +kernel) (by decide +kernel) (by decide +kernel) (by decide +kernel) (by decide +kernel)
theorem allAtoms_all (ts : List Jvm.Cond) (a : Array Jvm.Value) (st : Jvm.State) : (allAtoms ts).before a st = ts.all (fun c => c.before a st) := by
  induction ts with
  | nil => rfl
  | cons c t ih =>
    show (Jvm.Cond.and c (allAtoms t)).before a st = _
    rw [Jvm.Cond.before_and, ih, List.all_cons]
def words1 : List Jvm.Cond := Jvm.Cond.code x code maxLocals ret :: tables_1
/-- a 'code' word, met by the world's own term for the bytes: nothing is compared byte by byte -/
theorem code_word {y : MethodName} {bytes : ByteArray} {mx : Nat} {rt : Option FieldType} {a : Array Value} {s : State} {m : MethodId} {meth : Method} {c : Code} (h1 : s.methodNamed? y = some m) (h2 : s.vm.method? m = some meth) (h3 : meth.code = some c) (h4 : c.code = bytes)
    (h5 : (c.maxLocals == mx && c.exceptionTable.isEmpty && decide (c.maxStack ≤ mostOperands) && decide (meth.sig.returnType = rt) && !meth.locks && decide (parseMethodDescriptor y.desc = some meth.sig)) = true) : (Jvm.Cond.code y bytes mx rt).before a s = true := by
  simp only [Bool.and_eq_true, beq_iff_eq, Bool.not_eq_true', decide_eq_true_eq] at h5
  obtain ⟨⟨⟨⟨⟨g1, g2⟩, g3⟩, g4⟩, g5⟩, g6⟩ := h5
  simp [Cond.before, Cond.holds, Cond.value, h1, h2, h3, h4, g1, g2, g3, g4, g5, g6]
def isCode : Jvm.Cond → Bool
  | .code _ _ _ _ => true
  | _ => false
theorem all_split {L : List Jvm.Cond} {P : Jvm.Cond → Bool} (h1 : L.all (fun c => isCode c || P c) = true) (h2 : ∀ c ∈ L.filter isCode, P c = true) : L.all P = true := by
  refine List.all_eq_true.mpr fun c hc => ?_
  have h := List.all_eq_true.mp h1 c hc
  rcases Bool.eq_false_or_eq_true (isCode c) with hi | hi
  · exact h2 c (List.mem_filter.mpr ⟨hc, hi⟩)
  · simpa [hi] using h
set_option maxRecDepth 65536 in
theorem w_c0 : (Jvm.Cond.code x code maxLocals ret).before args0 about1 = true := code_word (m := ⟨1, 2⟩) (meth := k1m2) (c := k1c2) (by decide +kernel) rfl rfl rfl (by decide +kernel)
set_option maxRecDepth 65536 in
theorem w_c1 : (Jvm.Cond.code ({ cls := "com/example/wirecall/wirecall/demo/User", name := "<init>", desc := "()V" } : Jvm.MethodName) prog_20_method_1_code (1 : Nat) (Option.none : Option Jvm.ClassFile.FieldType)).before args0 about1 = true := code_word (m := ⟨2, 0⟩) (meth := k2m0) (c := k2c0) (by decide +kernel) rfl rfl rfl (by decide +kernel)
set_option maxRecDepth 65536 in
theorem w_c2 : (Jvm.Cond.code ({ cls := "java/lang/Object", name := "<init>", desc := "()V" } : Jvm.MethodName) object_method_1_code (1 : Nat) (Option.none : Option Jvm.ClassFile.FieldType)).before args0 about1 = true := code_word (m := ⟨0, 0⟩) (meth := k0m0) (c := k0c0) (by decide +kernel) rfl rfl rfl (by decide +kernel)
set_option maxRecDepth 65536 in
theorem w_c3 : (Jvm.Cond.code ({ cls := "com/example/wirecall/wirecall/demo/UserEqualsPinLaw", name := "name", desc := "(ICC)Ljava/lang/String;" } : Jvm.MethodName) method_2_code (3 : Nat) (Option.some (Jvm.ClassFile.FieldType.object "java/lang/String"))).before args0 about1 = true := code_word (m := ⟨1, 1⟩) (meth := k1m1) (c := k1c1) (by decide +kernel) rfl rfl rfl (by decide +kernel)
set_option maxRecDepth 65536 in
theorem w_c4 : (Jvm.Cond.code ({ cls := "com/example/wirecall/wirecall/demo/User", name := "<init>", desc := "(ILjava/lang/String;)V" } : Jvm.MethodName) prog_20_method_2_code (3 : Nat) (Option.none : Option Jvm.ClassFile.FieldType)).before args0 about1 = true := code_word (m := ⟨2, 1⟩) (meth := k2m1) (c := k2c1) (by decide +kernel) rfl rfl rfl (by decide +kernel)
set_option maxRecDepth 65536 in
theorem w_c5 : (Jvm.Cond.code ({ cls := "com/example/wirecall/wirecall/demo/User", name := "equals", desc := "(Ljava/lang/Object;)Z" } : Jvm.MethodName) prog_20_method_5_code (3 : Nat) (Option.some Jvm.ClassFile.FieldType.boolean)).before args0 about1 = true := code_word (m := ⟨2, 2⟩) (meth := k2m2) (c := k2c2) (by decide +kernel) rfl rfl rfl (by decide +kernel)
set_option maxRecDepth 65536 in
theorem w_c6 : (Jvm.Cond.code ({ cls := "java/util/Objects", name := "equals", desc := "(Ljava/lang/Object;Ljava/lang/Object;)Z" } : Jvm.MethodName) jdk_31_method_2_code (2 : Nat) (Option.some Jvm.ClassFile.FieldType.boolean)).before args0 about1 = true := code_word (m := ⟨3, 1⟩) (meth := k3m1) (c := k3c1) (by decide +kernel) rfl rfl rfl (by decide +kernel)
set_option maxRecDepth 65536 in
theorem w_c7 : (Jvm.Cond.code ({ cls := "java/lang/String", name := "<init>", desc := "([C)V" } : Jvm.MethodName) jdk_42_method_3_code (2 : Nat) (Option.none : Option Jvm.ClassFile.FieldType)).before args0 about1 = true := code_word (m := ⟨9, 1⟩) (meth := k9m1) (c := k9c1) (by decide +kernel) rfl rfl rfl (by decide +kernel)
set_option maxRecDepth 65536 in
theorem w_c8 : (Jvm.Cond.code ({ cls := "java/lang/String", name := "<init>", desc := "([CIILjava/lang/Void;)V" } : Jvm.MethodName) jdk_42_method_149_code (6 : Nat) (Option.none : Option Jvm.ClassFile.FieldType)).before args0 about1 = true := code_word (m := ⟨9, 3⟩) (meth := k9m3) (c := k9c3) (by decide +kernel) rfl rfl rfl (by decide +kernel)
set_option maxRecDepth 65536 in
theorem w_c9 : (Jvm.Cond.code ({ cls := "java/lang/StringUTF16", name := "compress", desc := "([CII)[B" } : Jvm.MethodName) jdk_52_method_16_code (6 : Nat) (Option.some (Jvm.ClassFile.FieldType.array Jvm.ClassFile.FieldType.byte))).before args0 about1 = true := code_word (m := ⟨10, 2⟩) (meth := k10m2) (c := k10c2) (by decide +kernel) rfl rfl rfl (by decide +kernel)
set_option maxRecDepth 65536 in
theorem w_c10 : (Jvm.Cond.code ({ cls := "java/lang/StringUTF16", name := "compress", desc := "([CI[BII)I" } : Jvm.MethodName) jdk_52_method_21_code (7 : Nat) (Option.some Jvm.ClassFile.FieldType.int)).before args0 about1 = true := code_word (m := ⟨10, 3⟩) (meth := k10m3) (c := k10c3) (by decide +kernel) rfl rfl rfl (by decide +kernel)
set_option maxRecDepth 65536 in
theorem w_c11 : (Jvm.Cond.code ({ cls := "java/lang/StringUTF16", name := "coderFromArrayLen", desc := "([BI)B" } : Jvm.MethodName) jdk_52_method_15_code (2 : Nat) (Option.some Jvm.ClassFile.FieldType.byte)).before args0 about1 = true := code_word (m := ⟨10, 1⟩) (meth := k10m1) (c := k10c1) (by decide +kernel) rfl rfl rfl (by decide +kernel)
set_option maxRecDepth 65536 in
theorem w_c12 : (Jvm.Cond.code ({ cls := "java/lang/String", name := "equals", desc := "(Ljava/lang/Object;)Z" } : Jvm.MethodName) jdk_42_method_66_code (3 : Nat) (Option.some Jvm.ClassFile.FieldType.boolean)).before args0 about1 = true := code_word (m := ⟨9, 2⟩) (meth := k9m2) (c := k9c2) (by decide +kernel) rfl rfl rfl (by decide +kernel)
set_option maxRecDepth 65536 in
theorem w_c13 : (Jvm.Cond.code ({ cls := "java/lang/StringLatin1", name := "equals", desc := "([B[B)Z" } : Jvm.MethodName) jdk_43_method_13_code (3 : Nat) (Option.some Jvm.ClassFile.FieldType.boolean)).before args0 about1 = true := code_word (m := ⟨11, 1⟩) (meth := k11m1) (c := k11c1) (by decide +kernel) rfl rfl rfl (by decide +kernel)
def codes1 : List Jvm.Cond := [Jvm.Cond.code x code maxLocals ret, Jvm.Cond.code ({ cls := "com/example/wirecall/wirecall/demo/User", name := "<init>", desc := "()V" } : Jvm.MethodName) prog_20_method_1_code (1 : Nat) (Option.none : Option Jvm.ClassFile.FieldType), Jvm.Cond.code ({ cls := "java/lang/Object", name := "<init>", desc := "()V" } : Jvm.MethodName) object_method_1_code (1 : Nat) (Option.none : Option Jvm.ClassFile.FieldType), Jvm.Cond.code ({ cls := "com/example/wirecall/wirecall/demo/UserEqualsPinLaw", name := "name", desc := "(ICC)Ljava/lang/String;" } : Jvm.MethodName) method_2_code (3 : Nat) (Option.some (Jvm.ClassFile.FieldType.object "java/lang/String")), Jvm.Cond.code ({ cls := "com/example/wirecall/wirecall/demo/User", name := "<init>", desc := "(ILjava/lang/String;)V" } : Jvm.MethodName) prog_20_method_2_code (3 : Nat) (Option.none : Option Jvm.ClassFile.FieldType), Jvm.Cond.code ({ cls := "com/example/wirecall/wirecall/demo/User", name := "equals", desc := "(Ljava/lang/Object;)Z" } : Jvm.MethodName) prog_20_method_5_code (3 : Nat) (Option.some Jvm.ClassFile.FieldType.boolean), Jvm.Cond.code ({ cls := "java/util/Objects", name := "equals", desc := "(Ljava/lang/Object;Ljava/lang/Object;)Z" } : Jvm.MethodName) jdk_31_method_2_code (2 : Nat) (Option.some Jvm.ClassFile.FieldType.boolean), Jvm.Cond.code ({ cls := "java/lang/String", name := "<init>", desc := "([C)V" } : Jvm.MethodName) jdk_42_method_3_code (2 : Nat) (Option.none : Option Jvm.ClassFile.FieldType), Jvm.Cond.code ({ cls := "java/lang/String", name := "<init>", desc := "([CIILjava/lang/Void;)V" } : Jvm.MethodName) jdk_42_method_149_code (6 : Nat) (Option.none : Option Jvm.ClassFile.FieldType), Jvm.Cond.code ({ cls := "java/lang/StringUTF16", name := "compress", desc := "([CII)[B" } : Jvm.MethodName) jdk_52_method_16_code (6 : Nat) (Option.some (Jvm.ClassFile.FieldType.array Jvm.ClassFile.FieldType.byte)), Jvm.Cond.code ({ cls := "java/lang/StringUTF16", name := "compress", desc := "([CI[BII)I" } : Jvm.MethodName) jdk_52_method_21_code (7 : Nat) (Option.some Jvm.ClassFile.FieldType.int), Jvm.Cond.code ({ cls := "java/lang/StringUTF16", name := "coderFromArrayLen", desc := "([BI)B" } : Jvm.MethodName) jdk_52_method_15_code (2 : Nat) (Option.some Jvm.ClassFile.FieldType.byte), Jvm.Cond.code ({ cls := "java/lang/String", name := "equals", desc := "(Ljava/lang/Object;)Z" } : Jvm.MethodName) jdk_42_method_66_code (3 : Nat) (Option.some Jvm.ClassFile.FieldType.boolean), Jvm.Cond.code ({ cls := "java/lang/StringLatin1", name := "equals", desc := "([B[B)Z" } : Jvm.MethodName) jdk_43_method_13_code (3 : Nat) (Option.some Jvm.ClassFile.FieldType.boolean)]
set_option maxRecDepth 65536 in
theorem codes_eq : words1.filter isCode = codes1 := rfl
theorem w_codes : ∀ c ∈ words1.filter isCode, c.before args0 about1 = true := by
  rw [codes_eq]
  intro c hc
  simp only [codes1, List.mem_cons, List.not_mem_nil, or_false] at hc
  rcases hc with rfl | rfl | rfl | rfl | rfl | rfl | rfl | rfl | rfl | rfl | rfl | rfl | rfl | rfl
  · exact w_c0
  · exact w_c1
  · exact w_c2
  · exact w_c3
  · exact w_c4
  · exact w_c5
  · exact w_c6
  · exact w_c7
  · exact w_c8
  · exact w_c9
  · exact w_c10
  · exact w_c11
  · exact w_c12
  · exact w_c13
set_option maxRecDepth 65536 in
theorem w_t1 : (words1.take 24).all (fun c => isCode c || c.before args0 about1) = true := by decide +kernel
set_option maxRecDepth 65536 in
theorem w_t2 : ((words1.drop 24).take 24).all (fun c => isCode c || c.before args0 about1) = true := by decide +kernel
set_option maxRecDepth 65536 in
theorem w_t3 : (((words1.drop 24).drop 24).take 24).all (fun c => isCode c || c.before args0 about1) = true := by decide +kernel
set_option maxRecDepth 65536 in
theorem w_t4 : (((words1.drop 24).drop 24).drop 24).all (fun c => isCode c || c.before args0 about1) = true := by decide +kernel
theorem w_tables : (allAtoms (Jvm.Cond.code x code maxLocals ret :: tables_1)).before args0 about1 = true := by
  rw [allAtoms_all]
  show words1.all (fun c => c.before args0 about1) = true
  refine all_split ?_ w_codes
  rw [← List.take_append_drop 24 words1, List.all_append, w_t1, ← List.take_append_drop 24 (words1.drop 24), List.all_append, w_t2, ← List.take_append_drop 24 ((words1.drop 24).drop 24), List.all_append, w_t3, w_t4]
  rfl
set_option maxRecDepth 65536 in
theorem w_rest : rest_1_c.before args0 about1 = true := by decide +kernel
set_option maxRecDepth 65536 in
theorem w_case : (Jvm.Cond.and given_1 narrow_1).before args0 about1 = true := by decide +kernel
set_option maxRecDepth 65536 in
theorem w_consts : constsHeld consts_1 about1 := Jvm.Lit.constsHeldB_iff.mp (by decide +kernel)
theorem w_applies : (headSpec (Jvm.Cond.code x code maxLocals ret :: tables_1) room_1).applies x e0.platform about1 = true :=
  (Spec.applies_iff w_frames).mpr ⟨w_running, w_runnable, w_alone, w_named, w_hears, w_ripe, w_room, w_tables⟩
theorem atStart : AtStart classFile x code maxLocals ret World_1 tables_1 room_1 Calls_1 rest_1 Pre_1 launch0 p0 e0 about1 theMethod args0 below0 :=
  ⟨lists_1, trivial, launch0.admits_env _ _ _, launch0.least_env, fairChoices_fair.cas, fairChoices_fair.clock, w_frames, w_args, w_heap, w_applies, ⟨w_consts, trivial⟩, w_rest, w_case⟩
end start1
theorem witness_1 : WitnessClaimed_1 := ⟨start1.p0, start1.e0, start1.about1, start1.theMethod, start1.args0, start1.below0, start1.atStart⟩
end Jvm.Pilot.@@N@@
