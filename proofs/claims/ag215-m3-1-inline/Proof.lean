import JvmDerived
import JvmDerived.Pilot.@@N@@Statement
import JvmDerived.Pilot.@@N@@Code
set_option linter.unusedVariables false
set_option linter.unusedSimpArgs false
@@BLOCK:TracedD.lean.txt@@
namespace Jvm.Pilot.@@N@@
open Jvm Jvm.ClassFile Sem Op Lib Jvm.Free Jvm.Stand Jvm.LawKit Jvm.RoadKit Bundle Jvm.Pilot.@@N@@.Jvm.D

/-- the run that stands at T with the top frame f ends, and its end is as P says -/
def Go (p : Program) (e : Env) (below : List Frame) (P : Outcome → State → Prop) (T : State) (f : JFrame) : Prop :=
  ∃ s₂ o, Steps p.tables e below (T.setTop f) s₂ ∧ s₂.status = .running ∧ Ended s₂ below o ∧ P o s₂
theorem Go.st {p : Program} {e : Env} {below : List Frame} {P : Outcome → State → Prop} {T T' : State} {f f' : JFrame}
    (h : ∀ t, Steps p.tables e below (T'.setTop f') t → Steps p.tables e below (T.setTop f) t) (k : Go p e below P T' f') : Go p e below P T f := by
  obtain ⟨s₂, o, a, b⟩ := k
  exact ⟨s₂, o, h _ a, b⟩
theorem Go.tr {p : Program} {e : Env} {below : List Frame} {P : Outcome → State → Prop} {T T' : State} {f f' : JFrame}
    (h : Steps p.tables e below (T.setTop f) (T'.setTop f')) (k : Go p e below P T' f') : Go p e below P T f := by
  obtain ⟨s₂, o, a, b⟩ := k
  exact ⟨s₂, o, h.trans a, b⟩
/-- what a contract says of the end -/
abbrev Done (s : State) (Q : Option Value → Heap → List Loc → Prop) (C S : Nat) (o : Outcome) (U' : State) : Prop :=
  ∃ v L, o = .returned v ∧ Q v U'.heap L ∧ FrameEnd s o U' L C S
theorem Go.ret {p : Program} {l : Launch} {e : Env} {R : Room} {s : State} {m : MethodId} {args : Array Value} {below : List Frame} {meth : Method} {c : Code} {T : State} {locs : List Loc} {cells slots : Nat} {h : Heap}
    {Q : Option Value → Heap → List Loc → Prop} {C S : Nat} {v : Option Value} {f : JFrame}
    (X : Stand p l e R s m args below meth c T locs cells slots) (hlk : meth.locks = false) (hv : meth.sig.returnType = none → v = none)
    (hs : ∀ fs, (∀ (f : JFrame) (acts : List Action), f.method = m → f.locked = none → f.entered = [] → (doReturn e (T.setTop f) acts v).1 = T.setFrames fs) → Steps p.tables e below (T.setTop f) (T.setFrames fs))
    (eT : T.heap = h) (hQ : Q v h locs) (hc : cells ≤ C) (hl : slots ≤ S) : Go p e below (Done s Q C S) T f := by
  obtain ⟨fs, hr, hrun, hended, hW, hsame⟩ := X.leave (v := v) hv hlk
  refine ⟨_, _, hs fs hr, hrun, hended, v, locs, rfl, ?_, ⟨_, rfl⟩, hW, hsame.mono hc hl⟩
  show Q v T.heap locs
  rw [eT]; exact hQ
theorem Go.retB {p : Program} {l : Launch} {e : Env} {R : Room} {s : State} {m : MethodId} {args : Array Value} {below : List Frame} {meth : Method} {c : Code} {T : State} {locs : List Loc} {cells slots : Nat} {h : Heap}
    {Q : Option Value → Heap → List Loc → Prop} {C S : Nat} {pc : Nat} {Ls : Array Slot} {z : Int32} {rest : List Value} {t : FieldType}
    (X : Stand p l e R s m args below meth c T locs cells slots) (hlk : meth.locks = false) (hx : p.tables.exec = Jvm.exec) (hret : meth.sig.returnType = some t) (ht : t = .boolean ∨ t = .byte ∨ t = .char ∨ t = .short)
    (hd : decode c.code pc = .ok (.ireturn, 1)) (eT : T.heap = h) (hQ : Q (some (.int (nar t z))) h locs) (hc : cells ≤ C) (hl : slots ≤ S) : Go p e below (Done s Q C S) T (mkF m pc Ls (.int z :: rest)) :=
  Go.ret X hlk (fun h => by rw [hret] at h; cases h) (fun _ hr => retN X hx hret ht hd hr) eT hQ hc hl
theorem Go.retV {p : Program} {l : Launch} {e : Env} {R : Room} {s : State} {m : MethodId} {args : Array Value} {below : List Frame} {meth : Method} {c : Code} {T : State} {locs : List Loc} {cells slots : Nat} {h : Heap}
    {Q : Option Value → Heap → List Loc → Prop} {C S : Nat} {pc : Nat} {Ls : Array Slot} {w : Value} {rest : List Value} {t : FieldType} {i : Instr}
    (X : Stand p l e R s m args below meth c T locs cells slots) (hlk : meth.locks = false) (hx : p.tables.exec = Jvm.exec) (hret : meth.sig.returnType = some t) (hn : narrow t w = w)
    (hi : (i = .ireturn ∧ (t = .int ∨ t = .boolean ∨ t = .byte ∨ t = .char ∨ t = .short) ∧ ∃ z, w = .int z) ∨ (i = .lreturn ∧ t = .long ∧ ∃ z, w = .long z) ∨ (i = .dreturn ∧ t = .double ∧ ∃ z, w = .double z) ∨ (i = .freturn ∧ t = .float ∧ ∃ z, w = .float z) ∨ (i = .areturn ∧ t.isReference = true ∧ w.isRef = true))
    (hd : decode c.code pc = .ok (i, 1)) (eT : T.heap = h) (hQ : Q (some w) h locs) (hc : cells ≤ C) (hl : slots ≤ S) : Go p e below (Done s Q C S) T (mkF m pc Ls (w :: rest)) :=
  Go.ret X hlk (fun h => by rw [hret] at h; cases h) (fun _ hr => retOut X hx hret hn hi hd hr) eT hQ hc hl
theorem Go.ret0 {p : Program} {l : Launch} {e : Env} {R : Room} {s : State} {m : MethodId} {args : Array Value} {below : List Frame} {meth : Method} {c : Code} {T : State} {locs : List Loc} {cells slots : Nat} {h : Heap}
    {Q : Option Value → Heap → List Loc → Prop} {C S : Nat} {pc : Nat} {Ls : Array Slot}
    (X : Stand p l e R s m args below meth c T locs cells slots) (hlk : meth.locks = false) (hx : p.tables.exec = Jvm.exec) (hret : meth.sig.returnType = none)
    (hd : decode c.code pc = .ok (.return_, 1)) (eT : T.heap = h) (hQ : Q none h locs) (hc : cells ≤ C) (hl : slots ≤ S) : Go p e below (Done s Q C S) T (mkF m pc Ls []) :=
  Go.ret X hlk (fun _ => rfl) (fun _ hr => X.returnOut hx hret hd hr) eT hQ hc hl
/-- an entry that stands resolved stays so, also where String constants are loaded -/
theorem own_fieldRef {Z : State} {vm1 : Vm} {a0 : Array Value} {own O n d : String} {index : Nat} (hW : Z.Warmed39 vm1) (w : (Cond.fieldRef own index O n d).before a0 Z = true) : (Cond.fieldRef own index O n d).before a0 (Z.setVm vm1) = true := by
  simp only [Cond.before, Cond.holds, Cond.value, State.vm_setVm, hW.alike.findClass, State.names_setVm hW.alike] at w ⊢
  cases q1 : Z.vm.findClass own with
  | none => rw [q1] at w; simp at w
  | some cO =>
    cases q2 : Z.fieldFound? O n d with
    | none => rw [q1, q2] at w; simp at w
    | some z =>
      obtain ⟨c1, k1, i1, f1⟩ := z
      obtain ⟨k2, q3, -⟩ := State.fieldFound?_setVm hW.alike q2
      rw [q1, q2] at w
      rw [q3]
      cases q4 : Z.resolvedAt? own index with
      | none => rw [q4] at w; simp at w
      | some r => rw [State.resolvedAt?_warmed39 hW q4]; rw [q4] at w; exact w
/-- getfield through an entry that stands resolved at the start (the word fieldRef) -/
theorem own_getR {p : Program} {l : Launch} {e : Env} {R : Room} {s : State} {m : MethodId} {args : Array Value} {below : List Frame} {meth : Method} {c : Code} {T : State} {locs : List Loc} {cells slots : Nat} {Z : State} {a0 : Array Value} {h : Heap}
    (X : Stand p l e R s m args below meth c T locs cells slots) (hx : p.tables.exec = Jvm.exec) (hZ : Z.Warmed39 s.vm) {own O n d : String} {index : Nat} (hown : s.vm.findClass own = some m.cls) (w : (Cond.fieldRef own index O n d).before a0 Z = true)
    (eT : T.heap = h) {a : Addr} {v : Value} (F : Fld Z h a O n d v) {g : JFrame} (hg : g.method = m) {rest : List Value} (hs : g.stack = .ref a :: rest) (hd : decode c.code g.pc = .ok (.getfield index, 3)) :
    ∃ T', Stand p l e R s m args below meth c T' locs cells slots ∧ T'.heap = h ∧ ∀ target, Steps p.tables e below (T'.setTop { g with pc := g.pc + 3, stack := v :: rest }) target → Steps p.tables e below (T.setTop g) target := by
  obtain ⟨cell, cf, k, i, f, h1, h2, h3, h4, -, -, h7⟩ := F
  have w1 : (Cond.fieldRef own index O n d).before args s = true := (own_fieldRef hZ w : (Cond.fieldRef own index O n d).before a0 (Z.setVm s.vm) = true)
  have w2 := Cond.fieldRef_warmed X.warmed w1
  obtain ⟨k1, r1, -⟩ := State.fieldFound?_setVm (s := Z) hZ.alike h2
  obtain ⟨k2, r2, -⟩ := State.fieldFound?_setVm (s := s) X.warmed.alike (show s.fieldFound? O n d = _ from r1)
  obtain ⟨c', k', i', f', q1, q2⟩ := Cond.fieldRef_spec (s := s.setVm T.vm) (cur := m.cls) (by rw [State.vm_setVm, X.warmed.alike.findClass]; exact hown) w2
  cases q1.symm.trans r2
  exact ⟨T, X, eT, fun target k => (X.getfieldR hx hg q2 h3 hs (by rw [eT]; exact h1) h4 h7 hd (Steps.refl _)).trans k⟩
/-- the form of every contract here -/
def Con (l : Launch) (Z : State) (y : MethodName) (bytes : ByteArray) (ml : Nat) (ret : Option FieldType) (ws : List Jvm.Cond) (room : Room) (A : Array Value) (h0 : Heap) (Q : Option Value → Heap → List Loc → Prop) : Prop :=
  MetFree l y (head1 (Jvm.Cond.code y bytes ml ret :: ws) room) (fun a U => a = A ∧ Z.Warmed39 U.vm ∧ U.heap = h0) (fun _ _ _ _ _ => True) (fun _ U o U' => ∃ v L, o = .returned v ∧ Q v U'.heap L ∧ FrameEnd U o U' L room.cells room.slots)
theorem own_body {l : Launch} {Z : State} {y : MethodName} {bytes : ByteArray} {ml : Nat} {ret : Option FieldType} {ws : List Jvm.Cond} {room : Room} {A : Array Value} {h0 : Heap} {Q : Option Value → Heap → List Loc → Prop} (hpn : plainFor y = true)
    (body : ∀ (p : Program) (e : Env) (s : State) (m : MethodId) (below : List Frame) (meth : Method) (c : Code) (s₁ : State), p.tables.exec = Jvm.exec → c.code = bytes → c.maxLocals = ml → Z.Warmed39 s.vm → s.vm.findClass y.cls = some m.cls → meth.name = y.name → meth.locks = false → meth.sig.returnType = ret →
      Stand p l e room s m A below meth c s₁ [] 0 0 → s₁.heap = h0 → Go p e below (Done s Q room.cells room.slots) s₁ (entryFrame m A ml)) : Con l Z y bytes ml ret ws room A h0 Q := by
  refine MetFree.of_bodySF hpn hisR ?_
  intro p e s m args below meth c s₁ Bd hml0 hP hK
  obtain ⟨rfl, hZ, hh⟩ := hP
  exact body p e s m below meth c s₁ Bd.exec Bd.bytes hml0 hZ (findClass_of_methodNamed Bd.named) (name_of_methodNamed Bd.named Bd.method).1 Bd.notSynchronized Bd.returns (Stand.of_body Bd) (by rw [← hh, Bd.state]; rfl)
theorem own_back {l : Launch} {R : Room} {p : Program} {e : Env} {below : List Frame} {s Z : State} {args a0 : Array Value} {h : Heap} {y : MethodName} {bytes : ByteArray} {maxL : Nat} {ret : Option FieldType} {rm : Room} {len W : Nat} {as' : Array Value} {Q : Option Value → Heap → List Loc → Prop}
    (hM : Con l Z y bytes maxL ret [] rm as' h Q) (hZ : Z.Warmed39 s.vm) (wc : (Cond.code y bytes maxL ret).before a0 Z = true) (wz : (Cond.initialized y.cls).before a0 Z = true) (hf : rm.frames + 1 ≤ R.frames) (hl : W + (maxL + 11) + rm.locals ≤ R.locals) :
    Back l R p e below s args y len W (fun A a => a = as' ∧ A.U.heap = h ∧ A.cells + rm.cells ≤ R.cells ∧ A.slots + rm.slots ≤ R.slots)
      (fun A _ v B => ∃ L, Q v B.U.heap L ∧ B.locs = A.locs ++ L ∧ B.cells = A.cells + rm.cells ∧ B.slots = A.slots + rm.slots) := backOf (Q := Q) hM hZ wc wz hf hl
theorem Con.weaken {l : Launch} {Z : State} {y : MethodName} {bytes : ByteArray} {ml : Nat} {ret : Option FieldType} {ws : List Jvm.Cond} {room : Room} {A : Array Value} {h0 : Heap} {Q Q' : Option Value → Heap → List Loc → Prop} (h : Con l Z y bytes ml ret ws room A h0 Q) (hq : ∀ v h L, Q v h L → Q' v h L) : Con l Z y bytes ml ret ws room A h0 Q' := fun p e h1 h2 h3 s m args below hf happ hP hK => by
  obtain ⟨n, o, a, b, c, v, L, d, e, f⟩ := h p e h1 h2 h3 s m args below hf happ hP hK
  exact ⟨n, o, a, b, c, v, L, d, hq _ _ _ e, f⟩
theorem own_cat {v : Value} (h : v.isRef = true) : v.category = 1 := by cases v <;> first | rfl | (simp [Value.isRef] at h)
theorem acYes {c : ClassFile.ACond} {x y : Value} (h : x = y) : acV c (decide (x = y)) = acV c true := by rw [decide_eq_true h]

theorem own_weaken {l : Launch} {x : MethodName} {S : Spec} {P : Array Value → State → Prop} {K : Program → Env → List Frame → State → Array Value → Prop} {Q Q' : Array Value → State → Outcome → State → Prop} (h : MetFree l x S P K Q) (hq : ∀ a s o t, Q a s o t → Q' a s o t) : MetFree l x S P K Q' := fun p e h1 h2 h3 s m args below hf happ hP hK => by
  obtain ⟨n, o, a, b, c, d⟩ := h p e h1 h2 h3 s m args below hf happ hP hK
  exact ⟨n, o, a, b, c, hq _ _ _ _ d⟩
section Start
variable {args : Array Value} {first s : State} {o : Option Outcome} {idx : List Nat} {t u : Term}
theorem own_eq_int {k : Int32} (h : (Jvm.Cond.eq t (.int k)).value args first o s idx = some true) : t.eval args first o idx s = some (.int k) := by
  simp only [Cond.value, Term.eval] at h
  cases ht : t.eval args first o idx s with
  | none => simp [ht] at h
  | some x => cases x <;> simp [ht] at h ⊢ <;> exact h
theorem own_eq_ref {a : Addr} (h : (Jvm.Cond.eq t u).value args first o s idx = some true) (hu : u.eval args first o idx s = some (.ref a)) : t.eval args first o idx s = some (.ref a) := by
  simp only [Cond.value] at h
  rw [hu] at h
  cases ht : t.eval args first o idx s with
  | none => simp [ht] at h
  | some x => cases x <;> simp [ht] at h ⊢ <;> exact h
theorem own_len {a : Addr} {cl : Cell} {z : Int32} (h : (Term.length t).eval args first o idx s = some (.int z)) (ht : t.eval args first o idx s = some (.ref a)) (hc : s.heap[a]? = some cl) : cl.slots.size < 2 ^ 31 ∧ cl.slots.size.toInt32 = z := by
  obtain ⟨a', cell, e1, e2, e3⟩ := Term.length_spec h
  cases ht.symm.trans e1
  have e4 := (State.arrayAt?_spec e2).1
  cases hc.symm.trans e4
  refine ⟨?_, (Value.int.inj e3).symm⟩
  by_cases hn : cl.slots.size < 2147483648
  · exact hn
  · simp only [Term.eval, Option.bind_eq_bind, ht, Option.bind_some, e2] at h
    rw [if_neg hn] at h; cases h
theorem own_ne_int {z : Int32} (h : (Jvm.Cond.not (Jvm.Cond.eq t (.int 0))).value args first o s idx = some true) (ht : t.eval args first o idx s = some (.int z)) : ¬ z = 0 := by
  have h1 := not_v h
  intro e
  subst e
  simp [Cond.value, Term.eval, ht] at h1
theorem own_fld {a : Addr} {C n d : String} {k : Int32} (h : (Jvm.Cond.eq (Term.field t C n d) (.int k)).value args s none s [] = some true) (ht : t.eval args s none [] s = some (.ref a)) : Fld s s.heap a C n d (.int k) :=
  Fld.start (by rw [← fld_at ht]; exact own_eq_int h)
theorem own_elem {a : Addr} {cl : Cell} {w : Addr} {j : Int32} {i : Nat} (h : (Jvm.Cond.eq (Term.elem t (.int j)) u).value args s none s [] = some true) (hu : u.eval args s none [] s = some (.ref w)) (ht : t.eval args s none [] s = some (.ref a)) (hc : s.heap[a]? = some cl) (hj : j.toNatClampNeg = i) : cl.slots[i]? = some (.ref w) := by
  subst hj
  exact (elem_in (own_eq_ref h hu) ht rfl hc).2
theorem own_eleI {a : Addr} {cl : Cell} {k j : Int32} {i : Nat} (h : (Jvm.Cond.eq (Term.elem t (.int j)) (.int k)).value args s none s [] = some true) (ht : t.eval args s none [] s = some (.ref a)) (hc : s.heap[a]? = some cl) (hj : j.toNatClampNeg = i) : cl.slots[i]? = some (.int k) := by
  subst hj
  exact (elem_in (own_eq_int h) ht rfl hc).2
end Start

/-- what a contract says of the end, where String constants may have been loaded -/
abbrev DoneW (s Z : State) (EL : List (String × Nat)) (Q : Option Value → Heap → List Loc → Prop) (C S : Nat) (o : Outcome) (U' : State) : Prop :=
  ∃ v L, o = .returned v ∧ Q v U'.heap L ∧ CHr Z EL s.vm s.heap U'.vm U'.heap ∧ ReturnedEndW s o U' L C S
theorem GoW.ret {p : Program} {l : Launch} {e : Env} {R : Room} {s Z : State} {a0 : Array Value} {EL : List (String × Nat)} {vm1 : Vm} {m : MethodId} {args : Array Value} {below : List Frame} {meth : Method} {c : Code} {T : State} {locs : List Loc} {cells slots : Nat} {h h0 : Heap} {k0 : Nat}
    {Q : Option Value → Heap → List Loc → Prop} {C S : Nat} {v : Option Value} {f : JFrame}
    (X : Stand p l e R (s.setVm vm1) m args below meth c T locs cells slots) (hlk : meth.locks = false) (hv : meth.sig.returnType = none → v = none)
    (hs : ∀ fs, (∀ (f : JFrame) (acts : List Action), f.method = m → f.locked = none → f.entered = [] → (doReturn e (T.setTop f) acts v).1 = T.setFrames fs) → Steps p.tables e below (T.setTop f) (T.setFrames fs))
    (eT : T.heap = h) (hS : s.Since vm1 k0) (hk : k0 ≤ h.size) (hZ : Z.Warmed39 vm1) (hEL : EW Z a0 EL) (cr : CHr Z EL s.vm h0 vm1 h) (hh : s.heap = h0) (hQ : Q v h locs) (hc : cells ≤ C) (hl : slots ≤ S) : Go p e below (DoneW s Z EL Q C S) T f := by
  obtain ⟨fs, hr, hrun, hended, hW⟩ := X.leaveW hS (by rw [eT]; exact hk) (v := v) hv hlk
  have cr2 := cr.trans (CHv.at X hZ hEL cr.1)
  subst eT hh
  exact ⟨_, _, hs fs hr, hrun, hended, v, locs, rfl, hQ, cr2, hW.1, hW.2.1, hW.2.2.1, hW.2.2.2.mono hc hl⟩
theorem GoW.retB {p : Program} {l : Launch} {e : Env} {R : Room} {s Z : State} {a0 : Array Value} {EL : List (String × Nat)} {vm1 : Vm} {m : MethodId} {args : Array Value} {below : List Frame} {meth : Method} {c : Code} {T : State} {locs : List Loc} {cells slots : Nat} {h h0 : Heap} {k0 : Nat}
    {Q : Option Value → Heap → List Loc → Prop} {C S : Nat} {pc : Nat} {Ls : Array Slot} {z : Int32} {rest : List Value} {t : FieldType}
    (X : Stand p l e R (s.setVm vm1) m args below meth c T locs cells slots) (hlk : meth.locks = false) (hx : p.tables.exec = Jvm.exec) (hret : meth.sig.returnType = some t) (ht : t = .boolean ∨ t = .byte ∨ t = .char ∨ t = .short)
    (hd : decode c.code pc = .ok (.ireturn, 1)) (eT : T.heap = h) (hS : s.Since vm1 k0) (hk : k0 ≤ h.size) (hZ : Z.Warmed39 vm1) (hEL : EW Z a0 EL) (cr : CHr Z EL s.vm h0 vm1 h) (hh : s.heap = h0) (hQ : Q (some (.int (nar t z))) h locs) (hc : cells ≤ C) (hl : slots ≤ S) : Go p e below (DoneW s Z EL Q C S) T (mkF m pc Ls (.int z :: rest)) :=
  GoW.ret X hlk (fun h => by rw [hret] at h; cases h) (fun _ hr => retN X hx hret ht hd hr) eT hS hk hZ hEL cr hh hQ hc hl
theorem GoW.retV {p : Program} {l : Launch} {e : Env} {R : Room} {s Z : State} {a0 : Array Value} {EL : List (String × Nat)} {vm1 : Vm} {m : MethodId} {args : Array Value} {below : List Frame} {meth : Method} {c : Code} {T : State} {locs : List Loc} {cells slots : Nat} {h h0 : Heap} {k0 : Nat}
    {Q : Option Value → Heap → List Loc → Prop} {C S : Nat} {pc : Nat} {Ls : Array Slot} {w : Value} {rest : List Value} {t : FieldType} {i : Instr}
    (X : Stand p l e R (s.setVm vm1) m args below meth c T locs cells slots) (hlk : meth.locks = false) (hx : p.tables.exec = Jvm.exec) (hret : meth.sig.returnType = some t) (hn : narrow t w = w)
    (hi : (i = .ireturn ∧ (t = .int ∨ t = .boolean ∨ t = .byte ∨ t = .char ∨ t = .short) ∧ ∃ z, w = .int z) ∨ (i = .lreturn ∧ t = .long ∧ ∃ z, w = .long z) ∨ (i = .dreturn ∧ t = .double ∧ ∃ z, w = .double z) ∨ (i = .freturn ∧ t = .float ∧ ∃ z, w = .float z) ∨ (i = .areturn ∧ t.isReference = true ∧ w.isRef = true))
    (hd : decode c.code pc = .ok (i, 1)) (eT : T.heap = h) (hS : s.Since vm1 k0) (hk : k0 ≤ h.size) (hZ : Z.Warmed39 vm1) (hEL : EW Z a0 EL) (cr : CHr Z EL s.vm h0 vm1 h) (hh : s.heap = h0) (hQ : Q (some w) h locs) (hc : cells ≤ C) (hl : slots ≤ S) : Go p e below (DoneW s Z EL Q C S) T (mkF m pc Ls (w :: rest)) :=
  GoW.ret X hlk (fun h => by rw [hret] at h; cases h) (fun _ hr => retOut X hx hret hn hi hd hr) eT hS hk hZ hEL cr hh hQ hc hl
theorem GoW.ret0 {p : Program} {l : Launch} {e : Env} {R : Room} {s Z : State} {a0 : Array Value} {EL : List (String × Nat)} {vm1 : Vm} {m : MethodId} {args : Array Value} {below : List Frame} {meth : Method} {c : Code} {T : State} {locs : List Loc} {cells slots : Nat} {h h0 : Heap} {k0 : Nat}
    {Q : Option Value → Heap → List Loc → Prop} {C S : Nat} {pc : Nat} {Ls : Array Slot}
    (X : Stand p l e R (s.setVm vm1) m args below meth c T locs cells slots) (hlk : meth.locks = false) (hx : p.tables.exec = Jvm.exec) (hret : meth.sig.returnType = none)
    (hd : decode c.code pc = .ok (.return_, 1)) (eT : T.heap = h) (hS : s.Since vm1 k0) (hk : k0 ≤ h.size) (hZ : Z.Warmed39 vm1) (hEL : EW Z a0 EL) (cr : CHr Z EL s.vm h0 vm1 h) (hh : s.heap = h0) (hQ : Q none h locs) (hc : cells ≤ C) (hl : slots ≤ S) : Go p e below (DoneW s Z EL Q C S) T (mkF m pc Ls []) :=
  GoW.ret X hlk (fun _ => rfl) (fun _ hr => X.returnOut hx hret hd hr) eT hS hk hZ hEL cr hh hQ hc hl
/-- the form of a contract of a body that may load String constants -/
def ConW (l : Launch) (Z : State) (EL : List (String × Nat)) (y : MethodName) (bytes : ByteArray) (ml : Nat) (ret : Option FieldType) (ws : List Jvm.Cond) (room : Room) (A : Array Value) (h0 : Heap) (Q : Option Value → Heap → List Loc → Prop) : Prop :=
  MetFree l y (head1 (Jvm.Cond.code y bytes ml ret :: ws) room) (fun a U => a = A ∧ Z.Warmed39 U.vm ∧ U.heap = h0 ∧ CHv Z EL U.vm h0) (fun _ _ _ _ _ => True) (fun _ U o U' => ∃ v L, o = .returned v ∧ Q v U'.heap L ∧ CHr Z EL U.vm U.heap U'.vm U'.heap ∧ ReturnedEndW U o U' L room.cells room.slots)
theorem own_bodyW {l : Launch} {Z : State} {EL : List (String × Nat)} {y : MethodName} {bytes : ByteArray} {ml : Nat} {ret : Option FieldType} {ws : List Jvm.Cond} {room : Room} {A : Array Value} {h0 : Heap} {Q : Option Value → Heap → List Loc → Prop} (hpn : plainFor y = true)
    (body : ∀ (p : Program) (e : Env) (s : State) (m : MethodId) (below : List Frame) (meth : Method) (c : Code) (s₁ : State), p.tables.exec = Jvm.exec → c.code = bytes → c.maxLocals = ml → Z.Warmed39 s.vm → s.vm.findClass y.cls = some m.cls → meth.name = y.name → meth.locks = false → meth.sig.returnType = ret →
      Stand p l e room (s.setVm s.vm) m A below meth c s₁ [] 0 0 → s₁.heap = h0 → s.heap = h0 → s.Since s.vm 0 → CHr Z EL s.vm h0 s.vm h0 → Go p e below (DoneW s Z EL Q room.cells room.slots) s₁ (entryFrame m A ml)) : ConW l Z EL y bytes ml ret ws room A h0 Q := by
  refine MetFree.of_bodySF hpn hisR ?_
  intro p e s m args below meth c s₁ Bd hml0 hP hK
  obtain ⟨rfl, hZ, hh, hC⟩ := hP
  exact body p e s m below meth c s₁ Bd.exec Bd.bytes hml0 hZ (findClass_of_methodNamed Bd.named) (name_of_methodNamed Bd.named Bd.method).1 Bd.notSynchronized Bd.returns (Stand.of_body Bd) (by rw [← hh, Bd.state]; rfl) hh ((State.WarmedH.refl s).since 0) (CHr.refl hC)
theorem own_backW {l : Launch} {R : Room} {p : Program} {e : Env} {below : List Frame} {s Z : State} {args a0 : Array Value} {EL : List (String × Nat)} {vm0 : Vm} {h : Heap} {y : MethodName} {bytes : ByteArray} {maxL : Nat} {ret : Option FieldType} {rm : Room} {len W : Nat} {as' : Array Value} {Q : Option Value → Heap → List Loc → Prop}
    (hM : ConW l Z EL y bytes maxL ret [] rm as' h Q) (hZ : Z.Warmed39 vm0) (wc : (Cond.code y bytes maxL ret).before a0 Z = true) (wz : (Cond.initialized y.cls).before a0 Z = true) (hf : rm.frames + 1 ≤ R.frames) (hl : W + (maxL + 11) + rm.locals ≤ R.locals) (hEL : EW Z a0 EL) (H : CHv Z EL vm0 h) :
    BackS l R p e below (s.setVm vm0) args y len W (fun A a => a = as' ∧ A.U.heap = h ∧ A.cells + rm.cells ≤ R.cells ∧ A.slots + rm.slots ≤ R.slots)
      (fun A _ v B => ∃ L, Q v B.U.heap L ∧ B.locs = A.locs ++ L ∧ B.cells = A.cells + rm.cells ∧ B.slots = A.slots + rm.slots ∧ CHr Z EL vm0 h B.U.vm B.U.heap) := backOfSH (Q := Q) hM hZ wc wz hf hl hEL H
/-- a String whose value is not yet written is no literal's -/
theorem own_safe0 {Z : State} {EL : List (String × Nat)} {vm : Vm} {h : Heap} {x : Addr} (hal : Z.vm.Alike vm) (E : Exa Z h x "java/lang/String") (F : Fld Z h x "java/lang/String" "value" "[B" .null) : Safe Z EL vm h x := fun B => by
  obtain ⟨cell, k, e1, e2, e3, -, -⟩ := E
  obtain ⟨cell', cf, kf, i, f, f1, f2, f3, -, -, -, f7⟩ := F
  cases e1.symm.trans f1
  obtain ⟨p, -, u, a, -, q, -, G, rfl | rfl⟩ := B
  · cases (show h[q.sa]? = some q.sC from G.ha).symm.trans e1
    obtain ⟨cS, ⟨⟨s1, s2, s3, ⟨cv, kv, iv, s4, s4'⟩, r5, s6, s7, s8, -⟩, -, -⟩, -⟩ := G
    obtain ⟨kv', z4⟩ := ff_back (Z := Z) (U := Wst Z vm h) hal s4
    cases f2.symm.trans z4
    have := s8.symm.trans f7
    cases this
  · cases (show h[q.sd]? = some q.SA from G.hd).symm.trans e1
    obtain ⟨cS, -, -, fB, -⟩ := G
    have fB' : Z.vm.findClass "[B" = some q.SA.cls := by rw [← hal.findClass]; exact fB
    exact ids_ne e2 fB' (by decide) rfl

/-- a contract of a callee beneath which a stack trace is filled in -/
def ConK (l : Launch) (Z : State) (y : MethodName) (bytes : ByteArray) (ml : Nat) (ret : Option FieldType) (ws : List Jvm.Cond) (room : Room) (A : Array Value) (h0 : Heap) (Q : Option Value → Heap → List Loc → Prop) : Prop :=
  MetFree l y (head1 (Jvm.Cond.code y bytes ml ret :: ws) room) (fun a U => a = A ∧ Z.Warmed39 U.vm ∧ U.heap = h0) (fun _ _ bl s _ => s.vm.MethodsKnown ∧ s.vm.FramesKnown bl) (fun _ U o U' => ∃ v L, o = .returned v ∧ Q v U'.heap L ∧ FrameEnd U o U' L room.cells room.slots)
theorem own_nvO {n : String} {v : Value} (h : v.isRef = true) : narrow (.object n) v = v ∧ fits (.object n) v = true := by
  rcases ref_cases h with rfl | ⟨_, rfl⟩ <;> exact ⟨rfl, rfl⟩
theorem own_nvA {t : FieldType} {v : Value} (h : v.isRef = true) : narrow (.array t) v = v ∧ fits (.array t) v = true := by
  rcases ref_cases h with rfl | ⟨_, rfl⟩ <;> exact ⟨rfl, rfl⟩
theorem own_bodyK {l : Launch} {Z : State} {y : MethodName} {bytes : ByteArray} {ml : Nat} {ret : Option FieldType} {ws : List Jvm.Cond} {room : Room} {A : Array Value} {h0 : Heap} {Q : Option Value → Heap → List Loc → Prop} (hpn : plainFor y = true)
    (body : ∀ (p : Program) (e : Env) (s : State) (m : MethodId) (below : List Frame) (meth : Method) (c : Code) (s₁ : State), p.tables.exec = Jvm.exec → c.code = bytes → c.maxLocals = ml → Z.Warmed39 s.vm → s.vm.findClass y.cls = some m.cls → meth.name = y.name → meth.locks = false → meth.sig.returnType = ret →
      Stand p l e room s m A below meth c s₁ [] 0 0 → s₁.heap = h0 → s.heap = h0 → s.vm.MethodsKnown → s.vm.FramesKnown below → Go p e below (Done s Q room.cells room.slots) s₁ (entryFrame m A ml)) : ConK l Z y bytes ml ret ws room A h0 Q := by
  refine MetFree.of_bodySF hpn hisR ?_
  intro p e s m args below meth c s₁ Bd hml0 hP hK
  obtain ⟨rfl, hZ, hh⟩ := hP
  exact body p e s m below meth c s₁ Bd.exec Bd.bytes hml0 hZ (findClass_of_methodNamed Bd.named) (name_of_methodNamed Bd.named Bd.method).1 Bd.notSynchronized Bd.returns (Stand.of_body Bd) (by rw [← hh, Bd.state]; rfl) hh hK.1 hK.2
theorem own_backK {l : Launch} {R : Room} {p : Program} {e : Env} {below : List Frame} {s Z : State} {args a0 : Array Value} {h : Heap} {y : MethodName} {bytes : ByteArray} {maxL : Nat} {ret : Option FieldType} {rm : Room} {len W : Nat} {as' : Array Value} {Q : Option Value → Heap → List Loc → Prop}
    (hM : ConK l Z y bytes maxL ret [] rm as' h Q) (hZ : Z.Warmed39 s.vm) (wc : (Cond.code y bytes maxL ret).before a0 Z = true) (wz : (Cond.initialized y.cls).before a0 Z = true) (hf : rm.frames + 1 ≤ R.frames) (hl : W + (maxL + 11) + rm.locals ≤ R.locals) (hTK : s.vm.MethodsKnown) (hBelow : s.vm.FramesKnown below) :
    Back l R p e below s args y len W (fun A a => a = as' ∧ A.U.heap = h ∧ A.cells + rm.cells ≤ R.cells ∧ A.slots + rm.slots ≤ R.slots)
      (fun A _ v B => ∃ L, Q v B.U.heap L ∧ B.locs = A.locs ++ L ∧ B.cells = A.cells + rm.cells ∧ B.slots = A.slots + rm.slots) := backOfKL (Q := Q) hM hZ wc wz hf hl hTK hBelow
def ConX (l : Launch) (Z : State) (EL : List (String × Nat)) (y : MethodName) (bytes : ByteArray) (ml : Nat) (ret : Option FieldType) (ws : List Jvm.Cond) (room : Room) (A : Array Value) (h0 : Heap) (Q : Option Value → Heap → List Loc → Prop) : Prop :=
  MetFree l y (head1 (Jvm.Cond.code y bytes ml ret :: ws) room) (fun a U => a = A ∧ Z.Warmed39 U.vm ∧ U.heap = h0 ∧ CHv Z EL U.vm h0) (fun _ _ bl s _ => s.vm.MethodsKnown ∧ s.vm.FramesKnown bl) (fun _ U o U' => ∃ v L, o = .returned v ∧ Q v U'.heap L ∧ CHr Z EL U.vm U.heap U'.vm U'.heap ∧ ReturnedEndW U o U' L room.cells room.slots)
theorem own_bodyX {l : Launch} {Z : State} {EL : List (String × Nat)} {y : MethodName} {bytes : ByteArray} {ml : Nat} {ret : Option FieldType} {ws : List Jvm.Cond} {room : Room} {A : Array Value} {h0 : Heap} {Q : Option Value → Heap → List Loc → Prop} (hpn : plainFor y = true)
    (body : ∀ (p : Program) (e : Env) (s : State) (m : MethodId) (below : List Frame) (meth : Method) (c : Code) (s₁ : State), p.tables.exec = Jvm.exec → c.code = bytes → c.maxLocals = ml → Z.Warmed39 s.vm → s.vm.findClass y.cls = some m.cls → meth.name = y.name → meth.locks = false → meth.sig.returnType = ret →
      Stand p l e room (s.setVm s.vm) m A below meth c s₁ [] 0 0 → s₁.heap = h0 → s.heap = h0 → s.Since s.vm 0 → CHr Z EL s.vm h0 s.vm h0 → s.vm.MethodsKnown → s.vm.FramesKnown below → Go p e below (DoneW s Z EL Q room.cells room.slots) s₁ (entryFrame m A ml)) : ConX l Z EL y bytes ml ret ws room A h0 Q := by
  refine MetFree.of_bodySF hpn hisR ?_
  intro p e s m args below meth c s₁ Bd hml0 hP hK
  obtain ⟨rfl, hZ, hh, hC⟩ := hP
  exact body p e s m below meth c s₁ Bd.exec Bd.bytes hml0 hZ (findClass_of_methodNamed Bd.named) (name_of_methodNamed Bd.named Bd.method).1 Bd.notSynchronized Bd.returns (Stand.of_body Bd) (by rw [← hh, Bd.state]; rfl) hh ((State.WarmedH.refl s).since 0) (CHr.refl hC) hK.1 hK.2
theorem own_backX {l : Launch} {R : Room} {p : Program} {e : Env} {below : List Frame} {s Z : State} {args a0 : Array Value} {EL : List (String × Nat)} {vm0 : Vm} {h : Heap} {y : MethodName} {bytes : ByteArray} {maxL : Nat} {ret : Option FieldType} {rm : Room} {len W : Nat} {as' : Array Value} {Q : Option Value → Heap → List Loc → Prop}
    (hM : ConX l Z EL y bytes maxL ret [] rm as' h Q) (hZ : Z.Warmed39 vm0) (wc : (Cond.code y bytes maxL ret).before a0 Z = true) (wz : (Cond.initialized y.cls).before a0 Z = true) (hf : rm.frames + 1 ≤ R.frames) (hl : W + (maxL + 11) + rm.locals ≤ R.locals) (hEL : EW Z a0 EL) (H : CHv Z EL vm0 h) (hTK : vm0.MethodsKnown) (hBelow : vm0.FramesKnown below) :
    BackS l R p e below (s.setVm vm0) args y len W (fun A a => a = as' ∧ A.U.heap = h ∧ A.cells + rm.cells ≤ R.cells ∧ A.slots + rm.slots ≤ R.slots)
      (fun A _ v B => ∃ L, Q v B.U.heap L ∧ B.locs = A.locs ++ L ∧ B.cells = A.cells + rm.cells ∧ B.slots = A.slots + rm.slots ∧ CHr Z EL vm0 h B.U.vm B.U.heap) := backOfSKH (Q := Q) hM hZ wc wz hf hl hEL H hTK hBelow

abbrev mq0 : MethodName := ⟨"java/lang/StringUTF16", "compress", "([CI[BII)I"⟩
abbrev mq1 : MethodName := ⟨"java/lang/StringUTF16", "compress", "([CII)[B"⟩
abbrev mq2 : MethodName := ⟨"java/lang/StringUTF16", "coderFromArrayLen", "([BI)B"⟩
abbrev mq3 : MethodName := ⟨"java/lang/String", "<init>", "([CIILjava/lang/Void;)V"⟩
abbrev mq4 : MethodName := ⟨"java/lang/String", "<init>", "([C)V"⟩
abbrev mq5 : MethodName := ⟨"java/lang/StringLatin1", "canEncode", "(C)Z"⟩
abbrev mq6 : MethodName := ⟨"java/lang/StringLatin1", "toBytes", "(C)[B"⟩
abbrev mq7 : MethodName := ⟨"java/lang/String", "<init>", "([BB)V"⟩
abbrev mq8 : MethodName := ⟨"java/lang/String", "valueOf", "(C)Ljava/lang/String;"⟩
abbrev mq9 : MethodName := ⟨"java/lang/String", "coder", "()B"⟩
abbrev mq10 : MethodName := ⟨"java/lang/String", "isLatin1", "()Z"⟩
abbrev mq11 : MethodName := ⟨"java/lang/String", "length", "()I"⟩
abbrev mq12 : MethodName := ⟨"jdk/internal/util/Preconditions", "checkIndex", "(IILjava/util/function/BiFunction;)I"⟩
abbrev mq13 : MethodName := ⟨"java/lang/String", "checkIndex", "(II)V"⟩
abbrev mq14 : MethodName := ⟨"java/lang/StringLatin1", "charAt", "([BI)C"⟩
abbrev mq15 : MethodName := ⟨"java/lang/String", "charAt", "(I)C"⟩
abbrev mq16 : MethodName := ⟨"java/lang/Math", "max", "(II)I"⟩
abbrev mq17 : MethodName := ⟨"java/lang/Math", "min", "(II)I"⟩
abbrev mq18 : MethodName := ⟨"jdk/internal/util/ArraysSupport", "newLength", "(III)I"⟩
abbrev mq19 : MethodName := ⟨"java/lang/AbstractStringBuilder", "newCapacity", "(I)I"⟩
abbrev mq20 : MethodName := ⟨"java/util/Arrays", "copyOf", "([BI)[B"⟩
abbrev mq21 : MethodName := ⟨"java/lang/AbstractStringBuilder", "ensureCapacityInternal", "(I)V"⟩
abbrev mq22 : MethodName := ⟨"java/lang/AbstractStringBuilder", "inflateIfNeededFor", "(Ljava/lang/String;)V"⟩
abbrev mq23 : MethodName := ⟨"java/lang/AbstractStringBuilder", "isLatin1", "()Z"⟩
abbrev mq24 : MethodName := ⟨"java/lang/String", "getBytes", "([BIB)V"⟩
abbrev mq25 : MethodName := ⟨"java/lang/AbstractStringBuilder", "putStringAt", "(ILjava/lang/String;)V"⟩
abbrev mq26 : MethodName := ⟨"java/lang/AbstractStringBuilder", "append", "(Ljava/lang/String;)Ljava/lang/AbstractStringBuilder;"⟩
abbrev mq27 : MethodName := ⟨"java/lang/StringBuilder", "append", "(Ljava/lang/String;)Ljava/lang/StringBuilder;"⟩
abbrev mq28 : MethodName := ⟨"java/lang/Integer", "stringSize", "(I)I"⟩
abbrev mq29 : MethodName := ⟨"java/lang/Integer", "getChars", "(II[B)I"⟩
abbrev mq30 : MethodName := ⟨"java/lang/AbstractStringBuilder", "append", "(I)Ljava/lang/AbstractStringBuilder;"⟩
abbrev mq31 : MethodName := ⟨"java/lang/StringBuilder", "append", "(I)Ljava/lang/StringBuilder;"⟩
abbrev mq32 : MethodName := ⟨"java/lang/AbstractStringBuilder", "<init>", "(I)V"⟩
abbrev mq33 : MethodName := ⟨"java/lang/StringBuilder", "<init>", "()V"⟩
abbrev mq34 : MethodName := ⟨"java/lang/AbstractStringBuilder", "getValue", "()[B"⟩
abbrev mq35 : MethodName := ⟨"java/lang/AbstractStringBuilder", "length", "()I"⟩
abbrev mq36 : MethodName := ⟨"java/lang/StringBuilder", "length", "()I"⟩
abbrev mq37 : MethodName := ⟨"java/util/Arrays", "checkLength", "(II)V"⟩
abbrev mq38 : MethodName := ⟨"java/util/Arrays", "copyOfRangeByte", "([BII)[B"⟩
abbrev mq39 : MethodName := ⟨"java/util/Arrays", "copyOfRange", "([BII)[B"⟩
abbrev mq40 : MethodName := ⟨"java/lang/String", "<init>", "(Ljava/lang/AbstractStringBuilder;Ljava/lang/Void;)V"⟩
abbrev mq41 : MethodName := ⟨"java/lang/String", "<init>", "(Ljava/lang/StringBuilder;)V"⟩
abbrev mq42 : MethodName := ⟨"java/lang/StringBuilder", "toString", "()Ljava/lang/String;"⟩
abbrev mq43 : MethodName := ⟨"com/example/hearsay_rules/hearsayrules/InvalidJsonExceptionAtPinLaw", "digits", "(I)I"⟩
abbrev mq44 : MethodName := ⟨"com/example/hearsay_rules/hearsayrules/InvalidJsonExceptionAtPinLaw", "pow10", "(I)J"⟩
abbrev mq45 : MethodName := ⟨"com/example/hearsay_rules/hearsayrules/InvalidJsonExceptionAtPinLaw", "dig", "(Ljava/lang/String;IIII)Z"⟩
abbrev mq46 : MethodName := ⟨"com/example/hearsay_rules/hearsayrules/InvalidJsonExceptionAtPinLaw", "num", "(Ljava/lang/String;III)Z"⟩
abbrev mq47 : MethodName := ⟨"com/example/hearsay_rules/hearsayrules/InvalidJsonExceptionAtPinLaw", "ch", "(Ljava/lang/String;ILjava/lang/String;I)Z"⟩
abbrev mq48 : MethodName := ⟨"com/example/hearsay_rules/hearsayrules/InvalidJsonExceptionAtPinLaw", "lit", "(Ljava/lang/String;ILjava/lang/String;)Z"⟩
abbrev mq49 : MethodName := ⟨"java/lang/Throwable", "<init>", "(Ljava/lang/String;)V"⟩
abbrev mq50 : MethodName := ⟨"java/lang/Exception", "<init>", "(Ljava/lang/String;)V"⟩
abbrev mq51 : MethodName := ⟨"com/example/hearsay_rules/hearsayrules/InvalidJsonException", "<init>", "(Ljava/lang/String;)V"⟩
abbrev mq52 : MethodName := ⟨"com/example/hearsay_rules/hearsayrules/InvalidJsonException", "at", "(IILjava/lang/String;)Lcom/example/hearsay_rules/hearsayrules/InvalidJsonException;"⟩
abbrev mq53 : MethodName := ⟨"java/lang/Throwable", "getMessage", "()Ljava/lang/String;"⟩
abbrev mq54 : MethodName := ⟨"com/example/hearsay_rules/hearsayrules/InvalidJsonException", "getMessage", "()Ljava/lang/String;"⟩
theorem ww {a0 : Array Value} {Z : State} (hw : ∀ d ∈ tables_1, d.before a0 Z = true) (i : Nat) {d : Jvm.Cond} (h : tables_1[i]? = some d) : d.before a0 Z = true := hw d (List.mem_of_getElem? h)

section Cps
variable {p : Program} {l : Launch} {e : Env} {R : Room} {s : State} {m : MethodId} {args : Array Value} {below : List Frame} {meth : Method} {c : Code} {T T' : State} {locs : List Loc} {cells slots : Nat} {Z : State} {a0 : Array Value} {h : Heap} {P : Outcome → State → Prop} {pc : Nat} {Ls : Array Slot} {Ss rest : List Value}
theorem zst (q : Nat) (L' : Array Slot) (S' : List Value) (st : ∀ t, Steps p.tables e below (T'.setTop (mkF m q L' S')) t → Steps p.tables e below (T.setTop (mkF m pc Ls Ss)) t) (g : Go p e below P T' (mkF m q L' S')) : Go p e below P T (mkF m pc Ls Ss) := Go.st st g
theorem zan (q : Nat) (X : Stand p l e R s m args below meth c T locs cells slots) (hx : p.tables.exec = Jvm.exec) {k : Fin 4} {v : Value} (hd : decode c.code pc = .ok (.aload_n k, 1)) (hl : Ls[k.val]? = some (.val v)) (hv : v.isRef = true) (g : Go p e below P T (mkF m q Ls (v :: Ss))) (hq : pc + 1 = q := by rfl) : Go p e below P T (mkF m pc Ls Ss) := by
  subst hq; exact Go.st (fun _ => XS.aloadN X.here hx rfl hd hl hv) g
theorem zal (q : Nat) (X : Stand p l e R s m args below meth c T locs cells slots) (hx : p.tables.exec = Jvm.exec) {k : Nat} {v : Value} (hd : decode c.code pc = .ok (.aload k, 2)) (hl : Ls[k]? = some (.val v)) (hv : v.isRef = true) (g : Go p e below P T (mkF m q Ls (v :: Ss))) (hq : pc + 2 = q := by rfl) : Go p e below P T (mkF m pc Ls Ss) := by
  subst hq; exact Go.st (fun _ => XS.aload X.here hx rfl hd hl hv) g
theorem zin (q : Nat) (X : Stand p l e R s m args below meth c T locs cells slots) (hx : p.tables.exec = Jvm.exec) {k : Fin 4} {v : Int32} (hd : decode c.code pc = .ok (.iload_n k, 1)) (hl : Ls[k.val]? = some (.val (.int v))) (g : Go p e below P T (mkF m q Ls (.int v :: Ss))) (hq : pc + 1 = q := by rfl) : Go p e below P T (mkF m pc Ls Ss) := by
  subst hq; exact Go.st (fun _ => XS.iloadN X.here hx rfl hd hl) g
theorem zil (q : Nat) (X : Stand p l e R s m args below meth c T locs cells slots) (hx : p.tables.exec = Jvm.exec) {k : Nat} {v : Int32} (hd : decode c.code pc = .ok (.iload k, 2)) (hl : Ls[k]? = some (.val (.int v))) (g : Go p e below P T (mkF m q Ls (.int v :: Ss))) (hq : pc + 2 = q := by rfl) : Go p e below P T (mkF m pc Ls Ss) := by
  subst hq; exact Go.st (fun _ => XS.iload X.here hx rfl hd hl) g
theorem zic (q : Nat) (z : Int32) (X : Stand p l e R s m args below meth c T locs cells slots) (hx : p.tables.exec = Jvm.exec) {i : Int} (hd : decode c.code pc = .ok (.iconst i, 1)) (g : Go p e below P T (mkF m q Ls (.int z :: Ss))) (hz : Int32.ofInt i = z := by decide) (hq : pc + 1 = q := by rfl) : Go p e below P T (mkF m pc Ls Ss) := by
  subst hq hz; exact Go.st (fun _ => XS.iconst X.here hx rfl hd) g
theorem zbp (q : Nat) (z : Int32) (X : Stand p l e R s m args below meth c T locs cells slots) (hx : p.tables.exec = Jvm.exec) {i : Int} (hd : decode c.code pc = .ok (.bipush i, 2)) (g : Go p e below P T (mkF m q Ls (.int z :: Ss))) (hz : (Int8.ofInt i).toInt32 = z := by decide) (hq : pc + 2 = q := by rfl) : Go p e below P T (mkF m pc Ls Ss) := by
  subst hq hz; exact Go.st (fun _ => XS.bipush X.here hx rfl hd) g
theorem zad (q : Nat) (X : Stand p l e R s m args below meth c T locs cells slots) (hx : p.tables.exec = Jvm.exec) {x y : Int32} (hd : decode c.code pc = .ok (.iadd, 1)) (g : Go p e below P T (mkF m q Ls (.int (x + y) :: rest))) (hq : pc + 1 = q := by rfl) : Go p e below P T (mkF m pc Ls (.int y :: .int x :: rest)) := by
  subst hq; exact Go.st (fun _ => XS.iadd X.here hx rfl hd rfl) g
theorem zsb (q : Nat) (X : Stand p l e R s m args below meth c T locs cells slots) (hx : p.tables.exec = Jvm.exec) {x y : Int32} (hd : decode c.code pc = .ok (.isub, 1)) (g : Go p e below P T (mkF m q Ls (.int (x - y) :: rest))) (hq : pc + 1 = q := by rfl) : Go p e below P T (mkF m pc Ls (.int y :: .int x :: rest)) := by
  subst hq; exact Go.st (fun _ => XS.isub X.here hx rfl hd rfl) g
theorem zsn (q : Nat) (L' : Array Slot) (X : Stand p l e R s m args below meth c T locs cells slots) (hx : p.tables.exec = Jvm.exec) {k : Fin 4} {x : Int32} (hd : decode c.code pc = .ok (.istore_n k, 1)) (g : Go p e below P T (mkF m q L' rest)) (hl : storeLocals Ls k.val (.int x) = some L' := by rfl) (hq : pc + 1 = q := by rfl) : Go p e below P T (mkF m pc Ls (.int x :: rest)) := by
  subst hq; exact Go.st (fun _ => XS.istoreN X.here hx rfl hd rfl hl) g
theorem zsl (q : Nat) (L' : Array Slot) (X : Stand p l e R s m args below meth c T locs cells slots) (hx : p.tables.exec = Jvm.exec) {k : Nat} {x : Int32} (hd : decode c.code pc = .ok (.istore k, 2)) (g : Go p e below P T (mkF m q L' rest)) (hl : storeLocals Ls k (.int x) = some L' := by rfl) (hq : pc + 2 = q := by rfl) : Go p e below P T (mkF m pc Ls (.int x :: rest)) := by
  subst hq; exact Go.st (fun _ => XS.istore X.here hx rfl hd rfl hl) g
theorem zrn (q : Nat) (L' : Array Slot) (X : Stand p l e R s m args below meth c T locs cells slots) (hx : p.tables.exec = Jvm.exec) {k : Fin 4} {x : Value} (hd : decode c.code pc = .ok (.astore_n k, 1)) (hv : x.isRef = true) (g : Go p e below P T (mkF m q L' rest)) (hl : storeLocals Ls k.val x = some L' := by rfl) (hq : pc + 1 = q := by rfl) : Go p e below P T (mkF m pc Ls (x :: rest)) := by
  subst hq; exact Go.st (fun _ => XS.astoreN X.here hx rfl hd rfl hv hl) g
theorem zrl (q : Nat) (L' : Array Slot) (X : Stand p l e R s m args below meth c T locs cells slots) (hx : p.tables.exec = Jvm.exec) {k : Nat} {x : Value} (hd : decode c.code pc = .ok (.astore k, 2)) (hv : x.isRef = true) (g : Go p e below P T (mkF m q L' rest)) (hl : storeLocals Ls k x = some L' := by rfl) (hq : pc + 2 = q := by rfl) : Go p e below P T (mkF m pc Ls (x :: rest)) := by
  subst hq; exact Go.st (fun _ => XS.astore X.here hx rfl hd rfl hv hl) g
theorem zii (q : Nat) (L' : Array Slot) (X : Stand p l e R s m args below meth c T locs cells slots) (hx : p.tables.exec = Jvm.exec) {k : Nat} {cst : Int} {x : Int32} (hd : decode c.code pc = .ok (.iinc k cst, 3)) (hl : Ls[k]? = some (.val (.int x))) (g : Go p e below P T (mkF m q L' Ss)) (hl' : storeLocals Ls k (.int (x + Int32.ofInt cst)) = some L' := by rfl) (hq : pc + 3 = q := by rfl) : Go p e below P T (mkF m pc Ls Ss) := by
  subst hq; exact Go.st (fun _ => XS.iinc X.here hx rfl hd hl hl') g
theorem zgo (q : Nat) (X : Stand p l e R s m args below meth c T locs cells slots) (hx : p.tables.exec = Jvm.exec) {o : Int} (hd : decode c.code pc = .ok (.goto o, 3)) (g : Go p e below P T (mkF m q Ls Ss)) (ho : 0 ≤ (pc : Int) + o := by decide) (hq : ((pc : Int) + o).toNat = q := by decide) : Go p e below P T (mkF m pc Ls Ss) :=
  Go.st (fun _ => XS.goto X.here hx rfl (pc0 := pc) (pc' := q) rfl hd ho hq) g
theorem zcy (q : Nat) (X : Stand p l e R s m args below meth c T locs cells slots) (hx : p.tables.exec = Jvm.exec) {cd : ClassFile.Cond} {x y : Int32} {o : Int} (hd : decode c.code pc = .ok (.if_icmp cd o, 3)) (hc : if_icmp.holds cd x y = true) (g : Go p e below P T (mkF m q Ls rest)) (ho : 0 ≤ (pc : Int) + o := by decide) (hq : ((pc : Int) + o).toNat = q := by decide) : Go p e below P T (mkF m pc Ls (.int y :: .int x :: rest)) :=
  Go.st (fun _ => XS.icmpYes X.here hx rfl (pc0 := pc) (pc' := q) rfl hd rfl hc ho hq) g
theorem zcn (q : Nat) (X : Stand p l e R s m args below meth c T locs cells slots) (hx : p.tables.exec = Jvm.exec) {cd : ClassFile.Cond} {x y : Int32} {o : Int} (hd : decode c.code pc = .ok (.if_icmp cd o, 3)) (hc : if_icmp.holds cd x y = false) (g : Go p e below P T (mkF m q Ls rest)) (hq : pc + 3 = q := by rfl) : Go p e below P T (mkF m pc Ls (.int y :: .int x :: rest)) := by
  subst hq; exact Go.st (fun _ => XS.icmpNo X.here hx rfl hd rfl hc) g
theorem zfy (q : Nat) (X : Stand p l e R s m args below meth c T locs cells slots) (hx : p.tables.exec = Jvm.exec) {cd : ClassFile.Cond} {x : Int32} {o : Int} (hd : decode c.code pc = .ok (.ifCond cd o, 3)) (hc : ifCond.holds cd x = true) (g : Go p e below P T (mkF m q Ls rest)) (ho : 0 ≤ (pc : Int) + o := by decide) (hq : ((pc : Int) + o).toNat = q := by decide) : Go p e below P T (mkF m pc Ls (.int x :: rest)) :=
  Go.st (fun _ => XS.ifYes X.here hx rfl (pc0 := pc) (pc' := q) rfl hd rfl hc ho hq) g
theorem zfn (q : Nat) (X : Stand p l e R s m args below meth c T locs cells slots) (hx : p.tables.exec = Jvm.exec) {cd : ClassFile.Cond} {x : Int32} {o : Int} (hd : decode c.code pc = .ok (.ifCond cd o, 3)) (hc : ifCond.holds cd x = false) (g : Go p e below P T (mkF m q Ls rest)) (hq : pc + 3 = q := by rfl) : Go p e below P T (mkF m pc Ls (.int x :: rest)) := by
  subst hq; exact Go.st (fun _ => XS.ifNo X.here hx rfl hd rfl hc) g
theorem zgf (q : Nat) (X : Stand p l e R s m args below meth c T locs cells slots) (hx : p.tables.exec = Jvm.exec) (hZ : Z.Warmed39 s.vm) {own R0 O n d host : String} {index : Nat} (hown : s.vm.findClass own = some m.cls) (w : (Cond.fieldLink own index R0 n d).before a0 Z = true ∨ (Cond.fieldLinkNest own index R0 n d host).before a0 Z = true) (via : Via Z R0 O n d)
    (eT : T.heap = h) {a : Addr} {v : Value} (F : Fld Z h a O n d v) (hd : decode c.code pc = .ok (.getfield index, 3)) (g : ∀ T', Stand p l e R s m args below meth c T' locs cells slots → T'.heap = h → Go p e below P T' (mkF m q Ls (v :: rest))) (hq : pc + 3 = q := by rfl) : Go p e below P T (mkF m pc Ls (.ref a :: rest)) := by
  obtain ⟨T', X', e', st⟩ := getF X hx hZ hown w via eT F (g := mkF m pc Ls (.ref a :: rest)) rfl rfl hd
  subst hq; exact Go.st st (g T' X' e')
theorem gV (q W c' s' : Nat) (X : Stand p l e R s m args below meth c T locs cells slots) {n0 : Nat} (N : Fr n0 locs) (hx : p.tables.exec = Jvm.exec) (hZ : Z.Warmed39 s.vm) {own C : String} {index k : Nat} {y : MethodName} (hown : s.vm.findClass own = some m.cls) (hml : c.maxLocals = k)
    (w1 : (Cond.methodLink own index y).before a0 Z = true) (w2 : (Cond.declares y).before a0 Z = true) (w3 : (Cond.selects C y y).before a0 Z = true) (w4 : (Cond.instanceMethod y).before a0 Z = true)
    {bytes : ByteArray} {maxL : Nat} {ret : Option FieldType} {rm : Room} {as' : Array Value} {Q : Option Value → Heap → List Loc → Prop}
    (hM : Con l Z y bytes maxL ret [] rm as' h Q) (wc : (Cond.code y bytes maxL ret).before a0 Z = true) (wz : (Cond.initialized y.cls).before a0 Z = true)
    (eT : T.heap = h) {a : Addr} (E : Exa Z h a C) (argsL rest : List Value)
    (hlen : ∀ sig, parseMethodDescriptor y.desc = some sig → argsL.length = sig.parameters.length)
    (hd : decode c.code pc = .ok (.invokevirtual index, 3))
    (hk : ∀ (T' : State) (L L' : List Loc) (v : Option Value), Stand p l e R s m args below meth c T' L' c' s' → (Fr n0 L → Fr n0 L') → Q v T'.heap L → Go p e below P T' (mkF m q Ls (v.toList ++ rest)))
    (hq : pc + 3 = q := by rfl) (hy : y.cls ≠ "java/lang/invoke/MethodHandle" ∧ y.cls ≠ "java/lang/invoke/VarHandle" := by decide)
    (hsz : Ls.size = k := by rfl) (hst : Ss = argsL.reverse ++ .ref a :: rest := by rfl) (has : (.ref a :: argsL).toArray = as' := by rfl)
    (hf : rm.frames + 1 ≤ R.frames := by decide) (hW : (rest.map fun v => v.category).sum = W := by rfl) (hl : W + (maxL + 11) + rm.locals ≤ R.locals := by decide) (hc1 : cells + rm.cells = c' := by rfl) (hs1 : slots + rm.slots = s' := by rfl) (hc : c' ≤ R.cells := by decide) (hs : s' ≤ R.slots := by decide) :
    Go p e below P T (mkF m pc Ls Ss) := by
  obtain ⟨cq, kq, qa, qb, qc⟩ := isOf hZ eT E
  obtain ⟨v, _, ⟨T1, L1, kk1, nn1⟩, -, X1, ⟨Lc1, hQ1, lq1, yq1, zz1⟩, st1⟩ := X.virtualBack hx hown (mvT hZ w1) (mvT hZ w2) (notFace_of_selects (args := #[]) (mvT hZ w3)) (mvT hZ w3) (mvT hZ w4) hy (own_back (W := W) hM hZ wc wz hf hl) qa qc (g := mkF m pc Ls Ss) rfl (by rw [hml]; exact hsz) (Steps.refl _) (argsL := argsL) (rest := rest) hlen hst (by show 2 * 0 + _ ≤ _; omega) hd (fun _ _ => ⟨has, eT, by rw [hc1]; exact hc, by rw [hs1]; exact hs⟩)
  dsimp only [Pt.U, Pt.locs, Pt.cells, Pt.slots] at X1 lq1 yq1 zz1 st1 hQ1
  subst lq1 yq1 zz1 hq hc1 hs1
  exact Go.tr st1 (hk _ _ _ _ X1 (Fr.app N) hQ1)
theorem zmvI (hZ : Z.Warmed39 s.vm) {r o n d : String} (w : (Cond.interfaceMethod r o n d).before a0 Z = true) : (Cond.interfaceMethod r o n d).before args s = true := by
  have h1 : (Cond.interfaceMethod r o n d).before a0 (Z.setVm s.vm) = (Cond.interfaceMethod r o n d).before a0 Z := by
    simp only [Cond.before, Cond.holds, Cond.value, State.vm_setVm, hZ.alike.findClass, State.methodFound?_setVm hZ.alike, State.methodNamed?_setVm hZ.alike, arm_isInterface_setVm hZ.alike]
  have h2 := Cond.onTables_vm (A := a0) (A' := args) (U := Z) (U' := s) s.vm (Cond.interfaceMethod r o n d) rfl
  rw [h1, w] at h2
  exact h2.symm
theorem gI (q W c' s' : Nat) (X : Stand p l e R s m args below meth c T locs cells slots) {n0 : Nat} (N : Fr n0 locs) (hx : p.tables.exec = Jvm.exec) (hZ : Z.Warmed39 s.vm) {own C : String} {index count k : Nat} {xi y : MethodName} (hown : s.vm.findClass own = some m.cls) (hml : c.maxLocals = k)
    (w1 : (Cond.methodLink own index xi).before a0 Z = true) (w2 : (Cond.declares xi).before a0 Z = true) (w5 : (Cond.interfaceMethod xi.cls xi.cls xi.name xi.desc).before a0 Z = true) (w3 : (Cond.selects C xi y).before a0 Z = true) (w4 : (Cond.instanceMethod y).before a0 Z = true)
    (w6 : (Cond.publicMethod y).before a0 Z = true) (w7 : (Cond.unhidden C xi.name xi.desc).before a0 Z = true) (w8 : (Cond.castable C xi.cls).before a0 Z = true)
    {bytes : ByteArray} {maxL : Nat} {ret : Option FieldType} {rm : Room} {as' : Array Value} {Q : Option Value → Heap → List Loc → Prop}
    (hM : Con l Z y bytes maxL ret [] rm as' h Q) (wc : (Cond.code y bytes maxL ret).before a0 Z = true) (wz : (Cond.initialized y.cls).before a0 Z = true)
    (eT : T.heap = h) {a : Addr} (E : Exa Z h a C) (argsL rest : List Value)
    (hlen : ∀ sig, parseMethodDescriptor xi.desc = some sig → argsL.length = sig.parameters.length)
    (hd : decode c.code pc = .ok (.invokeinterface index count, 5))
    (hk : ∀ (T' : State) (L L' : List Loc) (v : Option Value), Stand p l e R s m args below meth c T' L' c' s' → (Fr n0 L → Fr n0 L') → Q v T'.heap L → Go p e below P T' (mkF m q Ls (v.toList ++ rest)))
    (hq : pc + 5 = q := by rfl) (hy : xi.cls ≠ "java/lang/invoke/MethodHandle" ∧ xi.cls ≠ "java/lang/invoke/VarHandle" := by decide)
    (hsz : Ls.size = k := by rfl) (hst : Ss = argsL.reverse ++ .ref a :: rest := by rfl) (has : (.ref a :: argsL).toArray = as' := by rfl)
    (hf : rm.frames + 1 ≤ R.frames := by decide) (hW : (rest.map fun v => v.category).sum = W := by rfl) (hl : W + (maxL + 11) + rm.locals ≤ R.locals := by decide) (hc1 : cells + rm.cells = c' := by rfl) (hs1 : slots + rm.slots = s' := by rfl) (hc : c' ≤ R.cells := by decide) (hs : s' ≤ R.slots := by decide) :
    Go p e below P T (mkF m pc Ls Ss) := by
  obtain ⟨cq, kq, qa, qb, qc⟩ := isOf hZ eT E
  obtain ⟨v, _, ⟨T1, L1, kk1, nn1⟩, -, X1, ⟨Lc1, hQ1, lq1, yq1, zz1⟩, st1⟩ := X.interfaceBack hx hown (mvT hZ w1) (mvT hZ w2) (zmvI hZ w5) (mvT hZ w3) (mvT hZ w4) (mvT hZ w6) (mvT hZ w7) (mvT hZ w8) hy (own_back (W := W) hM hZ wc wz hf hl) qa qb qc (g := mkF m pc Ls Ss) rfl (by rw [hml]; exact hsz) (Steps.refl _) (argsL := argsL) (rest := rest) hlen hst (by show 2 * 0 + _ ≤ _; omega) hd (fun _ _ => ⟨has, eT, by rw [hc1]; exact hc, by rw [hs1]; exact hs⟩)
  dsimp only [Pt.U, Pt.locs, Pt.cells, Pt.slots] at X1 lq1 yq1 zz1 st1 hQ1
  subst lq1 yq1 zz1 hq hc1 hs1
  exact Go.tr st1 (hk _ _ _ _ X1 (Fr.app N) hQ1)
theorem zsk (S' : List Value) (g : Go p e below P T (mkF m pc Ls S')) (hq : Ss = S' := by rfl) : Go p e below P T (mkF m pc Ls Ss) := by
  subst hq; exact g
theorem zln (q : Nat) (X : Stand p l e R s m args below meth c T locs cells slots) (hx : p.tables.exec = Jvm.exec) {k : Fin 4} {v : Int64} (hd : decode c.code pc = .ok (.lload_n k, 1)) (hl : Ls[k.val]? = some (.val (.long v))) (g : Go p e below P T (mkF m q Ls (.long v :: Ss))) (hq : pc + 1 = q := by rfl) : Go p e below P T (mkF m pc Ls Ss) := by
  subst hq; exact Go.st (fun _ => XS.lloadN X.here hx rfl hd hl) g
theorem zll (q : Nat) (X : Stand p l e R s m args below meth c T locs cells slots) (hx : p.tables.exec = Jvm.exec) {k : Nat} {v : Int64} (hd : decode c.code pc = .ok (.lload k, 2)) (hl : Ls[k]? = some (.val (.long v))) (g : Go p e below P T (mkF m q Ls (.long v :: Ss))) (hq : pc + 2 = q := by rfl) : Go p e below P T (mkF m pc Ls Ss) := by
  subst hq; exact Go.st (fun _ => XS.lload X.here hx rfl hd hl) g
theorem gS (q W c' s' : Nat) (X : Stand p l e R s m args below meth c T locs cells slots) {n0 : Nat} (N : Fr n0 locs) (hx : p.tables.exec = Jvm.exec) (hZ : Z.Warmed39 s.vm) {own : String} {index k : Nat} {y : MethodName} (hown : s.vm.findClass own = some m.cls) (hml : c.maxLocals = k)
    (w1 : (Cond.methodLink own index y).before a0 Z = true) (w2 : (Cond.static y).before a0 Z = true) (wz : (Cond.initialized y.cls).before a0 Z = true)
    {bytes : ByteArray} {maxL : Nat} {ret : Option FieldType} {rm : Room} {as' : Array Value} {Q : Option Value → Heap → List Loc → Prop}
    (hM : Con l Z y bytes maxL ret [] rm as' h Q) (wc : (Cond.code y bytes maxL ret).before a0 Z = true)
    (eT : T.heap = h) (argsL rest : List Value)
    (hlen : ∀ sig, parseMethodDescriptor y.desc = some sig → argsL.length = sig.parameters.length)
    (hd : decode c.code pc = .ok (.invokestatic index, 3))
    (hk : ∀ (T' : State) (L L' : List Loc) (v : Option Value), Stand p l e R s m args below meth c T' L' c' s' → (Fr n0 L → Fr n0 L') → Q v T'.heap L → Go p e below P T' (mkF m q Ls (v.toList ++ rest)))
    (hq : pc + 3 = q := by rfl) (hy : y.cls ≠ "java/lang/invoke/MethodHandle" ∧ y.cls ≠ "java/lang/invoke/VarHandle" := by decide)
    (hsz : Ls.size = k := by rfl) (hst : Ss = argsL.reverse ++ rest := by rfl) (has : argsL.toArray = as' := by rfl)
    (hf : rm.frames + 1 ≤ R.frames := by decide) (hW : (rest.map fun v => v.category).sum = W := by rfl) (hl : W + (maxL + 11) + rm.locals ≤ R.locals := by decide) (hc1 : cells + rm.cells = c' := by rfl) (hs1 : slots + rm.slots = s' := by rfl) (hc : c' ≤ R.cells := by decide) (hs : s' ≤ R.slots := by decide) :
    Go p e below P T (mkF m pc Ls Ss) := by
  obtain ⟨v, _, ⟨T1, L1, kk1, nn1⟩, -, X1, ⟨Lc1, hQ1, lq1, yq1, zz1⟩, st1⟩ := Jvm.LawKit.callS X hx hown (mvT hZ w1) (mvT hZ w2) (mvT hZ wz) (mvT hZ wc) hy (own_back (W := W) hM hZ wc wz hf hl) (g := mkF m pc Ls Ss) rfl (by rw [hml]; exact hsz) (argsL := argsL) (rest := rest) hlen hst (by show 2 * 0 + _ ≤ _; omega) hd (fun _ _ => ⟨has, eT, by rw [hc1]; exact hc, by rw [hs1]; exact hs⟩)
  dsimp only [Pt.U, Pt.locs, Pt.cells, Pt.slots] at X1 lq1 yq1 zz1 st1 hQ1
  subst lq1 yq1 zz1 hq hc1 hs1
  exact Go.st st1 (hk _ _ _ _ X1 (Fr.app N) hQ1)
end Cps

/-- Integer's two tables -/
def onesL : List Value := (List.range 100).map (fun r => .int (Int32.ofNat (48 + r % 10)))
def tensL : List Value := (List.range 100).map (fun r => .int (Int32.ofNat (48 + r / 10)))

def World1 (Z : State) (wO : Addr) (wT : Addr) (kO : ClassId) (kT : ClassId) (iC : Int32) (vF : Value) (vU : Value) (vS : Value) : Prop :=
  Sta Z Z.heap "java/lang/String" "COMPACT_STRINGS" "Z" (.int iC) ∧
  ¬ iC = (0 : Int32) ∧
  Sta Z Z.heap "jdk/internal/util/Preconditions" "SIOOBE_FORMATTER" "Ljava/util/function/BiFunction;" vF ∧
  vF.isRef = true ∧
  Sta Z Z.heap "java/lang/Throwable" "UNASSIGNED_STACK" "[Ljava/lang/StackTraceElement;" vU ∧
  vU.isRef = true ∧
  Sta Z Z.heap "java/lang/Throwable" "SUPPRESSED_SENTINEL" "Ljava/util/List;" vS ∧
  vS.isRef = true ∧
  Sta Z Z.heap "java/lang/Integer" "DigitOnes" "[B" (.ref wO) ∧
  Exa Z Z.heap wO "[B" ∧
  Sta Z Z.heap "java/lang/Integer" "DigitTens" "[B" (.ref wT) ∧
  Exa Z Z.heap wT "[B" ∧
  Arv Z Z.heap wO kO .byte (100 : Int32) onesL (.int (0 : Int32)) ∧
  Arv Z Z.heap wT kT .byte (100 : Int32) tensL (.int (0 : Int32))
abbrev EL : List (String × Nat) := consts_1
theorem own_EL {Z : State} {a0 : Array Value} (hw : ∀ d ∈ tables_1, d.before a0 Z = true) : EW Z a0 EL := (EW.cons (hw _ (List.mem_of_getElem? (i := 55) rfl)) (by decide) (EW.cons (hw _ (List.mem_of_getElem? (i := 127) rfl)) (by decide) (EW.cons (hw _ (List.mem_of_getElem? (i := 128) rfl)) (by decide) (EW.cons (hw _ (List.mem_of_getElem? (i := 249) rfl)) (by decide) (EW.cons (hw _ (List.mem_of_getElem? (i := 297) rfl)) (by decide) (EW.cons (hw _ (List.mem_of_getElem? (i := 298) rfl)) (by decide) (EW.cons (hw _ (List.mem_of_getElem? (i := 318) rfl)) (by decide) EW.nil)))))))
theorem own_wS {Z : State} {a0 : Array Value} (hw : ∀ d ∈ tables_1, d.before a0 Z = true) : ∀ a ∈ Bundle.stringAtoms, a.before a0 Z = true := by
  intro a ha
  simp only [Bundle.stringAtoms, Bundle.sN, List.mem_cons, List.not_mem_nil, or_false] at ha
  rcases ha with rfl | rfl | rfl | rfl | rfl | rfl | rfl
  · exact (ww hw 3 rfl)
  · exact (ww hw 2 rfl)
  · exact (ww hw 20 rfl)
  · exact (ww hw 30 rfl)
  · exact (ww hw 28 rfl)
  · exact (ww hw 56 rfl)
  · exact (ww hw 57 rfl)
theorem pn_java_lang_StringUTF16 : plainName "java/lang/StringUTF16" = true := by first | (simp [plainName, overriddenIn]; done) | decide +kernel
theorem d5_0 : decode jdk_52_method_21_code 0 = .ok (.iconst 0, 1) := by decide +kernel
theorem d5_1 : decode jdk_52_method_21_code 1 = .ok (.istore 5, 2) := by decide +kernel
theorem d5_3 : decode jdk_52_method_21_code 3 = .ok (.iload 5, 2) := by decide +kernel
theorem d5_5 : decode jdk_52_method_21_code 5 = .ok (.iload 4, 2) := by decide +kernel
theorem d5_7 : decode jdk_52_method_21_code 7 = .ok (.if_icmp .ge 37, 3) := by decide +kernel
theorem d5_10 : decode jdk_52_method_21_code 10 = .ok (.aload_n 0, 1) := by decide +kernel
theorem d5_11 : decode jdk_52_method_21_code 11 = .ok (.iload_n 1, 1) := by decide +kernel
theorem d5_12 : decode jdk_52_method_21_code 12 = .ok (.caload, 1) := by decide +kernel
theorem d5_13 : decode jdk_52_method_21_code 13 = .ok (.istore 6, 2) := by decide +kernel
theorem d5_15 : decode jdk_52_method_21_code 15 = .ok (.iload 6, 2) := by decide +kernel
theorem d5_17 : decode jdk_52_method_21_code 17 = .ok (.sipush 255, 3) := by decide +kernel
theorem d5_20 : decode jdk_52_method_21_code 20 = .ok (.if_icmp .le 6, 3) := by decide +kernel
theorem d5_26 : decode jdk_52_method_21_code 26 = .ok (.aload_n 2, 1) := by decide +kernel
theorem d5_27 : decode jdk_52_method_21_code 27 = .ok (.iload_n 3, 1) := by decide +kernel
theorem d5_28 : decode jdk_52_method_21_code 28 = .ok (.iload 6, 2) := by decide +kernel
theorem d5_30 : decode jdk_52_method_21_code 30 = .ok (.i2b, 1) := by decide +kernel
theorem d5_31 : decode jdk_52_method_21_code 31 = .ok (.bastore, 1) := by decide +kernel
theorem d5_32 : decode jdk_52_method_21_code 32 = .ok (.iinc 1 1, 3) := by decide +kernel
theorem d5_35 : decode jdk_52_method_21_code 35 = .ok (.iinc 3 1, 3) := by decide +kernel
theorem d5_38 : decode jdk_52_method_21_code 38 = .ok (.iinc 5 1, 3) := by decide +kernel
theorem d5_41 : decode jdk_52_method_21_code 41 = .ok (.goto (-38), 3) := by decide +kernel
theorem d5_44 : decode jdk_52_method_21_code 44 = .ok (.iload 4, 2) := by decide +kernel
theorem d5_46 : decode jdk_52_method_21_code 46 = .ok (.ireturn, 1) := by decide +kernel
set_option maxRecDepth 65536 in
set_option maxHeartbeats 40000000 in
theorem st5_2 (l : Launch) (Z : State) (a0 : Array Value) (hw : ∀ d ∈ tables_1, d.before a0 Z = true) (ws : List Jvm.Cond) (a2 : Addr) (k2 : ClassId) (a1 : Addr) (k1 : ClassId) (c0 : Int32) (c1 : Int32) (h0 : Heap) (n0 : Nat) (O0 : Old Z n0 h0) (hc_c0 : ¬ (255 : Int32) < c0) (hc_c1 : ¬ (255 : Int32) < c1) (ne12 : a1 ≠ a2) (g_a2 : n0 ≤ a2) (V_a1 : Arv Z h0 a1 k1 .char (2 : Int32) [(.int c0), (.int c1)] (.int 0)) (V_a2 : Arv Z h0 a2 k2 .byte (2 : Int32) [(.int 0), (.int 0)] (.int 0)) :
    Con l Z mq0 jdk_52_method_21_code 7 (some .int) ws ({ frames := 0, cells := 0, slots := 0, locals := 0 } : Room) #[(.ref a1), (.int 0), (.ref a2), (.int 0), (.int 2)] h0 (fun v h L => v = some (.int 2) ∧ Fr n0 L ∧ Keep h0 h [a2] ∧ Arv Z h a2 k2 .byte (2 : Int32) [(.int (nar .byte (c0.toInt8.toInt32))), (.int (nar .byte (c1.toInt8.toInt32)))] (.int 0)) := by
  refine own_body (plainFor_of_name pn_java_lang_StringUTF16) ?_
  intro p e s m below meth c s₁ hx hby hml hZ hown hnm hlk hret X0 e0
  have N0 := Fr.nil n0
  have D := @hb _ _ hby
  have K0 : Keep h0 h0 [a2] := Keep.refl _ _
  refine Go.st (T' := s₁) (f' := (mkF m 0 #[rv a1, iv 0, rv a2, iv 0, iv 2, .unset, .unset] [])) (fun _ k => castTop (by first | (simp [entryFrame, mkF, argsToLocals, Value.category]; done) | rfl) k) ?_
  have lt_a1 := V_a1.lt
  have lt_a2 := V_a2.lt
  refine zic 1 0 X0 hx (D d5_0) ?_
  refine zsl 3 #[rv a1, iv 0, rv a2, iv 0, iv 2, iv 0, .unset] X0 hx (D d5_1) ?_
  refine zil 5 X0 hx (D d5_3) rfl ?_
  refine zil 7 X0 hx (D d5_5) rfl ?_
  refine zcn 10 X0 hx (D d5_7) (by decide) ?_
  refine zan 11 X0 hx (D d5_10) rfl rfl ?_
  refine zin 12 X0 hx (D d5_11) rfl ?_
  obtain ⟨cl1, Ar1, -, S1, -, H1, -⟩ := id V_a1
  have hin1 : ¬ ((0 : Int32) < 0 ∨ cl1.slots.size ≤ ((0 : Int32)).toNatClampNeg) := inb_of S1 ⟨by decide, by decide⟩
  have hat1 : cl1.slots[((0 : Int32)).toNatClampNeg]? = some (.int c0) := H1.at hin1 rfl
  refine Go.st (f' := (mkF m 13 #[rv a1, iv 0, rv a2, iv 0, iv 2, iv 0, .unset] [(.int c0)])) (fun _ k => X0.caload hx (j := (0 : Int32)) (v := (.int c0)) (by rw [e0]; exact Ar1.1) (State.isArrayOf_alike hZ.alike Ar1.2.1) Ar1.2.2 hin1 hat1 (g := (mkF m 12 #[rv a1, iv 0, rv a2, iv 0, iv 2, iv 0, .unset] [(.int 0), (.ref a1)])) rfl rfl (D d5_12) _ k) ?_
  refine zsl 15 #[rv a1, iv 0, rv a2, iv 0, iv 2, iv 0, iv c0] X0 hx (D d5_13) ?_
  refine zil 17 X0 hx (D d5_15) rfl ?_
  refine Go.st (f' := (mkF m 20 #[rv a1, iv 0, rv a2, iv 0, iv 2, iv 0, iv c0] [(.int 255), (.int c0)])) (fun _ k => XS.sipush X0.here hx rfl (D d5_17) k) ?_
  refine zcy 26 X0 hx (D d5_20) (flt hc_c0).2.2.2 ?_
  refine zan 27 X0 hx (D d5_26) rfl rfl ?_
  refine zin 28 X0 hx (D d5_27) rfl ?_
  refine zil 30 X0 hx (D d5_28) rfl ?_
  refine Go.st (f' := (mkF m 31 #[rv a1, iv 0, rv a2, iv 0, iv 2, iv 0, iv c0] [(.int (c0.toInt8.toInt32)), (.int 0), (.ref a2)])) (fun _ k => XS.i2b X0.here hx rfl (D d5_30) rfl k) ?_
  obtain ⟨cl2, Ar2, q2, S2, Nx2, H2, G2⟩ := id V_a2
  have hin2 : ¬ ((0 : Int32) < 0 ∨ cl2.slots.size ≤ ((0 : Int32)).toNatClampNeg) := inb_of S2 ⟨by decide, by decide⟩
  obtain ⟨T3, h3, X3, e3, W3, st3⟩ := stB X0 hx hZ e0 Ar2 (j := (0 : Int32)) hin2 (g := (mkF m 31 #[rv a1, iv 0, rv a2, iv 0, iv 2, iv 0, iv c0] [(.int (c0.toInt8.toInt32)), (.int 0), (.ref a2)])) rfl rfl (D d5_31)
  have V_a2_3 : Arv Z h3 a2 k2 .byte (2 : Int32) [(.int (nar .byte (c0.toInt8.toInt32))), (.int (0 : Int32))] (.int (0 : Int32)) := Arv.set Ar2 q2 S2 Nx2 H2 G2 (fits_nar_byte _) W3 0 rfl (Nat.le_of_ble_eq_true rfl)
  have N3 := Fr.snoc X3 N0 g_a2
  have O3 : Old Z n0 h3 := O0.wr W3 g_a2
  have K3 : Keep h0 h3 [a2] := K0.wr W3 (Or.inl (List.mem_of_getElem? (i := 0) rfl))
  refine zst 32 #[rv a1, iv 0, rv a2, iv 0, iv 2, iv 0, iv c0] [] st3 ?_
  refine zii 35 #[rv a1, iv 1, rv a2, iv 0, iv 2, iv 0, iv c0] X3 hx (D d5_32) rfl ?_
  refine zii 38 #[rv a1, iv 1, rv a2, iv 1, iv 2, iv 0, iv c0] X3 hx (D d5_35) rfl ?_
  refine zii 41 #[rv a1, iv 1, rv a2, iv 1, iv 2, iv 1, iv c0] X3 hx (D d5_38) rfl ?_
  refine zgo 3 X3 hx (D d5_41) ?_
  refine zil 5 X3 hx (D d5_3) rfl ?_
  refine zil 7 X3 hx (D d5_5) rfl ?_
  refine zcn 10 X3 hx (D d5_7) (by decide) ?_
  refine zan 11 X3 hx (D d5_10) rfl rfl ?_
  refine zin 12 X3 hx (D d5_11) rfl ?_
  have ft5 := (V_a1.other W3 ne12)
  obtain ⟨cl4, Ar4, -, S4, -, H4, -⟩ := id ft5
  have hin4 : ¬ ((1 : Int32) < 0 ∨ cl4.slots.size ≤ ((1 : Int32)).toNatClampNeg) := inb_of S4 ⟨by decide, by decide⟩
  have hat4 : cl4.slots[((1 : Int32)).toNatClampNeg]? = some (.int c1) := H4.at hin4 rfl
  refine Go.st (f' := (mkF m 13 #[rv a1, iv 1, rv a2, iv 1, iv 2, iv 1, iv c0] [(.int c1)])) (fun _ k => X3.caload hx (j := (1 : Int32)) (v := (.int c1)) (by rw [e3]; exact Ar4.1) (State.isArrayOf_alike hZ.alike Ar4.2.1) Ar4.2.2 hin4 hat4 (g := (mkF m 12 #[rv a1, iv 1, rv a2, iv 1, iv 2, iv 1, iv c0] [(.int 1), (.ref a1)])) rfl rfl (D d5_12) _ k) ?_
  refine zsl 15 #[rv a1, iv 1, rv a2, iv 1, iv 2, iv 1, iv c1] X3 hx (D d5_13) ?_
  refine zil 17 X3 hx (D d5_15) rfl ?_
  refine Go.st (f' := (mkF m 20 #[rv a1, iv 1, rv a2, iv 1, iv 2, iv 1, iv c1] [(.int 255), (.int c1)])) (fun _ k => XS.sipush X3.here hx rfl (D d5_17) k) ?_
  refine zcy 26 X3 hx (D d5_20) (flt hc_c1).2.2.2 ?_
  refine zan 27 X3 hx (D d5_26) rfl rfl ?_
  refine zin 28 X3 hx (D d5_27) rfl ?_
  refine zil 30 X3 hx (D d5_28) rfl ?_
  refine Go.st (f' := (mkF m 31 #[rv a1, iv 1, rv a2, iv 1, iv 2, iv 1, iv c1] [(.int (c1.toInt8.toInt32)), (.int 1), (.ref a2)])) (fun _ k => XS.i2b X3.here hx rfl (D d5_30) rfl k) ?_
  obtain ⟨cl6, Ar6, q6, S6, Nx6, H6, G6⟩ := id V_a2_3
  have hin6 : ¬ ((1 : Int32) < 0 ∨ cl6.slots.size ≤ ((1 : Int32)).toNatClampNeg) := inb_of S6 ⟨by decide, by decide⟩
  obtain ⟨T7, h7, X7, e7, W7, st7⟩ := stB X3 hx hZ e3 Ar6 (j := (1 : Int32)) hin6 (g := (mkF m 31 #[rv a1, iv 1, rv a2, iv 1, iv 2, iv 1, iv c1] [(.int (c1.toInt8.toInt32)), (.int 1), (.ref a2)])) rfl rfl (D d5_31)
  have V_a2_7 : Arv Z h7 a2 k2 .byte (2 : Int32) [(.int (nar .byte (c0.toInt8.toInt32))), (.int (nar .byte (c1.toInt8.toInt32)))] (.int (0 : Int32)) := Arv.set Ar6 q6 S6 Nx6 H6 G6 (fits_nar_byte _) W7 1 rfl (Nat.le_of_ble_eq_true rfl)
  have N7 := Fr.snoc X7 N3 g_a2
  have O7 : Old Z n0 h7 := O3.wr W7 g_a2
  have K7 : Keep h0 h7 [a2] := K3.wr W7 (Or.inl (List.mem_of_getElem? (i := 0) rfl))
  refine zst 32 #[rv a1, iv 1, rv a2, iv 1, iv 2, iv 1, iv c1] [] st7 ?_
  refine zii 35 #[rv a1, iv 2, rv a2, iv 1, iv 2, iv 1, iv c1] X7 hx (D d5_32) rfl ?_
  refine zii 38 #[rv a1, iv 2, rv a2, iv 2, iv 2, iv 1, iv c1] X7 hx (D d5_35) rfl ?_
  refine zii 41 #[rv a1, iv 2, rv a2, iv 2, iv 2, iv 2, iv c1] X7 hx (D d5_38) rfl ?_
  refine zgo 3 X7 hx (D d5_41) ?_
  refine zil 5 X7 hx (D d5_3) rfl ?_
  refine zil 7 X7 hx (D d5_5) rfl ?_
  refine zcy 44 X7 hx (D d5_7) (by decide) ?_
  refine zil 46 X7 hx (D d5_44) rfl ?_
  refine Go.retV X7 hlk hx (t := .int) hret rfl (Or.inl ⟨rfl, Or.inl rfl, _, rfl⟩) (D d5_46) e7 ?_ (by decide) (by decide)
  exact ⟨rfl, N7, K7, V_a2_7⟩
theorem d4_0 : decode jdk_52_method_16_code 0 = .ok (.iload_n 2, 1) := by decide +kernel
theorem d4_1 : decode jdk_52_method_16_code 1 = .ok (.newarray .byte, 2) := by decide +kernel
theorem d4_3 : decode jdk_52_method_16_code 3 = .ok (.astore_n 3, 1) := by decide +kernel
theorem d4_4 : decode jdk_52_method_16_code 4 = .ok (.aload_n 0, 1) := by decide +kernel
theorem d4_5 : decode jdk_52_method_16_code 5 = .ok (.iload_n 1, 1) := by decide +kernel
theorem d4_6 : decode jdk_52_method_16_code 6 = .ok (.aload_n 3, 1) := by decide +kernel
theorem d4_7 : decode jdk_52_method_16_code 7 = .ok (.iconst 0, 1) := by decide +kernel
theorem d4_8 : decode jdk_52_method_16_code 8 = .ok (.iload_n 2, 1) := by decide +kernel
theorem d4_9 : decode jdk_52_method_16_code 9 = .ok (.invokestatic 115, 3) := by decide +kernel
theorem pd___CI_BII_I : parseMethodDescriptor "([CI[BII)I" = some ⟨[(.array .char), .int, (.array .byte), .int, .int], some .int⟩ := by decide +kernel
theorem d4_12 : decode jdk_52_method_16_code 12 = .ok (.istore 4, 2) := by decide +kernel
theorem d4_14 : decode jdk_52_method_16_code 14 = .ok (.iload 4, 2) := by decide +kernel
theorem d4_16 : decode jdk_52_method_16_code 16 = .ok (.iload_n 2, 1) := by decide +kernel
theorem d4_17 : decode jdk_52_method_16_code 17 = .ok (.if_icmp .eq 40, 3) := by decide +kernel
theorem d4_57 : decode jdk_52_method_16_code 57 = .ok (.aload_n 3, 1) := by decide +kernel
theorem d4_58 : decode jdk_52_method_16_code 58 = .ok (.areturn, 1) := by decide +kernel
set_option maxRecDepth 65536 in
set_option maxHeartbeats 40000000 in
theorem st3_2 (l : Launch) (Z : State) (a0 : Array Value) (hw : ∀ d ∈ tables_1, d.before a0 Z = true) (ws : List Jvm.Cond) (a1 : Addr) (k1 : ClassId) (c0 : Int32) (c1 : Int32) (h0 : Heap) (n0 : Nat) (O0 : Old Z n0 h0) (hc_c0 : ¬ (255 : Int32) < c0) (hc_c1 : ¬ (255 : Int32) < c1) (V_a1 : Arv Z h0 a1 k1 .char (2 : Int32) [(.int c0), (.int c1)] (.int 0)) :
    Con l Z mq1 jdk_52_method_16_code 6 (some (.array .byte)) ws ({ frames := 1, cells := 1, slots := 2, locals := 18 } : Room) #[(.ref a1), (.int 0), (.int 2)] h0 (fun v h L => ∃ (b : Addr) (kb : ClassId), v = some (.ref b) ∧ Fr n0 L ∧ h0.size ≤ b ∧ Keep h0 h [] ∧ Arv Z h b kb .byte (2 : Int32) [(.int (nar .byte (c0.toInt8.toInt32))), (.int (nar .byte (c1.toInt8.toInt32)))] (.int 0)) := by
  refine own_body (plainFor_of_name pn_java_lang_StringUTF16) ?_
  intro p e s m below meth c s₁ hx hby hml hZ hown hnm hlk hret X0 e0
  have N0 := Fr.nil n0
  have D := @hb _ _ hby
  have K0 : Keep h0 h0 [] := Keep.refl _ _
  refine Go.st (T' := s₁) (f' := (mkF m 0 #[rv a1, iv 0, iv 2, .unset, .unset, .unset] [])) (fun _ k => castTop (by first | (simp [entryFrame, mkF, argsToLocals, Value.category]; done) | rfl) k) ?_
  have lt_a1 := V_a1.lt
  refine zin 1 X0 hx (D d4_0) rfl ?_
  obtain ⟨T1, h1, kc1, X1, e1, E1, A1, st1⟩ := newP X0 hx hZ (ww hw 20 rfl) e0 (g := (mkF m 1 #[rv a1, iv 0, iv 2, .unset, .unset, .unset] [(.int 2)])) rfl (D d4_1) rfl (by decide) (cap := 2) (by decide) (by decide) (by decide) (by decide)
  obtain ⟨b1, g1⟩ : ∃ z, z = h0.size := ⟨_, rfl⟩
  rw [← g1] at A1 st1
  have ne_a1_b1 : a1 ≠ b1 := Nat.ne_of_lt (Nat.lt_of_lt_of_eq lt_a1 g1.symm)
  have g_b1 : n0 ≤ b1 := Nat.le_trans (O0.1 ▸ O0.2.1) (Nat.le_of_eq g1.symm)
  have O1 : Old Z n0 h1 := O0.ext E1
  have sz_b1 : h0.size ≤ b1 := Nat.le_trans K0.1 (Nat.le_of_eq g1.symm)
  have K1 : Keep h0 h1 [] := K0.ext E1
  have V_b1 : Arv Z h1 b1 kc1 .byte (2 : Int32) [(.int (0 : Int32)), (.int (0 : Int32))] (.int (0 : Int32)) := (Arv.new A1 (by decide)).pad (pad_rep [] (.int (0 : Int32)) 2)
  have lt_b1 := V_b1.lt
  refine zst 3 #[rv a1, iv 0, iv 2, .unset, .unset, .unset] [(.ref b1)] st1 ?_
  refine zrn 4 #[rv a1, iv 0, iv 2, rv b1, .unset, .unset] X1 hx (D d4_3) rfl ?_
  refine zan 5 X1 hx (D d4_4) rfl rfl ?_
  refine zin 6 X1 hx (D d4_5) rfl ?_
  refine zan 7 X1 hx (D d4_6) rfl rfl ?_
  refine zic 8 0 X1 hx (D d4_7) ?_
  refine zin 9 X1 hx (D d4_8) rfl ?_
  have ft3 := (V_a1.ext E1)
  refine gS 12 0 1 2 X1 N0 hx hZ (y := mq0) hown hml (ww hw 21 rfl) (ww hw 22 rfl) (ww hw 18 rfl) (st5_2 l Z a0 hw [] b1 kc1 a1 k1 c0 c1 h1 n0 O1 hc_c0 hc_c1 ne_a1_b1 g_b1 ft3 V_b1) (ww hw 23 rfl) e1 [(.ref a1), (.int 0), (.ref b1), (.int 0), (.int 2)] [] (lenOf pd___CI_BII_I rfl) (D d4_9) ?_
  rintro T2 L2 M2 _ X2 uu2 ⟨rfl, Nq2, kq2, vq2⟩
  have N2 := uu2 Nq2
  have O2 : Old Z n0 T2.heap := O1.keep kq2 (allS g_b1 all0)
  have K2 : Keep h0 T2.heap [] := K1.trans kq2 (allS (Or.inr sz_b1) all0)
  refine zsk [(.int 2)] ?_
  refine zsl 14 #[rv a1, iv 0, iv 2, rv b1, iv 2, .unset] X2 hx (D d4_12) ?_
  refine zil 16 X2 hx (D d4_14) rfl ?_
  refine zin 17 X2 hx (D d4_16) rfl ?_
  refine zcy 57 X2 hx (D d4_17) (by decide) ?_
  refine zan 58 X2 hx (D d4_57) rfl rfl ?_
  refine Go.retV X2 hlk hx (t := (.array .byte)) hret rfl (Or.inr (Or.inr (Or.inr (Or.inr ⟨rfl, rfl, rfl⟩)))) (D d4_58) rfl ?_ (by decide) (by decide)
  exact ⟨b1, kc1, rfl, N2, sz_b1, K2, vq2⟩
theorem d6_0 : decode jdk_52_method_15_code 0 = .ok (.iload_n 1, 1) := by decide +kernel
theorem d6_1 : decode jdk_52_method_15_code 1 = .ok (.aload_n 0, 1) := by decide +kernel
theorem d6_2 : decode jdk_52_method_15_code 2 = .ok (.arraylength, 1) := by decide +kernel
theorem d6_3 : decode jdk_52_method_15_code 3 = .ok (.isub, 1) := by decide +kernel
theorem d6_4 : decode jdk_52_method_15_code 4 = .ok (.bipush 31, 2) := by decide +kernel
theorem d6_6 : decode jdk_52_method_15_code 6 = .ok (.iushr, 1) := by decide +kernel
theorem d6_7 : decode jdk_52_method_15_code 7 = .ok (.i2b, 1) := by decide +kernel
theorem d6_8 : decode jdk_52_method_15_code 8 = .ok (.ireturn, 1) := by decide +kernel
set_option maxRecDepth 65536 in
set_option maxHeartbeats 40000000 in
theorem stc_2 (l : Launch) (Z : State) (a0 : Array Value) (hw : ∀ d ∈ tables_1, d.before a0 Z = true) (ws : List Jvm.Cond) (a1 : Addr) (k1 : ClassId) (x0 : Int32) (x1 : Int32) (h0 : Heap) (n0 : Nat) (O0 : Old Z n0 h0) (V_a1 : Arv Z h0 a1 k1 .byte (2 : Int32) [(.int x0), (.int x1)] (.int 0)) :
    Con l Z mq2 jdk_52_method_15_code 2 (some .byte) ws ({ frames := 0, cells := 0, slots := 0, locals := 0 } : Room) #[(.ref a1), (.int 2)] h0 (fun v h L => v = some (.int 0) ∧ Fr n0 L ∧ h = h0) := by
  refine own_body (plainFor_of_name pn_java_lang_StringUTF16) ?_
  intro p e s m below meth c s₁ hx hby hml hZ hown hnm hlk hret X0 e0
  have N0 := Fr.nil n0
  have D := @hb _ _ hby
  refine Go.st (T' := s₁) (f' := (mkF m 0 #[rv a1, iv 2] [])) (fun _ k => castTop (by first | (simp [entryFrame, mkF, argsToLocals, Value.category]; done) | rfl) k) ?_
  have lt_a1 := V_a1.lt
  refine zin 1 X0 hx (D d6_0) rfl ?_
  refine zan 2 X0 hx (D d6_1) rfl rfl ?_
  obtain ⟨cl1, Ar1, -, S1, Nx1, -, -⟩ := id V_a1
  refine Go.st (T' := s₁) (f' := (mkF m 3 #[rv a1, iv 2] [(.int 2), (.int 2)])) (fun _ k => X0.arraylength hx (by rw [e0]; exact Ar1.1) (State.isArrayOf_alike hZ.alike Ar1.2.1) (g := (mkF m 2 #[rv a1, iv 2] [(.ref a1), (.int 2)])) rfl rfl (D d6_2) _ (by rw [len_of S1 Nx1]; exact k)) ?_
  refine Go.st (f' := (mkF m 4 #[rv a1, iv 2] [(.int 0)])) (fun _ k => XS.isub X0.here hx rfl (D d6_3) rfl k) ?_
  refine zbp 6 31 X0 hx (D d6_4) ?_
  refine Go.st (f' := (mkF m 7 #[rv a1, iv 2] [(.int 0)])) (fun _ k => XS.iushr X0.here hx rfl (D d6_6) rfl k) ?_
  refine Go.st (f' := (mkF m 8 #[rv a1, iv 2] [(.int 0)])) (fun _ k => XS.i2b X0.here hx rfl (D d6_7) rfl k) ?_
  refine Go.retB X0 hlk hx (t := .byte) hret (by simp) (D d6_8) e0 ?_ (by decide) (by decide)
  exact ⟨rfl, N0, rfl⟩
theorem pn_java_lang_String : plainName "java/lang/String" = true := by first | (simp [plainName, overriddenIn]; done) | decide +kernel
theorem d2_0 : decode jdk_42_method_149_code 0 = .ok (.aload_n 0, 1) := by decide +kernel
theorem d2_1 : decode jdk_42_method_149_code 1 = .ok (.invokespecial 1, 3) := by decide +kernel
theorem d2_4 : decode jdk_42_method_149_code 4 = .ok (.iload_n 3, 1) := by decide +kernel
theorem d2_5 : decode jdk_42_method_149_code 5 = .ok (.ifCond .ne 22, 3) := by decide +kernel
theorem d2_27 : decode jdk_42_method_149_code 27 = .ok (.getstatic 38, 3) := by decide +kernel
theorem d2_30 : decode jdk_42_method_149_code 30 = .ok (.ifCond .eq 28, 3) := by decide +kernel
theorem d2_33 : decode jdk_42_method_149_code 33 = .ok (.aload_n 1, 1) := by decide +kernel
theorem d2_34 : decode jdk_42_method_149_code 34 = .ok (.iload_n 2, 1) := by decide +kernel
theorem d2_35 : decode jdk_42_method_149_code 35 = .ok (.iload_n 3, 1) := by decide +kernel
theorem d2_36 : decode jdk_42_method_149_code 36 = .ok (.invokestatic 177, 3) := by decide +kernel
theorem pd___CII__B : parseMethodDescriptor "([CII)[B" = some ⟨[(.array .char), .int, .int], some (.array .byte)⟩ := by decide +kernel
theorem d2_39 : decode jdk_42_method_149_code 39 = .ok (.astore 5, 2) := by decide +kernel
theorem d2_41 : decode jdk_42_method_149_code 41 = .ok (.aload_n 0, 1) := by decide +kernel
theorem d2_42 : decode jdk_42_method_149_code 42 = .ok (.aload 5, 2) := by decide +kernel
theorem d2_44 : decode jdk_42_method_149_code 44 = .ok (.iload_n 3, 1) := by decide +kernel
theorem d2_45 : decode jdk_42_method_149_code 45 = .ok (.invokestatic 47, 3) := by decide +kernel
theorem pd___BI_B : parseMethodDescriptor "([BI)B" = some ⟨[(.array .byte), .int], some .byte⟩ := by decide +kernel
theorem d2_48 : decode jdk_42_method_149_code 48 = .ok (.putfield 15, 3) := by decide +kernel
theorem d2_51 : decode jdk_42_method_149_code 51 = .ok (.aload_n 0, 1) := by decide +kernel
theorem d2_52 : decode jdk_42_method_149_code 52 = .ok (.aload 5, 2) := by decide +kernel
theorem d2_54 : decode jdk_42_method_149_code 54 = .ok (.putfield 9, 3) := by decide +kernel
theorem d2_57 : decode jdk_42_method_149_code 57 = .ok (.return_, 1) := by decide +kernel
set_option maxRecDepth 65536 in
set_option maxHeartbeats 40000000 in
theorem stv_2 (l : Launch) (Z : State) (a0 : Array Value) (hw : ∀ d ∈ tables_1, d.before a0 Z = true) (ws : List Jvm.Cond) (a0b : Addr) (a1 : Addr) (k1 : ClassId) (c0 : Int32) (c1 : Int32) (wO : Addr) (wT : Addr) (kO : ClassId) (kT : ClassId) (iC : Int32) (vF : Value) (vU : Value) (vS : Value) (h0 : Heap) (n0 : Nat) (O0 : Old Z n0 h0) (hc_c0 : ¬ (255 : Int32) < c0) (hc_c1 : ¬ (255 : Int32) < c1) (g_a0b : n0 ≤ a0b) (nb1 : a0b ≠ a1) (E_a0b : Exa Z h0 a0b "java/lang/String") (F_a0b_coder : Fld Z h0 a0b "java/lang/String" "coder" "B" (.int 0)) (F_a0b_value : Fld Z h0 a0b "java/lang/String" "value" "[B" .null) (V_a1 : Arv Z h0 a1 k1 .char (2 : Int32) [(.int c0), (.int c1)] (.int 0)) (WW : World1 Z wO wT kO kT iC vF vU vS) :
    Con l Z mq3 jdk_42_method_149_code 6 none ws ({ frames := 2, cells := 1, slots := 2, locals := 35 } : Room) #[(.ref a0b), (.ref a1), (.int 0), (.int 2), .null] h0 (fun v h L => v = none ∧ Fr n0 L ∧ Keep h0 h [a0b] ∧ Exa Z h a0b "java/lang/String" ∧ Fld Z h a0b "java/lang/String" "coder" "B" (.int 0) ∧ ∃ (t : Addr) (kt : ClassId), h0.size ≤ t ∧ Fld Z h a0b "java/lang/String" "value" "[B" (.ref t) ∧ Arv Z h t kt .byte (2 : Int32) [(.int (nar .byte (c0.toInt8.toInt32))), (.int (nar .byte (c1.toInt8.toInt32)))] (.int 0)) := by
  refine own_body (plainFor_of_name pn_java_lang_String) ?_
  intro p e s m below meth c s₁ hx hby hml hZ hown hnm hlk hret X0 e0
  have N0 := Fr.nil n0
  have D := @hb _ _ hby
  have K0 : Keep h0 h0 [a0b] := Keep.refl _ _
  refine Go.st (T' := s₁) (f' := (mkF m 0 #[rv a0b, rv a1, iv 0, iv 2, .val .null, .unset] [])) (fun _ k => castTop (by first | (simp [entryFrame, mkF, argsToLocals, Value.category]; done) | rfl) k) ?_
  have ⟨S_iC, nz_iC, S_vF, r_vF, S_vU, r_vU, S_vS, r_vS, S_wO, E_wO, S_wT, E_wT, V_wO, V_wT⟩ := WW
  have lt_wO := E_wO.lt
  have lt_wT := E_wT.lt
  have lt_a0b := E_a0b.lt
  have ne_wO_a0b : wO ≠ a0b := O0.ne lt_wO g_a0b
  have ne_wT_a0b : wT ≠ a0b := O0.ne lt_wT g_a0b
  have lt_a1 := V_a1.lt
  refine zan 1 X0 hx (D d2_0) rfl rfl ?_
  obtain ⟨T1, X1, e1, st1⟩ := initO X0 hx hZ hown (ww hw 12 rfl) (ww hw 13 rfl) (ww hw 14 rfl) e0 (g := (mkF m 1 #[rv a0b, rv a1, iv 0, iv 2, .val .null, .unset] [(.ref a0b)])) rfl (by rw [hml]; rfl) rfl (D d2_1) (by decide) (W := 0) (by show 2 * 0 + _ ≤ _; exact Nat.le_of_eq rfl) (by decide)
  refine zst 4 #[rv a0b, rv a1, iv 0, iv 2, .val .null, .unset] [] st1 ?_
  refine zin 5 X1 hx (D d2_4) rfl ?_
  refine zfy 27 X1 hx (D d2_5) (by decide) ?_
  obtain ⟨T2, X2, e2, st2⟩ := getS2 X1 hx hZ hown (host := "") (Or.inl (ww hw 15 rfl)) Via.refl e1 (S_iC.ext O0.2) (g := (mkF m 27 #[rv a0b, rv a1, iv 0, iv 2, .val .null, .unset] [])) rfl (D d2_27)
  refine zst 30 #[rv a0b, rv a1, iv 0, iv 2, .val .null, .unset] [(.int iC)] st2 ?_
  refine zfn 33 X2 hx (D d2_30) ((if0 _ _).trans (feq nz_iC).1) ?_
  refine zan 34 X2 hx (D d2_33) rfl rfl ?_
  refine zin 35 X2 hx (D d2_34) rfl ?_
  refine zin 36 X2 hx (D d2_35) rfl ?_
  refine gS 39 0 1 2 X2 N0 hx hZ (y := mq1) hown hml (ww hw 16 rfl) (ww hw 17 rfl) (ww hw 18 rfl) (st3_2 l Z a0 hw [] a1 k1 c0 c1 h0 n0 O0 hc_c0 hc_c1 V_a1) (ww hw 19 rfl) e2 [(.ref a1), (.int 0), (.int 2)] [] (lenOf pd___CII__B rfl) (D d2_36) ?_
  rintro T3 L3 M3 _ X3 uu3 ⟨b3, kb3, rfl, Nq3, zq3, kq3, vq3⟩
  have N3 := uu3 Nq3
  have ne_a0b_b3 : a0b ≠ b3 := Nat.ne_of_lt (Nat.lt_of_lt_of_le lt_a0b zq3)
  have ne_a1_b3 : a1 ≠ b3 := Nat.ne_of_lt (Nat.lt_of_lt_of_le lt_a1 zq3)
  have ne_wO_b3 : wO ≠ b3 := Nat.ne_of_lt (Nat.lt_of_lt_of_le lt_wO (Nat.le_trans O0.2.1 zq3))
  have ne_wT_b3 : wT ≠ b3 := Nat.ne_of_lt (Nat.lt_of_lt_of_le lt_wT (Nat.le_trans O0.2.1 zq3))
  have g_b3 : n0 ≤ b3 := Nat.le_trans (O0.1 ▸ O0.2.1) zq3
  have sz_b3 : h0.size ≤ b3 := Nat.le_trans K0.1 zq3
  have O3 : Old Z n0 T3.heap := O0.keep kq3 all0
  have K3 : Keep h0 T3.heap [a0b] := K0.trans kq3 all0
  have lt_b3 := vq3.lt
  refine zsk [(.ref b3)] ?_
  refine zrl 41 #[rv a0b, rv a1, iv 0, iv 2, .val .null, rv b3] X3 hx (D d2_39) rfl ?_
  refine zan 42 X3 hx (D d2_41) rfl rfl ?_
  refine zal 44 X3 hx (D d2_42) rfl rfl ?_
  refine zin 45 X3 hx (D d2_44) rfl ?_
  refine gS 48 1 1 2 X3 N3 hx hZ (y := mq2) hown hml (ww hw 24 rfl) (ww hw 25 rfl) (ww hw 18 rfl) (stc_2 l Z a0 hw [] b3 kb3 (nar .byte (c0.toInt8.toInt32)) (nar .byte (c1.toInt8.toInt32)) T3.heap n0 O3 vq3) (ww hw 26 rfl) rfl [(.ref b3), (.int 2)] [(.ref a0b)] (lenOf pd___BI_B rfl) (D d2_45) ?_
  rintro T4 L4 M4 _ X4 uu4 ⟨rfl, Nq4, kq4⟩
  have N4 := uu4 Nq4
  refine zsk [(.int 0), (.ref a0b)] ?_
  have ft5 := (E_a0b.keep kq3)
  have ft6 := (F_a0b_coder.keep kq3 nin0)
  obtain ⟨T7, h7, X7, e7, W7, st7⟩ := putFN X4 hx hZ hown (ww hw 27 rfl) Via.refl kq4 ft6 ft5 (Or.inr ⟨(ww hw 28 rfl), rfl, hnm⟩) (ww hw 2 rfl) (ty := .byte) (v' := (.int (0 : Int32))) (by decide) rfl (by decide) (g := (mkF m 48 #[rv a0b, rv a1, iv 0, iv 2, .val .null, rv b3] [(.int 0), (.ref a0b)])) rfl rfl (D d2_48)
  have N7 := Fr.snoc X7 N4 g_a0b
  have O7 : Old Z n0 h7 := O3.wr W7 g_a0b
  have K7 : Keep h0 h7 [a0b] := K3.wr W7 (Or.inl (List.mem_of_getElem? (i := 0) rfl))
  have Fw7 := ft6.same W7
  refine zst 51 #[rv a0b, rv a1, iv 0, iv 2, .val .null, rv b3] [] st7 ?_
  refine zan 52 X7 hx (D d2_51) rfl rfl ?_
  refine zal 54 X7 hx (D d2_52) rfl rfl ?_
  have ft8 := (ft5.wr W7)
  have ft9 := ((F_a0b_value.keep kq3 nin0).other W7 (Or.inr (slot_ne (Or.inr (ww hw 30 rfl)) (Or.inr (ww hw 28 rfl)) (by decide) (t := (.array .byte)) (t' := .byte) (by decide) (by decide))))
  obtain ⟨T10, h10, X10, e10, W10, st10⟩ := putF X7 hx hZ hown (host := "") (Or.inl (ww hw 29 rfl)) Via.refl e7 ft9 ft8 (Or.inr ⟨(ww hw 30 rfl), rfl, hnm⟩) (ww hw 2 rfl) (ty := (.array .byte)) (by decide) rfl rfl (g := (mkF m 54 #[rv a0b, rv a1, iv 0, iv 2, .val .null, rv b3] [(.ref b3), (.ref a0b)])) rfl rfl (D d2_54)
  have N10 := Fr.snoc X10 N7 g_a0b
  have O10 : Old Z n0 h10 := O7.wr W10 g_a0b
  have K10 : Keep h0 h10 [a0b] := K7.wr W10 (Or.inl (List.mem_of_getElem? (i := 0) rfl))
  have Fw10 := ft9.same W10
  refine zst 57 #[rv a0b, rv a1, iv 0, iv 2, .val .null, rv b3] [] st10 ?_
  refine Go.ret0 X10 hlk hx hret (D d2_57) e10 ?_ (by decide) (by decide)
  have ft11 := (ft8.wr W10)
  have ft12 := (Fw7.other W10 (Or.inr (slot_ne (Or.inr (ww hw 28 rfl)) (Or.inr (ww hw 30 rfl)) (by decide) (t := .byte) (t' := (.array .byte)) (by decide) (by decide))))
  have ft13 := ((vq3.other W7 (Ne.symm ne_a0b_b3)).other W10 (Ne.symm ne_a0b_b3))
  exact ⟨rfl, N10, K10, ft11, ft12, b3, kb3, sz_b3, Fw10, ft13⟩
theorem d1_0 : decode jdk_42_method_3_code 0 = .ok (.aload_n 0, 1) := by decide +kernel
theorem d1_1 : decode jdk_42_method_3_code 1 = .ok (.aload_n 1, 1) := by decide +kernel
theorem d1_2 : decode jdk_42_method_3_code 2 = .ok (.iconst 0, 1) := by decide +kernel
theorem d1_3 : decode jdk_42_method_3_code 3 = .ok (.aload_n 1, 1) := by decide +kernel
theorem d1_4 : decode jdk_42_method_3_code 4 = .ok (.arraylength, 1) := by decide +kernel
theorem d1_5 : decode jdk_42_method_3_code 5 = .ok (.aconst_null, 1) := by decide +kernel
theorem d1_6 : decode jdk_42_method_3_code 6 = .ok (.invokespecial 27, 3) := by decide +kernel
theorem pd___CIILjava_lang_Void__V : parseMethodDescriptor "([CIILjava/lang/Void;)V" = some ⟨[(.array .char), .int, .int, (.object "java/lang/Void")], none⟩ := by decide +kernel
theorem d1_9 : decode jdk_42_method_3_code 9 = .ok (.return_, 1) := by decide +kernel
set_option maxRecDepth 65536 in
set_option maxHeartbeats 40000000 in
theorem st1_2 (l : Launch) (Z : State) (a0 : Array Value) (hw : ∀ d ∈ tables_1, d.before a0 Z = true) (ws : List Jvm.Cond) (a0b : Addr) (a1 : Addr) (k1 : ClassId) (c0 : Int32) (c1 : Int32) (wO : Addr) (wT : Addr) (kO : ClassId) (kT : ClassId) (iC : Int32) (vF : Value) (vU : Value) (vS : Value) (h0 : Heap) (n0 : Nat) (O0 : Old Z n0 h0) (hc_c0 : ¬ (255 : Int32) < c0) (hc_c1 : ¬ (255 : Int32) < c1) (g_a0b : n0 ≤ a0b) (nb1 : a0b ≠ a1) (E_a0b : Exa Z h0 a0b "java/lang/String") (F_a0b_coder : Fld Z h0 a0b "java/lang/String" "coder" "B" (.int 0)) (F_a0b_value : Fld Z h0 a0b "java/lang/String" "value" "[B" .null) (V_a1 : Arv Z h0 a1 k1 .char (2 : Int32) [(.int c0), (.int c1)] (.int 0)) (WW : World1 Z wO wT kO kT iC vF vU vS) :
    Con l Z mq4 jdk_42_method_3_code 2 none ws ({ frames := 3, cells := 1, slots := 2, locals := 52 } : Room) #[(.ref a0b), (.ref a1)] h0 (fun v h L => v = none ∧ Fr n0 L ∧ Keep h0 h [a0b] ∧ Exa Z h a0b "java/lang/String" ∧ Fld Z h a0b "java/lang/String" "coder" "B" (.int 0) ∧ ∃ (t : Addr) (kt : ClassId), h0.size ≤ t ∧ Fld Z h a0b "java/lang/String" "value" "[B" (.ref t) ∧ Arv Z h t kt .byte (2 : Int32) [(.int (nar .byte (c0.toInt8.toInt32))), (.int (nar .byte (c1.toInt8.toInt32)))] (.int 0)) := by
  refine own_body (plainFor_of_name pn_java_lang_String) ?_
  intro p e s m below meth c s₁ hx hby hml hZ hown hnm hlk hret X0 e0
  have N0 := Fr.nil n0
  have D := @hb _ _ hby
  have K0 : Keep h0 h0 [a0b] := Keep.refl _ _
  refine Go.st (T' := s₁) (f' := (mkF m 0 #[rv a0b, rv a1] [])) (fun _ k => castTop (by first | (simp [entryFrame, mkF, argsToLocals, Value.category]; done) | rfl) k) ?_
  have ⟨S_iC, nz_iC, S_vF, r_vF, S_vU, r_vU, S_vS, r_vS, S_wO, E_wO, S_wT, E_wT, V_wO, V_wT⟩ := WW
  have lt_wO := E_wO.lt
  have lt_wT := E_wT.lt
  have lt_a0b := E_a0b.lt
  have ne_wO_a0b : wO ≠ a0b := O0.ne lt_wO g_a0b
  have ne_wT_a0b : wT ≠ a0b := O0.ne lt_wT g_a0b
  have lt_a1 := V_a1.lt
  refine zan 1 X0 hx (D d1_0) rfl rfl ?_
  refine zan 2 X0 hx (D d1_1) rfl rfl ?_
  refine zic 3 0 X0 hx (D d1_2) ?_
  refine zan 4 X0 hx (D d1_3) rfl rfl ?_
  obtain ⟨cl1, Ar1, -, S1, Nx1, -, -⟩ := id V_a1
  refine Go.st (T' := s₁) (f' := (mkF m 5 #[rv a0b, rv a1] [(.int 2), (.int 0), (.ref a1), (.ref a0b)])) (fun _ k => X0.arraylength hx (by rw [e0]; exact Ar1.1) (State.isArrayOf_alike hZ.alike Ar1.2.1) (g := (mkF m 4 #[rv a0b, rv a1] [(.ref a1), (.int 0), (.ref a1), (.ref a0b)])) rfl rfl (D d1_4) _ (by rw [len_of S1 Nx1]; exact k)) ?_
  refine Go.st (f' := (mkF m 6 #[rv a0b, rv a1] [.null, (.int 2), (.int 0), (.ref a1), (.ref a0b)])) (fun _ k => XS.aconstNull X0.here hx rfl (D d1_5) k) ?_
  obtain ⟨_, _, ⟨T2, L2, kk2, nn2⟩, -, X2, ⟨Lc2, hQ2, lq2, yq2, zz2⟩, st2⟩ := X0.specialBack hx (y := mq3) rfl hown (mvT hZ (ww hw 8 rfl)) (mvT hZ (ww hw 9 rfl)) (mvT hZ (ww hw 11 rfl)) (by decide) (own_back (W := 0) (stv_2 l Z a0 hw [] a0b a1 k1 c0 c1 wO wT kO kT iC vF vU vS h0 n0 O0 hc_c0 hc_c1 g_a0b nb1 E_a0b F_a0b_coder F_a0b_value V_a1 WW) hZ (ww hw 11 rfl) (ww hw 3 rfl) (by decide) (by decide)) (g := (mkF m 6 #[rv a0b, rv a1] [.null, (.int 2), (.int 0), (.ref a1), (.ref a0b)])) rfl (by rw [hml]; rfl) (Steps.refl _) (a := a0b) (argsL := [(.ref a1), (.int (0 : Int32)), (.int (2 : Int32)), .null]) (rest := []) (lenOf pd___CIILjava_lang_Void__V rfl) rfl (by show 2 * 0 + _ ≤ _; exact Nat.le_of_eq rfl) (D d1_6) (fun _ _ => ⟨rfl, e0, (by decide : 0 + 1 ≤ _), (by decide : 0 + 2 ≤ _)⟩)
  dsimp only [Pt.U, Pt.locs, Pt.cells, Pt.slots] at X2 lq2 yq2 zz2 st2 hQ2
  subst lq2 yq2 zz2
  obtain ⟨rfl, Nq2, kq2, eq2, cq2, tt2, kt2, zq2, fq2, vq2⟩ := hQ2
  have N2 := Fr.app N0 Nq2
  have ne_a0b_tt2 : a0b ≠ tt2 := Nat.ne_of_lt (Nat.lt_of_lt_of_le lt_a0b zq2)
  have ne_a1_tt2 : a1 ≠ tt2 := Nat.ne_of_lt (Nat.lt_of_lt_of_le lt_a1 zq2)
  have ne_wO_tt2 : wO ≠ tt2 := Nat.ne_of_lt (Nat.lt_of_lt_of_le lt_wO (Nat.le_trans O0.2.1 zq2))
  have ne_wT_tt2 : wT ≠ tt2 := Nat.ne_of_lt (Nat.lt_of_lt_of_le lt_wT (Nat.le_trans O0.2.1 zq2))
  have g_tt2 : n0 ≤ tt2 := Nat.le_trans (O0.1 ▸ O0.2.1) zq2
  have sz_tt2 : h0.size ≤ tt2 := Nat.le_trans K0.1 zq2
  have O2 : Old Z n0 T2.heap := O0.keep kq2 (allS g_a0b all0)
  have K2 : Keep h0 T2.heap [a0b] := K0.trans kq2 (allS (Or.inl (List.mem_of_getElem? (i := 0) rfl)) all0)
  have lt_tt2 := vq2.lt
  refine Go.tr (f' := (mkF m 9 #[rv a0b, rv a1] [])) st2 ?_
  refine Go.ret0 X2 hlk hx hret (D d1_9) rfl ?_ (by decide) (by decide)
  exact ⟨rfl, N2, K2, eq2, cq2, tt2, kt2, sz_tt2, fq2, vq2⟩
set_option maxRecDepth 65536 in
set_option maxHeartbeats 40000000 in
theorem st5_3 (l : Launch) (Z : State) (a0 : Array Value) (hw : ∀ d ∈ tables_1, d.before a0 Z = true) (ws : List Jvm.Cond) (a2 : Addr) (k2 : ClassId) (a1 : Addr) (k1 : ClassId) (c0 : Int32) (c1 : Int32) (c2 : Int32) (h0 : Heap) (n0 : Nat) (O0 : Old Z n0 h0) (hc_c0 : ¬ (255 : Int32) < c0) (hc_c1 : ¬ (255 : Int32) < c1) (hc_c2 : ¬ (255 : Int32) < c2) (ne12 : a1 ≠ a2) (g_a2 : n0 ≤ a2) (V_a1 : Arv Z h0 a1 k1 .char (3 : Int32) [(.int c0), (.int c1), (.int c2)] (.int 0)) (V_a2 : Arv Z h0 a2 k2 .byte (3 : Int32) [(.int 0), (.int 0), (.int 0)] (.int 0)) :
    Con l Z mq0 jdk_52_method_21_code 7 (some .int) ws ({ frames := 0, cells := 0, slots := 0, locals := 0 } : Room) #[(.ref a1), (.int 0), (.ref a2), (.int 0), (.int 3)] h0 (fun v h L => v = some (.int 3) ∧ Fr n0 L ∧ Keep h0 h [a2] ∧ Arv Z h a2 k2 .byte (3 : Int32) [(.int (nar .byte (c0.toInt8.toInt32))), (.int (nar .byte (c1.toInt8.toInt32))), (.int (nar .byte (c2.toInt8.toInt32)))] (.int 0)) := by
  refine own_body (plainFor_of_name pn_java_lang_StringUTF16) ?_
  intro p e s m below meth c s₁ hx hby hml hZ hown hnm hlk hret X0 e0
  have N0 := Fr.nil n0
  have D := @hb _ _ hby
  have K0 : Keep h0 h0 [a2] := Keep.refl _ _
  refine Go.st (T' := s₁) (f' := (mkF m 0 #[rv a1, iv 0, rv a2, iv 0, iv 3, .unset, .unset] [])) (fun _ k => castTop (by first | (simp [entryFrame, mkF, argsToLocals, Value.category]; done) | rfl) k) ?_
  have lt_a1 := V_a1.lt
  have lt_a2 := V_a2.lt
  refine zic 1 0 X0 hx (D d5_0) ?_
  refine zsl 3 #[rv a1, iv 0, rv a2, iv 0, iv 3, iv 0, .unset] X0 hx (D d5_1) ?_
  refine zil 5 X0 hx (D d5_3) rfl ?_
  refine zil 7 X0 hx (D d5_5) rfl ?_
  refine zcn 10 X0 hx (D d5_7) (by decide) ?_
  refine zan 11 X0 hx (D d5_10) rfl rfl ?_
  refine zin 12 X0 hx (D d5_11) rfl ?_
  obtain ⟨cl1, Ar1, -, S1, -, H1, -⟩ := id V_a1
  have hin1 : ¬ ((0 : Int32) < 0 ∨ cl1.slots.size ≤ ((0 : Int32)).toNatClampNeg) := inb_of S1 ⟨by decide, by decide⟩
  have hat1 : cl1.slots[((0 : Int32)).toNatClampNeg]? = some (.int c0) := H1.at hin1 rfl
  refine Go.st (f' := (mkF m 13 #[rv a1, iv 0, rv a2, iv 0, iv 3, iv 0, .unset] [(.int c0)])) (fun _ k => X0.caload hx (j := (0 : Int32)) (v := (.int c0)) (by rw [e0]; exact Ar1.1) (State.isArrayOf_alike hZ.alike Ar1.2.1) Ar1.2.2 hin1 hat1 (g := (mkF m 12 #[rv a1, iv 0, rv a2, iv 0, iv 3, iv 0, .unset] [(.int 0), (.ref a1)])) rfl rfl (D d5_12) _ k) ?_
  refine zsl 15 #[rv a1, iv 0, rv a2, iv 0, iv 3, iv 0, iv c0] X0 hx (D d5_13) ?_
  refine zil 17 X0 hx (D d5_15) rfl ?_
  refine Go.st (f' := (mkF m 20 #[rv a1, iv 0, rv a2, iv 0, iv 3, iv 0, iv c0] [(.int 255), (.int c0)])) (fun _ k => XS.sipush X0.here hx rfl (D d5_17) k) ?_
  refine zcy 26 X0 hx (D d5_20) (flt hc_c0).2.2.2 ?_
  refine zan 27 X0 hx (D d5_26) rfl rfl ?_
  refine zin 28 X0 hx (D d5_27) rfl ?_
  refine zil 30 X0 hx (D d5_28) rfl ?_
  refine Go.st (f' := (mkF m 31 #[rv a1, iv 0, rv a2, iv 0, iv 3, iv 0, iv c0] [(.int (c0.toInt8.toInt32)), (.int 0), (.ref a2)])) (fun _ k => XS.i2b X0.here hx rfl (D d5_30) rfl k) ?_
  obtain ⟨cl2, Ar2, q2, S2, Nx2, H2, G2⟩ := id V_a2
  have hin2 : ¬ ((0 : Int32) < 0 ∨ cl2.slots.size ≤ ((0 : Int32)).toNatClampNeg) := inb_of S2 ⟨by decide, by decide⟩
  obtain ⟨T3, h3, X3, e3, W3, st3⟩ := stB X0 hx hZ e0 Ar2 (j := (0 : Int32)) hin2 (g := (mkF m 31 #[rv a1, iv 0, rv a2, iv 0, iv 3, iv 0, iv c0] [(.int (c0.toInt8.toInt32)), (.int 0), (.ref a2)])) rfl rfl (D d5_31)
  have V_a2_3 : Arv Z h3 a2 k2 .byte (3 : Int32) [(.int (nar .byte (c0.toInt8.toInt32))), (.int (0 : Int32)), (.int (0 : Int32))] (.int (0 : Int32)) := Arv.set Ar2 q2 S2 Nx2 H2 G2 (fits_nar_byte _) W3 0 rfl (Nat.le_of_ble_eq_true rfl)
  have N3 := Fr.snoc X3 N0 g_a2
  have O3 : Old Z n0 h3 := O0.wr W3 g_a2
  have K3 : Keep h0 h3 [a2] := K0.wr W3 (Or.inl (List.mem_of_getElem? (i := 0) rfl))
  refine zst 32 #[rv a1, iv 0, rv a2, iv 0, iv 3, iv 0, iv c0] [] st3 ?_
  refine zii 35 #[rv a1, iv 1, rv a2, iv 0, iv 3, iv 0, iv c0] X3 hx (D d5_32) rfl ?_
  refine zii 38 #[rv a1, iv 1, rv a2, iv 1, iv 3, iv 0, iv c0] X3 hx (D d5_35) rfl ?_
  refine zii 41 #[rv a1, iv 1, rv a2, iv 1, iv 3, iv 1, iv c0] X3 hx (D d5_38) rfl ?_
  refine zgo 3 X3 hx (D d5_41) ?_
  refine zil 5 X3 hx (D d5_3) rfl ?_
  refine zil 7 X3 hx (D d5_5) rfl ?_
  refine zcn 10 X3 hx (D d5_7) (by decide) ?_
  refine zan 11 X3 hx (D d5_10) rfl rfl ?_
  refine zin 12 X3 hx (D d5_11) rfl ?_
  have ft5 := (V_a1.other W3 ne12)
  obtain ⟨cl4, Ar4, -, S4, -, H4, -⟩ := id ft5
  have hin4 : ¬ ((1 : Int32) < 0 ∨ cl4.slots.size ≤ ((1 : Int32)).toNatClampNeg) := inb_of S4 ⟨by decide, by decide⟩
  have hat4 : cl4.slots[((1 : Int32)).toNatClampNeg]? = some (.int c1) := H4.at hin4 rfl
  refine Go.st (f' := (mkF m 13 #[rv a1, iv 1, rv a2, iv 1, iv 3, iv 1, iv c0] [(.int c1)])) (fun _ k => X3.caload hx (j := (1 : Int32)) (v := (.int c1)) (by rw [e3]; exact Ar4.1) (State.isArrayOf_alike hZ.alike Ar4.2.1) Ar4.2.2 hin4 hat4 (g := (mkF m 12 #[rv a1, iv 1, rv a2, iv 1, iv 3, iv 1, iv c0] [(.int 1), (.ref a1)])) rfl rfl (D d5_12) _ k) ?_
  refine zsl 15 #[rv a1, iv 1, rv a2, iv 1, iv 3, iv 1, iv c1] X3 hx (D d5_13) ?_
  refine zil 17 X3 hx (D d5_15) rfl ?_
  refine Go.st (f' := (mkF m 20 #[rv a1, iv 1, rv a2, iv 1, iv 3, iv 1, iv c1] [(.int 255), (.int c1)])) (fun _ k => XS.sipush X3.here hx rfl (D d5_17) k) ?_
  refine zcy 26 X3 hx (D d5_20) (flt hc_c1).2.2.2 ?_
  refine zan 27 X3 hx (D d5_26) rfl rfl ?_
  refine zin 28 X3 hx (D d5_27) rfl ?_
  refine zil 30 X3 hx (D d5_28) rfl ?_
  refine Go.st (f' := (mkF m 31 #[rv a1, iv 1, rv a2, iv 1, iv 3, iv 1, iv c1] [(.int (c1.toInt8.toInt32)), (.int 1), (.ref a2)])) (fun _ k => XS.i2b X3.here hx rfl (D d5_30) rfl k) ?_
  obtain ⟨cl6, Ar6, q6, S6, Nx6, H6, G6⟩ := id V_a2_3
  have hin6 : ¬ ((1 : Int32) < 0 ∨ cl6.slots.size ≤ ((1 : Int32)).toNatClampNeg) := inb_of S6 ⟨by decide, by decide⟩
  obtain ⟨T7, h7, X7, e7, W7, st7⟩ := stB X3 hx hZ e3 Ar6 (j := (1 : Int32)) hin6 (g := (mkF m 31 #[rv a1, iv 1, rv a2, iv 1, iv 3, iv 1, iv c1] [(.int (c1.toInt8.toInt32)), (.int 1), (.ref a2)])) rfl rfl (D d5_31)
  have V_a2_7 : Arv Z h7 a2 k2 .byte (3 : Int32) [(.int (nar .byte (c0.toInt8.toInt32))), (.int (nar .byte (c1.toInt8.toInt32))), (.int (0 : Int32))] (.int (0 : Int32)) := Arv.set Ar6 q6 S6 Nx6 H6 G6 (fits_nar_byte _) W7 1 rfl (Nat.le_of_ble_eq_true rfl)
  have N7 := Fr.snoc X7 N3 g_a2
  have O7 : Old Z n0 h7 := O3.wr W7 g_a2
  have K7 : Keep h0 h7 [a2] := K3.wr W7 (Or.inl (List.mem_of_getElem? (i := 0) rfl))
  refine zst 32 #[rv a1, iv 1, rv a2, iv 1, iv 3, iv 1, iv c1] [] st7 ?_
  refine zii 35 #[rv a1, iv 2, rv a2, iv 1, iv 3, iv 1, iv c1] X7 hx (D d5_32) rfl ?_
  refine zii 38 #[rv a1, iv 2, rv a2, iv 2, iv 3, iv 1, iv c1] X7 hx (D d5_35) rfl ?_
  refine zii 41 #[rv a1, iv 2, rv a2, iv 2, iv 3, iv 2, iv c1] X7 hx (D d5_38) rfl ?_
  refine zgo 3 X7 hx (D d5_41) ?_
  refine zil 5 X7 hx (D d5_3) rfl ?_
  refine zil 7 X7 hx (D d5_5) rfl ?_
  refine zcn 10 X7 hx (D d5_7) (by decide) ?_
  refine zan 11 X7 hx (D d5_10) rfl rfl ?_
  refine zin 12 X7 hx (D d5_11) rfl ?_
  have ft9 := (ft5.other W7 ne12)
  obtain ⟨cl8, Ar8, -, S8, -, H8, -⟩ := id ft9
  have hin8 : ¬ ((2 : Int32) < 0 ∨ cl8.slots.size ≤ ((2 : Int32)).toNatClampNeg) := inb_of S8 ⟨by decide, by decide⟩
  have hat8 : cl8.slots[((2 : Int32)).toNatClampNeg]? = some (.int c2) := H8.at hin8 rfl
  refine Go.st (f' := (mkF m 13 #[rv a1, iv 2, rv a2, iv 2, iv 3, iv 2, iv c1] [(.int c2)])) (fun _ k => X7.caload hx (j := (2 : Int32)) (v := (.int c2)) (by rw [e7]; exact Ar8.1) (State.isArrayOf_alike hZ.alike Ar8.2.1) Ar8.2.2 hin8 hat8 (g := (mkF m 12 #[rv a1, iv 2, rv a2, iv 2, iv 3, iv 2, iv c1] [(.int 2), (.ref a1)])) rfl rfl (D d5_12) _ k) ?_
  refine zsl 15 #[rv a1, iv 2, rv a2, iv 2, iv 3, iv 2, iv c2] X7 hx (D d5_13) ?_
  refine zil 17 X7 hx (D d5_15) rfl ?_
  refine Go.st (f' := (mkF m 20 #[rv a1, iv 2, rv a2, iv 2, iv 3, iv 2, iv c2] [(.int 255), (.int c2)])) (fun _ k => XS.sipush X7.here hx rfl (D d5_17) k) ?_
  refine zcy 26 X7 hx (D d5_20) (flt hc_c2).2.2.2 ?_
  refine zan 27 X7 hx (D d5_26) rfl rfl ?_
  refine zin 28 X7 hx (D d5_27) rfl ?_
  refine zil 30 X7 hx (D d5_28) rfl ?_
  refine Go.st (f' := (mkF m 31 #[rv a1, iv 2, rv a2, iv 2, iv 3, iv 2, iv c2] [(.int (c2.toInt8.toInt32)), (.int 2), (.ref a2)])) (fun _ k => XS.i2b X7.here hx rfl (D d5_30) rfl k) ?_
  obtain ⟨cl10, Ar10, q10, S10, Nx10, H10, G10⟩ := id V_a2_7
  have hin10 : ¬ ((2 : Int32) < 0 ∨ cl10.slots.size ≤ ((2 : Int32)).toNatClampNeg) := inb_of S10 ⟨by decide, by decide⟩
  obtain ⟨T11, h11, X11, e11, W11, st11⟩ := stB X7 hx hZ e7 Ar10 (j := (2 : Int32)) hin10 (g := (mkF m 31 #[rv a1, iv 2, rv a2, iv 2, iv 3, iv 2, iv c2] [(.int (c2.toInt8.toInt32)), (.int 2), (.ref a2)])) rfl rfl (D d5_31)
  have V_a2_11 : Arv Z h11 a2 k2 .byte (3 : Int32) [(.int (nar .byte (c0.toInt8.toInt32))), (.int (nar .byte (c1.toInt8.toInt32))), (.int (nar .byte (c2.toInt8.toInt32)))] (.int (0 : Int32)) := Arv.set Ar10 q10 S10 Nx10 H10 G10 (fits_nar_byte _) W11 2 rfl (Nat.le_of_ble_eq_true rfl)
  have N11 := Fr.snoc X11 N7 g_a2
  have O11 : Old Z n0 h11 := O7.wr W11 g_a2
  have K11 : Keep h0 h11 [a2] := K7.wr W11 (Or.inl (List.mem_of_getElem? (i := 0) rfl))
  refine zst 32 #[rv a1, iv 2, rv a2, iv 2, iv 3, iv 2, iv c2] [] st11 ?_
  refine zii 35 #[rv a1, iv 3, rv a2, iv 2, iv 3, iv 2, iv c2] X11 hx (D d5_32) rfl ?_
  refine zii 38 #[rv a1, iv 3, rv a2, iv 3, iv 3, iv 2, iv c2] X11 hx (D d5_35) rfl ?_
  refine zii 41 #[rv a1, iv 3, rv a2, iv 3, iv 3, iv 3, iv c2] X11 hx (D d5_38) rfl ?_
  refine zgo 3 X11 hx (D d5_41) ?_
  refine zil 5 X11 hx (D d5_3) rfl ?_
  refine zil 7 X11 hx (D d5_5) rfl ?_
  refine zcy 44 X11 hx (D d5_7) (by decide) ?_
  refine zil 46 X11 hx (D d5_44) rfl ?_
  refine Go.retV X11 hlk hx (t := .int) hret rfl (Or.inl ⟨rfl, Or.inl rfl, _, rfl⟩) (D d5_46) e11 ?_ (by decide) (by decide)
  exact ⟨rfl, N11, K11, V_a2_11⟩
set_option maxRecDepth 65536 in
set_option maxHeartbeats 40000000 in
theorem st3_3 (l : Launch) (Z : State) (a0 : Array Value) (hw : ∀ d ∈ tables_1, d.before a0 Z = true) (ws : List Jvm.Cond) (a1 : Addr) (k1 : ClassId) (c0 : Int32) (c1 : Int32) (c2 : Int32) (h0 : Heap) (n0 : Nat) (O0 : Old Z n0 h0) (hc_c0 : ¬ (255 : Int32) < c0) (hc_c1 : ¬ (255 : Int32) < c1) (hc_c2 : ¬ (255 : Int32) < c2) (V_a1 : Arv Z h0 a1 k1 .char (3 : Int32) [(.int c0), (.int c1), (.int c2)] (.int 0)) :
    Con l Z mq1 jdk_52_method_16_code 6 (some (.array .byte)) ws ({ frames := 1, cells := 1, slots := 3, locals := 18 } : Room) #[(.ref a1), (.int 0), (.int 3)] h0 (fun v h L => ∃ (b : Addr) (kb : ClassId), v = some (.ref b) ∧ Fr n0 L ∧ h0.size ≤ b ∧ Keep h0 h [] ∧ Arv Z h b kb .byte (3 : Int32) [(.int (nar .byte (c0.toInt8.toInt32))), (.int (nar .byte (c1.toInt8.toInt32))), (.int (nar .byte (c2.toInt8.toInt32)))] (.int 0)) := by
  refine own_body (plainFor_of_name pn_java_lang_StringUTF16) ?_
  intro p e s m below meth c s₁ hx hby hml hZ hown hnm hlk hret X0 e0
  have N0 := Fr.nil n0
  have D := @hb _ _ hby
  have K0 : Keep h0 h0 [] := Keep.refl _ _
  refine Go.st (T' := s₁) (f' := (mkF m 0 #[rv a1, iv 0, iv 3, .unset, .unset, .unset] [])) (fun _ k => castTop (by first | (simp [entryFrame, mkF, argsToLocals, Value.category]; done) | rfl) k) ?_
  have lt_a1 := V_a1.lt
  refine zin 1 X0 hx (D d4_0) rfl ?_
  obtain ⟨T1, h1, kc1, X1, e1, E1, A1, st1⟩ := newP X0 hx hZ (ww hw 20 rfl) e0 (g := (mkF m 1 #[rv a1, iv 0, iv 3, .unset, .unset, .unset] [(.int 3)])) rfl (D d4_1) rfl (by decide) (cap := 3) (by decide) (by decide) (by decide) (by decide)
  obtain ⟨b1, g1⟩ : ∃ z, z = h0.size := ⟨_, rfl⟩
  rw [← g1] at A1 st1
  have ne_a1_b1 : a1 ≠ b1 := Nat.ne_of_lt (Nat.lt_of_lt_of_eq lt_a1 g1.symm)
  have g_b1 : n0 ≤ b1 := Nat.le_trans (O0.1 ▸ O0.2.1) (Nat.le_of_eq g1.symm)
  have O1 : Old Z n0 h1 := O0.ext E1
  have sz_b1 : h0.size ≤ b1 := Nat.le_trans K0.1 (Nat.le_of_eq g1.symm)
  have K1 : Keep h0 h1 [] := K0.ext E1
  have V_b1 : Arv Z h1 b1 kc1 .byte (3 : Int32) [(.int (0 : Int32)), (.int (0 : Int32)), (.int (0 : Int32))] (.int (0 : Int32)) := (Arv.new A1 (by decide)).pad (pad_rep [] (.int (0 : Int32)) 3)
  have lt_b1 := V_b1.lt
  refine zst 3 #[rv a1, iv 0, iv 3, .unset, .unset, .unset] [(.ref b1)] st1 ?_
  refine zrn 4 #[rv a1, iv 0, iv 3, rv b1, .unset, .unset] X1 hx (D d4_3) rfl ?_
  refine zan 5 X1 hx (D d4_4) rfl rfl ?_
  refine zin 6 X1 hx (D d4_5) rfl ?_
  refine zan 7 X1 hx (D d4_6) rfl rfl ?_
  refine zic 8 0 X1 hx (D d4_7) ?_
  refine zin 9 X1 hx (D d4_8) rfl ?_
  have ft3 := (V_a1.ext E1)
  refine gS 12 0 1 3 X1 N0 hx hZ (y := mq0) hown hml (ww hw 21 rfl) (ww hw 22 rfl) (ww hw 18 rfl) (st5_3 l Z a0 hw [] b1 kc1 a1 k1 c0 c1 c2 h1 n0 O1 hc_c0 hc_c1 hc_c2 ne_a1_b1 g_b1 ft3 V_b1) (ww hw 23 rfl) e1 [(.ref a1), (.int 0), (.ref b1), (.int 0), (.int 3)] [] (lenOf pd___CI_BII_I rfl) (D d4_9) ?_
  rintro T2 L2 M2 _ X2 uu2 ⟨rfl, Nq2, kq2, vq2⟩
  have N2 := uu2 Nq2
  have O2 : Old Z n0 T2.heap := O1.keep kq2 (allS g_b1 all0)
  have K2 : Keep h0 T2.heap [] := K1.trans kq2 (allS (Or.inr sz_b1) all0)
  refine zsk [(.int 3)] ?_
  refine zsl 14 #[rv a1, iv 0, iv 3, rv b1, iv 3, .unset] X2 hx (D d4_12) ?_
  refine zil 16 X2 hx (D d4_14) rfl ?_
  refine zin 17 X2 hx (D d4_16) rfl ?_
  refine zcy 57 X2 hx (D d4_17) (by decide) ?_
  refine zan 58 X2 hx (D d4_57) rfl rfl ?_
  refine Go.retV X2 hlk hx (t := (.array .byte)) hret rfl (Or.inr (Or.inr (Or.inr (Or.inr ⟨rfl, rfl, rfl⟩)))) (D d4_58) rfl ?_ (by decide) (by decide)
  exact ⟨b1, kc1, rfl, N2, sz_b1, K2, vq2⟩
set_option maxRecDepth 65536 in
set_option maxHeartbeats 40000000 in
theorem stc_3 (l : Launch) (Z : State) (a0 : Array Value) (hw : ∀ d ∈ tables_1, d.before a0 Z = true) (ws : List Jvm.Cond) (a1 : Addr) (k1 : ClassId) (x0 : Int32) (x1 : Int32) (x2 : Int32) (h0 : Heap) (n0 : Nat) (O0 : Old Z n0 h0) (V_a1 : Arv Z h0 a1 k1 .byte (3 : Int32) [(.int x0), (.int x1), (.int x2)] (.int 0)) :
    Con l Z mq2 jdk_52_method_15_code 2 (some .byte) ws ({ frames := 0, cells := 0, slots := 0, locals := 0 } : Room) #[(.ref a1), (.int 3)] h0 (fun v h L => v = some (.int 0) ∧ Fr n0 L ∧ h = h0) := by
  refine own_body (plainFor_of_name pn_java_lang_StringUTF16) ?_
  intro p e s m below meth c s₁ hx hby hml hZ hown hnm hlk hret X0 e0
  have N0 := Fr.nil n0
  have D := @hb _ _ hby
  refine Go.st (T' := s₁) (f' := (mkF m 0 #[rv a1, iv 3] [])) (fun _ k => castTop (by first | (simp [entryFrame, mkF, argsToLocals, Value.category]; done) | rfl) k) ?_
  have lt_a1 := V_a1.lt
  refine zin 1 X0 hx (D d6_0) rfl ?_
  refine zan 2 X0 hx (D d6_1) rfl rfl ?_
  obtain ⟨cl1, Ar1, -, S1, Nx1, -, -⟩ := id V_a1
  refine Go.st (T' := s₁) (f' := (mkF m 3 #[rv a1, iv 3] [(.int 3), (.int 3)])) (fun _ k => X0.arraylength hx (by rw [e0]; exact Ar1.1) (State.isArrayOf_alike hZ.alike Ar1.2.1) (g := (mkF m 2 #[rv a1, iv 3] [(.ref a1), (.int 3)])) rfl rfl (D d6_2) _ (by rw [len_of S1 Nx1]; exact k)) ?_
  refine Go.st (f' := (mkF m 4 #[rv a1, iv 3] [(.int 0)])) (fun _ k => XS.isub X0.here hx rfl (D d6_3) rfl k) ?_
  refine zbp 6 31 X0 hx (D d6_4) ?_
  refine Go.st (f' := (mkF m 7 #[rv a1, iv 3] [(.int 0)])) (fun _ k => XS.iushr X0.here hx rfl (D d6_6) rfl k) ?_
  refine Go.st (f' := (mkF m 8 #[rv a1, iv 3] [(.int 0)])) (fun _ k => XS.i2b X0.here hx rfl (D d6_7) rfl k) ?_
  refine Go.retB X0 hlk hx (t := .byte) hret (by simp) (D d6_8) e0 ?_ (by decide) (by decide)
  exact ⟨rfl, N0, rfl⟩
set_option maxRecDepth 65536 in
set_option maxHeartbeats 40000000 in
theorem stv_3 (l : Launch) (Z : State) (a0 : Array Value) (hw : ∀ d ∈ tables_1, d.before a0 Z = true) (ws : List Jvm.Cond) (a0b : Addr) (a1 : Addr) (k1 : ClassId) (c0 : Int32) (c1 : Int32) (c2 : Int32) (wO : Addr) (wT : Addr) (kO : ClassId) (kT : ClassId) (iC : Int32) (vF : Value) (vU : Value) (vS : Value) (h0 : Heap) (n0 : Nat) (O0 : Old Z n0 h0) (hc_c0 : ¬ (255 : Int32) < c0) (hc_c1 : ¬ (255 : Int32) < c1) (hc_c2 : ¬ (255 : Int32) < c2) (g_a0b : n0 ≤ a0b) (nb1 : a0b ≠ a1) (E_a0b : Exa Z h0 a0b "java/lang/String") (F_a0b_coder : Fld Z h0 a0b "java/lang/String" "coder" "B" (.int 0)) (F_a0b_value : Fld Z h0 a0b "java/lang/String" "value" "[B" .null) (V_a1 : Arv Z h0 a1 k1 .char (3 : Int32) [(.int c0), (.int c1), (.int c2)] (.int 0)) (WW : World1 Z wO wT kO kT iC vF vU vS) :
    Con l Z mq3 jdk_42_method_149_code 6 none ws ({ frames := 2, cells := 1, slots := 3, locals := 35 } : Room) #[(.ref a0b), (.ref a1), (.int 0), (.int 3), .null] h0 (fun v h L => v = none ∧ Fr n0 L ∧ Keep h0 h [a0b] ∧ Exa Z h a0b "java/lang/String" ∧ Fld Z h a0b "java/lang/String" "coder" "B" (.int 0) ∧ ∃ (t : Addr) (kt : ClassId), h0.size ≤ t ∧ Fld Z h a0b "java/lang/String" "value" "[B" (.ref t) ∧ Arv Z h t kt .byte (3 : Int32) [(.int (nar .byte (c0.toInt8.toInt32))), (.int (nar .byte (c1.toInt8.toInt32))), (.int (nar .byte (c2.toInt8.toInt32)))] (.int 0)) := by
  refine own_body (plainFor_of_name pn_java_lang_String) ?_
  intro p e s m below meth c s₁ hx hby hml hZ hown hnm hlk hret X0 e0
  have N0 := Fr.nil n0
  have D := @hb _ _ hby
  have K0 : Keep h0 h0 [a0b] := Keep.refl _ _
  refine Go.st (T' := s₁) (f' := (mkF m 0 #[rv a0b, rv a1, iv 0, iv 3, .val .null, .unset] [])) (fun _ k => castTop (by first | (simp [entryFrame, mkF, argsToLocals, Value.category]; done) | rfl) k) ?_
  have ⟨S_iC, nz_iC, S_vF, r_vF, S_vU, r_vU, S_vS, r_vS, S_wO, E_wO, S_wT, E_wT, V_wO, V_wT⟩ := WW
  have lt_wO := E_wO.lt
  have lt_wT := E_wT.lt
  have lt_a0b := E_a0b.lt
  have ne_wO_a0b : wO ≠ a0b := O0.ne lt_wO g_a0b
  have ne_wT_a0b : wT ≠ a0b := O0.ne lt_wT g_a0b
  have lt_a1 := V_a1.lt
  refine zan 1 X0 hx (D d2_0) rfl rfl ?_
  obtain ⟨T1, X1, e1, st1⟩ := initO X0 hx hZ hown (ww hw 12 rfl) (ww hw 13 rfl) (ww hw 14 rfl) e0 (g := (mkF m 1 #[rv a0b, rv a1, iv 0, iv 3, .val .null, .unset] [(.ref a0b)])) rfl (by rw [hml]; rfl) rfl (D d2_1) (by decide) (W := 0) (by show 2 * 0 + _ ≤ _; exact Nat.le_of_eq rfl) (by decide)
  refine zst 4 #[rv a0b, rv a1, iv 0, iv 3, .val .null, .unset] [] st1 ?_
  refine zin 5 X1 hx (D d2_4) rfl ?_
  refine zfy 27 X1 hx (D d2_5) (by decide) ?_
  obtain ⟨T2, X2, e2, st2⟩ := getS2 X1 hx hZ hown (host := "") (Or.inl (ww hw 15 rfl)) Via.refl e1 (S_iC.ext O0.2) (g := (mkF m 27 #[rv a0b, rv a1, iv 0, iv 3, .val .null, .unset] [])) rfl (D d2_27)
  refine zst 30 #[rv a0b, rv a1, iv 0, iv 3, .val .null, .unset] [(.int iC)] st2 ?_
  refine zfn 33 X2 hx (D d2_30) ((if0 _ _).trans (feq nz_iC).1) ?_
  refine zan 34 X2 hx (D d2_33) rfl rfl ?_
  refine zin 35 X2 hx (D d2_34) rfl ?_
  refine zin 36 X2 hx (D d2_35) rfl ?_
  refine gS 39 0 1 3 X2 N0 hx hZ (y := mq1) hown hml (ww hw 16 rfl) (ww hw 17 rfl) (ww hw 18 rfl) (st3_3 l Z a0 hw [] a1 k1 c0 c1 c2 h0 n0 O0 hc_c0 hc_c1 hc_c2 V_a1) (ww hw 19 rfl) e2 [(.ref a1), (.int 0), (.int 3)] [] (lenOf pd___CII__B rfl) (D d2_36) ?_
  rintro T3 L3 M3 _ X3 uu3 ⟨b3, kb3, rfl, Nq3, zq3, kq3, vq3⟩
  have N3 := uu3 Nq3
  have ne_a0b_b3 : a0b ≠ b3 := Nat.ne_of_lt (Nat.lt_of_lt_of_le lt_a0b zq3)
  have ne_a1_b3 : a1 ≠ b3 := Nat.ne_of_lt (Nat.lt_of_lt_of_le lt_a1 zq3)
  have ne_wO_b3 : wO ≠ b3 := Nat.ne_of_lt (Nat.lt_of_lt_of_le lt_wO (Nat.le_trans O0.2.1 zq3))
  have ne_wT_b3 : wT ≠ b3 := Nat.ne_of_lt (Nat.lt_of_lt_of_le lt_wT (Nat.le_trans O0.2.1 zq3))
  have g_b3 : n0 ≤ b3 := Nat.le_trans (O0.1 ▸ O0.2.1) zq3
  have sz_b3 : h0.size ≤ b3 := Nat.le_trans K0.1 zq3
  have O3 : Old Z n0 T3.heap := O0.keep kq3 all0
  have K3 : Keep h0 T3.heap [a0b] := K0.trans kq3 all0
  have lt_b3 := vq3.lt
  refine zsk [(.ref b3)] ?_
  refine zrl 41 #[rv a0b, rv a1, iv 0, iv 3, .val .null, rv b3] X3 hx (D d2_39) rfl ?_
  refine zan 42 X3 hx (D d2_41) rfl rfl ?_
  refine zal 44 X3 hx (D d2_42) rfl rfl ?_
  refine zin 45 X3 hx (D d2_44) rfl ?_
  refine gS 48 1 1 3 X3 N3 hx hZ (y := mq2) hown hml (ww hw 24 rfl) (ww hw 25 rfl) (ww hw 18 rfl) (stc_3 l Z a0 hw [] b3 kb3 (nar .byte (c0.toInt8.toInt32)) (nar .byte (c1.toInt8.toInt32)) (nar .byte (c2.toInt8.toInt32)) T3.heap n0 O3 vq3) (ww hw 26 rfl) rfl [(.ref b3), (.int 3)] [(.ref a0b)] (lenOf pd___BI_B rfl) (D d2_45) ?_
  rintro T4 L4 M4 _ X4 uu4 ⟨rfl, Nq4, kq4⟩
  have N4 := uu4 Nq4
  refine zsk [(.int 0), (.ref a0b)] ?_
  have ft5 := (E_a0b.keep kq3)
  have ft6 := (F_a0b_coder.keep kq3 nin0)
  obtain ⟨T7, h7, X7, e7, W7, st7⟩ := putFN X4 hx hZ hown (ww hw 27 rfl) Via.refl kq4 ft6 ft5 (Or.inr ⟨(ww hw 28 rfl), rfl, hnm⟩) (ww hw 2 rfl) (ty := .byte) (v' := (.int (0 : Int32))) (by decide) rfl (by decide) (g := (mkF m 48 #[rv a0b, rv a1, iv 0, iv 3, .val .null, rv b3] [(.int 0), (.ref a0b)])) rfl rfl (D d2_48)
  have N7 := Fr.snoc X7 N4 g_a0b
  have O7 : Old Z n0 h7 := O3.wr W7 g_a0b
  have K7 : Keep h0 h7 [a0b] := K3.wr W7 (Or.inl (List.mem_of_getElem? (i := 0) rfl))
  have Fw7 := ft6.same W7
  refine zst 51 #[rv a0b, rv a1, iv 0, iv 3, .val .null, rv b3] [] st7 ?_
  refine zan 52 X7 hx (D d2_51) rfl rfl ?_
  refine zal 54 X7 hx (D d2_52) rfl rfl ?_
  have ft8 := (ft5.wr W7)
  have ft9 := ((F_a0b_value.keep kq3 nin0).other W7 (Or.inr (slot_ne (Or.inr (ww hw 30 rfl)) (Or.inr (ww hw 28 rfl)) (by decide) (t := (.array .byte)) (t' := .byte) (by decide) (by decide))))
  obtain ⟨T10, h10, X10, e10, W10, st10⟩ := putF X7 hx hZ hown (host := "") (Or.inl (ww hw 29 rfl)) Via.refl e7 ft9 ft8 (Or.inr ⟨(ww hw 30 rfl), rfl, hnm⟩) (ww hw 2 rfl) (ty := (.array .byte)) (by decide) rfl rfl (g := (mkF m 54 #[rv a0b, rv a1, iv 0, iv 3, .val .null, rv b3] [(.ref b3), (.ref a0b)])) rfl rfl (D d2_54)
  have N10 := Fr.snoc X10 N7 g_a0b
  have O10 : Old Z n0 h10 := O7.wr W10 g_a0b
  have K10 : Keep h0 h10 [a0b] := K7.wr W10 (Or.inl (List.mem_of_getElem? (i := 0) rfl))
  have Fw10 := ft9.same W10
  refine zst 57 #[rv a0b, rv a1, iv 0, iv 3, .val .null, rv b3] [] st10 ?_
  refine Go.ret0 X10 hlk hx hret (D d2_57) e10 ?_ (by decide) (by decide)
  have ft11 := (ft8.wr W10)
  have ft12 := (Fw7.other W10 (Or.inr (slot_ne (Or.inr (ww hw 28 rfl)) (Or.inr (ww hw 30 rfl)) (by decide) (t := .byte) (t' := (.array .byte)) (by decide) (by decide))))
  have ft13 := ((vq3.other W7 (Ne.symm ne_a0b_b3)).other W10 (Ne.symm ne_a0b_b3))
  exact ⟨rfl, N10, K10, ft11, ft12, b3, kb3, sz_b3, Fw10, ft13⟩
set_option maxRecDepth 65536 in
set_option maxHeartbeats 40000000 in
theorem st1_3 (l : Launch) (Z : State) (a0 : Array Value) (hw : ∀ d ∈ tables_1, d.before a0 Z = true) (ws : List Jvm.Cond) (a0b : Addr) (a1 : Addr) (k1 : ClassId) (c0 : Int32) (c1 : Int32) (c2 : Int32) (wO : Addr) (wT : Addr) (kO : ClassId) (kT : ClassId) (iC : Int32) (vF : Value) (vU : Value) (vS : Value) (h0 : Heap) (n0 : Nat) (O0 : Old Z n0 h0) (hc_c0 : ¬ (255 : Int32) < c0) (hc_c1 : ¬ (255 : Int32) < c1) (hc_c2 : ¬ (255 : Int32) < c2) (g_a0b : n0 ≤ a0b) (nb1 : a0b ≠ a1) (E_a0b : Exa Z h0 a0b "java/lang/String") (F_a0b_coder : Fld Z h0 a0b "java/lang/String" "coder" "B" (.int 0)) (F_a0b_value : Fld Z h0 a0b "java/lang/String" "value" "[B" .null) (V_a1 : Arv Z h0 a1 k1 .char (3 : Int32) [(.int c0), (.int c1), (.int c2)] (.int 0)) (WW : World1 Z wO wT kO kT iC vF vU vS) :
    Con l Z mq4 jdk_42_method_3_code 2 none ws ({ frames := 3, cells := 1, slots := 3, locals := 52 } : Room) #[(.ref a0b), (.ref a1)] h0 (fun v h L => v = none ∧ Fr n0 L ∧ Keep h0 h [a0b] ∧ Exa Z h a0b "java/lang/String" ∧ Fld Z h a0b "java/lang/String" "coder" "B" (.int 0) ∧ ∃ (t : Addr) (kt : ClassId), h0.size ≤ t ∧ Fld Z h a0b "java/lang/String" "value" "[B" (.ref t) ∧ Arv Z h t kt .byte (3 : Int32) [(.int (nar .byte (c0.toInt8.toInt32))), (.int (nar .byte (c1.toInt8.toInt32))), (.int (nar .byte (c2.toInt8.toInt32)))] (.int 0)) := by
  refine own_body (plainFor_of_name pn_java_lang_String) ?_
  intro p e s m below meth c s₁ hx hby hml hZ hown hnm hlk hret X0 e0
  have N0 := Fr.nil n0
  have D := @hb _ _ hby
  have K0 : Keep h0 h0 [a0b] := Keep.refl _ _
  refine Go.st (T' := s₁) (f' := (mkF m 0 #[rv a0b, rv a1] [])) (fun _ k => castTop (by first | (simp [entryFrame, mkF, argsToLocals, Value.category]; done) | rfl) k) ?_
  have ⟨S_iC, nz_iC, S_vF, r_vF, S_vU, r_vU, S_vS, r_vS, S_wO, E_wO, S_wT, E_wT, V_wO, V_wT⟩ := WW
  have lt_wO := E_wO.lt
  have lt_wT := E_wT.lt
  have lt_a0b := E_a0b.lt
  have ne_wO_a0b : wO ≠ a0b := O0.ne lt_wO g_a0b
  have ne_wT_a0b : wT ≠ a0b := O0.ne lt_wT g_a0b
  have lt_a1 := V_a1.lt
  refine zan 1 X0 hx (D d1_0) rfl rfl ?_
  refine zan 2 X0 hx (D d1_1) rfl rfl ?_
  refine zic 3 0 X0 hx (D d1_2) ?_
  refine zan 4 X0 hx (D d1_3) rfl rfl ?_
  obtain ⟨cl1, Ar1, -, S1, Nx1, -, -⟩ := id V_a1
  refine Go.st (T' := s₁) (f' := (mkF m 5 #[rv a0b, rv a1] [(.int 3), (.int 0), (.ref a1), (.ref a0b)])) (fun _ k => X0.arraylength hx (by rw [e0]; exact Ar1.1) (State.isArrayOf_alike hZ.alike Ar1.2.1) (g := (mkF m 4 #[rv a0b, rv a1] [(.ref a1), (.int 0), (.ref a1), (.ref a0b)])) rfl rfl (D d1_4) _ (by rw [len_of S1 Nx1]; exact k)) ?_
  refine Go.st (f' := (mkF m 6 #[rv a0b, rv a1] [.null, (.int 3), (.int 0), (.ref a1), (.ref a0b)])) (fun _ k => XS.aconstNull X0.here hx rfl (D d1_5) k) ?_
  obtain ⟨_, _, ⟨T2, L2, kk2, nn2⟩, -, X2, ⟨Lc2, hQ2, lq2, yq2, zz2⟩, st2⟩ := X0.specialBack hx (y := mq3) rfl hown (mvT hZ (ww hw 8 rfl)) (mvT hZ (ww hw 9 rfl)) (mvT hZ (ww hw 11 rfl)) (by decide) (own_back (W := 0) (stv_3 l Z a0 hw [] a0b a1 k1 c0 c1 c2 wO wT kO kT iC vF vU vS h0 n0 O0 hc_c0 hc_c1 hc_c2 g_a0b nb1 E_a0b F_a0b_coder F_a0b_value V_a1 WW) hZ (ww hw 11 rfl) (ww hw 3 rfl) (by decide) (by decide)) (g := (mkF m 6 #[rv a0b, rv a1] [.null, (.int 3), (.int 0), (.ref a1), (.ref a0b)])) rfl (by rw [hml]; rfl) (Steps.refl _) (a := a0b) (argsL := [(.ref a1), (.int (0 : Int32)), (.int (3 : Int32)), .null]) (rest := []) (lenOf pd___CIILjava_lang_Void__V rfl) rfl (by show 2 * 0 + _ ≤ _; exact Nat.le_of_eq rfl) (D d1_6) (fun _ _ => ⟨rfl, e0, (by decide : 0 + 1 ≤ _), (by decide : 0 + 3 ≤ _)⟩)
  dsimp only [Pt.U, Pt.locs, Pt.cells, Pt.slots] at X2 lq2 yq2 zz2 st2 hQ2
  subst lq2 yq2 zz2
  obtain ⟨rfl, Nq2, kq2, eq2, cq2, tt2, kt2, zq2, fq2, vq2⟩ := hQ2
  have N2 := Fr.app N0 Nq2
  have ne_a0b_tt2 : a0b ≠ tt2 := Nat.ne_of_lt (Nat.lt_of_lt_of_le lt_a0b zq2)
  have ne_a1_tt2 : a1 ≠ tt2 := Nat.ne_of_lt (Nat.lt_of_lt_of_le lt_a1 zq2)
  have ne_wO_tt2 : wO ≠ tt2 := Nat.ne_of_lt (Nat.lt_of_lt_of_le lt_wO (Nat.le_trans O0.2.1 zq2))
  have ne_wT_tt2 : wT ≠ tt2 := Nat.ne_of_lt (Nat.lt_of_lt_of_le lt_wT (Nat.le_trans O0.2.1 zq2))
  have g_tt2 : n0 ≤ tt2 := Nat.le_trans (O0.1 ▸ O0.2.1) zq2
  have sz_tt2 : h0.size ≤ tt2 := Nat.le_trans K0.1 zq2
  have O2 : Old Z n0 T2.heap := O0.keep kq2 (allS g_a0b all0)
  have K2 : Keep h0 T2.heap [a0b] := K0.trans kq2 (allS (Or.inl (List.mem_of_getElem? (i := 0) rfl)) all0)
  have lt_tt2 := vq2.lt
  refine Go.tr (f' := (mkF m 9 #[rv a0b, rv a1] [])) st2 ?_
  refine Go.ret0 X2 hlk hx hret (D d1_9) rfl ?_ (by decide) (by decide)
  exact ⟨rfl, N2, K2, eq2, cq2, tt2, kt2, sz_tt2, fq2, vq2⟩
theorem own_neArv {Z : State} {h : Heap} {a b : Addr} {k1 k2 : ClassId} {t1 t2 : FieldType} {z1 z2 : Int32} {v1 v2 : List Value} {d1 d2 : Value} (A : Arv Z h a k1 t1 z1 v1 d1) (B : Arv Z h b k2 t2 z2 v2 d2) (q : t1 ≠ t2) : a ≠ b := fun e => by
  subst e
  obtain ⟨c, ⟨c1, ⟨-, k, c2, comp, c3⟩, -⟩, -⟩ := A
  obtain ⟨c', ⟨d1, ⟨-, k', d2, comp', d3⟩, -⟩, -⟩ := B
  cases c1.symm.trans d1
  cases c2.symm.trans d2
  have := c3.symm.trans d3
  injection this with _ e
  exact q e

theorem d2_8 : decode jdk_42_method_149_code 8 = .ok (.aload_n 0, 1) := by decide +kernel
theorem d2_9 : decode jdk_42_method_149_code 9 = .ok (.ldc 7, 2) := by decide +kernel
theorem d2_11 : decode jdk_42_method_149_code 11 = .ok (.getfield 9, 3) := by decide +kernel
theorem d2_14 : decode jdk_42_method_149_code 14 = .ok (.putfield 9, 3) := by decide +kernel
theorem d2_17 : decode jdk_42_method_149_code 17 = .ok (.aload_n 0, 1) := by decide +kernel
theorem d2_18 : decode jdk_42_method_149_code 18 = .ok (.ldc 7, 2) := by decide +kernel
theorem d2_20 : decode jdk_42_method_149_code 20 = .ok (.getfield 15, 3) := by decide +kernel
theorem d2_23 : decode jdk_42_method_149_code 23 = .ok (.putfield 15, 3) := by decide +kernel
theorem d2_26 : decode jdk_42_method_149_code 26 = .ok (.return_, 1) := by decide +kernel
set_option maxRecDepth 65536 in
set_option maxHeartbeats 40000000 in
theorem sv_0 (l : Launch) (Z : State) (a0 : Array Value) (hw : ∀ d ∈ tables_1, d.before a0 Z = true) (ws : List Jvm.Cond) (a0b : Addr) (a1 : Addr) (wO : Addr) (wT : Addr) (kO : ClassId) (kT : ClassId) (iC : Int32) (vF : Value) (vU : Value) (vS : Value) (h0 : Heap) (n0 : Nat) (O0 : Old Z n0 h0) (g_a0b : n0 ≤ a0b) (E_a0b : Exa Z h0 a0b "java/lang/String") (F_a0b_coder : Fld Z h0 a0b "java/lang/String" "coder" "B" (.int 0)) (F_a0b_value : Fld Z h0 a0b "java/lang/String" "value" "[B" .null) (WW : World1 Z wO wT kO kT iC vF vU vS) :
    ConW l Z EL mq3 jdk_42_method_149_code 6 none ws ({ frames := 1, cells := 4, slots := 8, locals := 12 } : Room) #[(.ref a0b), (.ref a1), (.int 0), (.int 0), .null] h0 (fun v h L => v = none ∧ Fr n0 L ∧ Keep h0 h [a0b] ∧ Exa Z h a0b "java/lang/String" ∧ Fld Z h a0b "java/lang/String" "coder" "B" (.int 0) ∧ ∃ (t : Addr) (kt : ClassId), Fld Z h a0b "java/lang/String" "value" "[B" (.ref t) ∧ Arv Z h t kt .byte (0 : Int32) [] (.int 0)) := by
  refine own_bodyW (plainFor_of_name pn_java_lang_String) ?_
  intro p e s m below meth c s₁ hx hby hml hZ hown hnm hlk hret X0 e0 hh hS CR0
  have hEL := own_EL hw
  have wS := own_wS hw
  have N0 := Fr.nil n0
  have D := @hb _ _ hby
  have K0 : Keep h0 h0 [a0b] := Keep.refl _ _
  refine Go.st (T' := s₁) (f' := (mkF m 0 #[rv a0b, rv a1, iv 0, iv 0, .val .null, .unset] [])) (fun _ k => castTop (by first | (simp [entryFrame, mkF, argsToLocals, Value.category]; done) | rfl) k) ?_
  have ⟨S_iC, nz_iC, S_vF, r_vF, S_vU, r_vU, S_vS, r_vS, S_wO, E_wO, S_wT, E_wT, V_wO, V_wT⟩ := WW
  have lt_wO := E_wO.lt
  have lt_wT := E_wT.lt
  have lt_a0b := E_a0b.lt
  have ne_wO_a0b : wO ≠ a0b := O0.ne lt_wO g_a0b
  have ne_wT_a0b : wT ≠ a0b := O0.ne lt_wT g_a0b
  have sf_a0b : Safe Z EL s.vm h0 a0b := own_safe0 hZ.alike E_a0b F_a0b_value
  refine zan 1 X0 hx (D d2_0) rfl rfl ?_
  obtain ⟨T1, X1, e1, st1⟩ := initO X0 hx hZ hown (ww hw 12 rfl) (ww hw 13 rfl) (ww hw 14 rfl) e0 (g := (mkF m 1 #[rv a0b, rv a1, iv 0, iv 0, .val .null, .unset] [(.ref a0b)])) rfl (by rw [hml]; rfl) rfl (D d2_1) (by decide) (W := 0) (by show 2 * 0 + _ ≤ _; exact Nat.le_of_eq rfl) (by decide)
  refine zst 4 #[rv a0b, rv a1, iv 0, iv 0, .val .null, .unset] [] st1 ?_
  refine zin 5 X1 hx (D d2_4) rfl ?_
  refine zfn 8 X1 hx (D d2_5) (by decide) ?_
  refine zan 9 X1 hx (D d2_8) rfl rfl ?_
  obtain ⟨b2, T2, h2, k12, t2, kt2, X2, e2, E2, hS2, hk2, hZ2, hown2, A2, cq2, fq2, vq2, lt_b2, lt_t2, crw2, -, sfx2, st2⟩ := ldcCH (EL := EL) X1 hx hZ hown (ww hw 318 rfl) wS e1 hS (Nat.zero_le _) hEL (List.mem_of_getElem? (i := 6) rfl) CR0.1 (vs := []) (z := (0 : Int32)) ⟨by decide, by decide⟩ (by decide) rfl (g := (mkF m 9 #[rv a0b, rv a1, iv 0, iv 0, .val .null, .unset] [(.ref a0b)])) rfl (D d2_9) (n := 0) (by decide) (by decide) (by decide) (by decide)
  have O2 : Old Z n0 h2 := O0.ext E2
  have K2 : Keep h0 h2 [a0b] := K0.ext E2
  have sf3 := crw2.safe lt_a0b sf_a0b
  have CR2 := CR0.trans crw2
  refine zst 11 #[rv a0b, rv a1, iv 0, iv 0, .val .null, .unset] [(.ref b2), (.ref a0b)] st2 ?_
  refine zgf 14 X2 hx hZ2 hown2 (host := "") (Or.inl (ww hw 29 rfl)) Via.refl e2 fq2 (D d2_11) fun T4 X4 e4 => ?_
  have ft5 := (E_a0b.ext E2)
  have ft6 := (F_a0b_value.ext E2)
  obtain ⟨T7, h7, X7, e7, W7, st7⟩ := putF X4 hx hZ2 hown2 (host := "") (Or.inl (ww hw 29 rfl)) Via.refl e4 ft6 ft5 (Or.inr ⟨(ww hw 30 rfl), rfl, hnm⟩) (ww hw 2 rfl) (ty := (.array .byte)) (by decide) rfl rfl (g := (mkF m 14 #[rv a0b, rv a1, iv 0, iv 0, .val .null, .unset] [(.ref t2), (.ref a0b)])) rfl rfl (D d2_14)
  have N7 := Fr.snoc X7 N0 g_a0b
  have O7 : Old Z n0 h7 := O2.wr W7 g_a0b
  have K7 : Keep h0 h7 [a0b] := K2.wr W7 (Or.inl (List.mem_of_getElem? (i := 0) rfl))
  have CR7 : CHr Z EL s.vm h0 T2.vm h7 := CR2.trans (CHr.wr W7 sf3 CR2.1)
  have Fw7 := ft6.same W7
  refine zst 17 #[rv a0b, rv a1, iv 0, iv 0, .val .null, .unset] [] st7 ?_
  refine zan 18 X7 hx (D d2_17) rfl rfl ?_
  have ft9 := (Nat.le_trans hk2 (Nat.le_of_eq W7.size.symm))
  obtain ⟨b8, T8, h8, k18, t8, kt8, X8, e8, E8, hS8, hk8, hZ8, hown8, A8, cq8, fq8, vq8, lt_b8, lt_t8, crw8, -, sfx8, st8⟩ := ldcCH (EL := EL) X7 hx hZ2 hown2 (ww hw 318 rfl) wS e7 hS2 ft9 hEL (List.mem_of_getElem? (i := 6) rfl) CR7.1 (vs := []) (z := (0 : Int32)) ⟨by decide, by decide⟩ (by decide) rfl (g := (mkF m 18 #[rv a0b, rv a1, iv 0, iv 0, .val .null, .unset] [(.ref a0b)])) rfl (D d2_18) (n := 0) (by decide) (by decide) (by decide) (by decide)
  have ft10 := (Safe.wr W7 sf3 CR2.1 sf3)
  have ft11 := (Nat.lt_of_lt_of_eq (Nat.lt_of_lt_of_le lt_a0b E2.1) W7.size.symm)
  have O8 : Old Z n0 h8 := O7.ext E8
  have K8 : Keep h0 h8 [a0b] := K7.ext E8
  have sf12 := crw8.safe ft11 ft10
  have CR8 := CR7.trans crw8
  refine zst 20 #[rv a0b, rv a1, iv 0, iv 0, .val .null, .unset] [(.ref b8), (.ref a0b)] st8 ?_
  refine zgf 23 X8 hx hZ8 hown8 (host := "") (Or.inl (ww hw 27 rfl)) Via.refl e8 cq8 (D d2_20) fun T13 X13 e13 => ?_
  have ft14 := ((ft5.wr W7).ext E8)
  have ft15 := (((F_a0b_coder.ext E2).other W7 (Or.inr (slot_ne (Or.inr (ww hw 28 rfl)) (Or.inr (ww hw 30 rfl)) (by decide) (t := .byte) (t' := (.array .byte)) (by decide) (by decide)))).ext E8)
  obtain ⟨T16, h16, X16, e16, W16, st16⟩ := putFN X13 hx hZ8 hown8 (ww hw 27 rfl) Via.refl e13 ft15 ft14 (Or.inr ⟨(ww hw 28 rfl), rfl, hnm⟩) (ww hw 2 rfl) (ty := .byte) (v' := (.int (0 : Int32))) (by decide) rfl (by decide) (g := (mkF m 23 #[rv a0b, rv a1, iv 0, iv 0, .val .null, .unset] [(.int 0), (.ref a0b)])) rfl rfl (D d2_23)
  have N16 := Fr.snoc X16 N7 g_a0b
  have O16 : Old Z n0 h16 := O8.wr W16 g_a0b
  have K16 : Keep h0 h16 [a0b] := K8.wr W16 (Or.inl (List.mem_of_getElem? (i := 0) rfl))
  have CR16 : CHr Z EL s.vm h0 T8.vm h16 := CR8.trans (CHr.wr W16 sf12 CR8.1)
  have Fw16 := ft15.same W16
  refine zst 26 #[rv a0b, rv a1, iv 0, iv 0, .val .null, .unset] [] st16 ?_
  have ft17 := (Nat.le_trans hk8 (Nat.le_of_eq W16.size.symm))
  refine GoW.ret0 X16 hlk hx hret (D d2_26) e16 hS8 ft17 hZ8 hEL CR16 hh ?_ (by decide) (by decide)
  have ft18 := (ft14.wr W16)
  have ft19 := ((Fw7.ext E8).other W16 (Or.inr (slot_ne (Or.inr (ww hw 30 rfl)) (Or.inr (ww hw 28 rfl)) (by decide) (t := (.array .byte)) (t' := .byte) (by decide) (by decide))))
  have ft20 := (((vq2.other W7 (Ne.symm (sfx2 _ sf3).2)).ext E8).other W16 (Ne.symm (sfx2 _ sf3).2))
  exact ⟨rfl, N16, K16, ft18, Fw16, t2, kt2, ft19, ft20⟩
set_option maxRecDepth 65536 in
set_option maxHeartbeats 40000000 in
theorem s1_0 (l : Launch) (Z : State) (a0 : Array Value) (hw : ∀ d ∈ tables_1, d.before a0 Z = true) (ws : List Jvm.Cond) (a0b : Addr) (a1 : Addr) (k1 : ClassId) (wO : Addr) (wT : Addr) (kO : ClassId) (kT : ClassId) (iC : Int32) (vF : Value) (vU : Value) (vS : Value) (h0 : Heap) (n0 : Nat) (O0 : Old Z n0 h0) (g_a0b : n0 ≤ a0b) (E_a0b : Exa Z h0 a0b "java/lang/String") (F_a0b_coder : Fld Z h0 a0b "java/lang/String" "coder" "B" (.int 0)) (F_a0b_value : Fld Z h0 a0b "java/lang/String" "value" "[B" .null) (V_a1 : Arv Z h0 a1 k1 .char (0 : Int32) [] (.int 0)) (WW : World1 Z wO wT kO kT iC vF vU vS) :
    ConW l Z EL mq4 jdk_42_method_3_code 2 none ws ({ frames := 2, cells := 4, slots := 8, locals := 29 } : Room) #[(.ref a0b), (.ref a1)] h0 (fun v h L => v = none ∧ Fr n0 L ∧ Keep h0 h [a0b] ∧ Exa Z h a0b "java/lang/String" ∧ Fld Z h a0b "java/lang/String" "coder" "B" (.int 0) ∧ ∃ (t : Addr) (kt : ClassId), Fld Z h a0b "java/lang/String" "value" "[B" (.ref t) ∧ Arv Z h t kt .byte (0 : Int32) [] (.int 0)) := by
  refine own_bodyW (plainFor_of_name pn_java_lang_String) ?_
  intro p e s m below meth c s₁ hx hby hml hZ hown hnm hlk hret X0 e0 hh hS CR0
  have hEL := own_EL hw
  have wS := own_wS hw
  have N0 := Fr.nil n0
  have D := @hb _ _ hby
  have K0 : Keep h0 h0 [a0b] := Keep.refl _ _
  refine Go.st (T' := s₁) (f' := (mkF m 0 #[rv a0b, rv a1] [])) (fun _ k => castTop (by first | (simp [entryFrame, mkF, argsToLocals, Value.category]; done) | rfl) k) ?_
  have ⟨S_iC, nz_iC, S_vF, r_vF, S_vU, r_vU, S_vS, r_vS, S_wO, E_wO, S_wT, E_wT, V_wO, V_wT⟩ := WW
  have lt_wO := E_wO.lt
  have lt_wT := E_wT.lt
  have lt_a0b := E_a0b.lt
  have ne_wO_a0b : wO ≠ a0b := O0.ne lt_wO g_a0b
  have ne_wT_a0b : wT ≠ a0b := O0.ne lt_wT g_a0b
  have sf_a0b : Safe Z EL s.vm h0 a0b := own_safe0 hZ.alike E_a0b F_a0b_value
  have lt_a1 := V_a1.lt
  have nt_a0b_a1 : a0b ≠ a1 := Exa.neArv E_a0b V_a1 (ww hw 2 rfl)
  refine zan 1 X0 hx (D d1_0) rfl rfl ?_
  refine zan 2 X0 hx (D d1_1) rfl rfl ?_
  refine zic 3 0 X0 hx (D d1_2) ?_
  refine zan 4 X0 hx (D d1_3) rfl rfl ?_
  obtain ⟨cl1, Ar1, -, S1, Nx1, -, -⟩ := id V_a1
  refine Go.st (T' := s₁) (f' := (mkF m 5 #[rv a0b, rv a1] [(.int 0), (.int 0), (.ref a1), (.ref a0b)])) (fun _ k => X0.arraylength hx (by rw [e0]; exact Ar1.1) (State.isArrayOf_alike hZ.alike Ar1.2.1) (g := (mkF m 4 #[rv a0b, rv a1] [(.ref a1), (.int 0), (.ref a1), (.ref a0b)])) rfl rfl (D d1_4) _ (by rw [len_of S1 Nx1]; exact k)) ?_
  refine Go.st (f' := (mkF m 6 #[rv a0b, rv a1] [.null, (.int 0), (.int 0), (.ref a1), (.ref a0b)])) (fun _ k => XS.aconstNull X0.here hx rfl (D d1_5) k) ?_
  obtain ⟨_, _, ⟨T2, L2, kk2, nn2⟩, -, Xw2, hSw2, hgw2, ⟨Lc2, hQ2, lq2, yq2, zz2, crw2⟩, st2⟩ := X0.specialBackS hx (y := mq3) rfl hown (mvT hZ (ww hw 8 rfl)) (mvT hZ (ww hw 9 rfl)) (mvT hZ (ww hw 11 rfl)) (by decide) (own_backW (W := 0) (sv_0 l Z a0 hw [] a0b a1 wO wT kO kT iC vF vU vS h0 n0 O0 g_a0b E_a0b F_a0b_coder F_a0b_value WW) hZ (ww hw 11 rfl) (ww hw 3 rfl) (by decide) (by decide) hEL CR0.1) (g := (mkF m 6 #[rv a0b, rv a1] [.null, (.int 0), (.int 0), (.ref a1), (.ref a0b)])) rfl (by rw [hml]; rfl) (Steps.refl _) (a := a0b) (argsL := [(.ref a1), (.int (0 : Int32)), (.int (0 : Int32)), .null]) (rest := []) (lenOf pd___CIILjava_lang_Void__V rfl) rfl (by show 2 * 0 + _ ≤ _; exact Nat.le_of_eq rfl) (D d1_6) (fun _ _ => ⟨rfl, e0, (by decide : 0 + 4 ≤ _), (by decide : 0 + 8 ≤ _)⟩)
  dsimp only [Pt.U, Pt.locs, Pt.cells, Pt.slots] at Xw2 lq2 yq2 zz2 st2 hQ2 hSw2 hgw2 crw2
  subst lq2 yq2 zz2
  obtain ⟨X2, hS2, hZ2, hown2⟩ := rebS hS (by rw [e0]; exact (Nat.zero_le _)) Xw2 hSw2 hgw2 hZ hown
  obtain ⟨rfl, Nq2, kq2, eq2, cq2, tt2, kt2, fq2, vq2⟩ := hQ2
  have N2 := Fr.app N0 Nq2
  have O2 : Old Z n0 T2.heap := O0.keep kq2 (allS g_a0b all0)
  have K2 : Keep h0 T2.heap [a0b] := K0.trans kq2 (allS (Or.inl (List.mem_of_getElem? (i := 0) rfl)) all0)
  have lt_tt2 := vq2.lt
  have nt_a0b_tt2 : a0b ≠ tt2 := Exa.neArv eq2 vq2 (ww hw 2 rfl)
  have ft3 := (V_a1.keep kq2 (ninS (Ne.symm nt_a0b_a1) nin0))
  have nt_a1_tt2 : a1 ≠ tt2 := own_neArv ft3 vq2 (by decide)
  have hk2 : T2.heap.size ≤ T2.heap.size := Nat.le_refl _
  have sf4 := crw2.safe lt_a0b sf_a0b
  have CR2 := CR0.trans crw2
  refine Go.tr (f' := (mkF m 9 #[rv a0b, rv a1] [])) st2 ?_
  refine GoW.ret0 X2 hlk hx hret (D d1_9) rfl hS2 hk2 hZ2 hEL CR2 hh ?_ (by decide) (by decide)
  exact ⟨rfl, N2, K2, eq2, cq2, tt2, kt2, fq2, vq2⟩
theorem pn_java_lang_StringLatin1 : plainName "java/lang/StringLatin1" = true := by first | (simp [plainName, overriddenIn]; done) | decide +kernel
theorem d55_0 : decode jdk_43_method_3_code 0 = .ok (.iload_n 0, 1) := by decide +kernel
theorem d55_1 : decode jdk_43_method_3_code 1 = .ok (.sipush 255, 3) := by decide +kernel
theorem d55_4 : decode jdk_43_method_3_code 4 = .ok (.if_icmp .gt 7, 3) := by decide +kernel
theorem d55_7 : decode jdk_43_method_3_code 7 = .ok (.iconst 1, 1) := by decide +kernel
theorem d55_8 : decode jdk_43_method_3_code 8 = .ok (.goto 4, 3) := by decide +kernel
theorem d55_12 : decode jdk_43_method_3_code 12 = .ok (.ireturn, 1) := by decide +kernel
set_option maxRecDepth 65536 in
set_option maxHeartbeats 40000000 in
theorem st_enc (l : Launch) (Z : State) (a0 : Array Value) (hw : ∀ d ∈ tables_1, d.before a0 Z = true) (ws : List Jvm.Cond) (c0 : Int32) (h0 : Heap) (n0 : Nat) (O0 : Old Z n0 h0) (hc_c0 : ¬ (255 : Int32) < c0) :
    Con l Z mq5 jdk_43_method_3_code 1 (some .boolean) ws ({ frames := 0, cells := 0, slots := 0, locals := 0 } : Room) #[(.int c0)] h0 (fun v h L => v = some (.int 1) ∧ Fr n0 L ∧ h = h0) := by
  refine own_body (plainFor_of_name pn_java_lang_StringLatin1) ?_
  intro p e s m below meth c s₁ hx hby hml hZ hown hnm hlk hret X0 e0
  have N0 := Fr.nil n0
  have D := @hb _ _ hby
  refine Go.st (T' := s₁) (f' := (mkF m 0 #[iv c0] [])) (fun _ k => castTop (by first | (simp [entryFrame, mkF, argsToLocals, Value.category]; done) | rfl) k) ?_
  refine zin 1 X0 hx (D d55_0) rfl ?_
  refine Go.st (f' := (mkF m 4 #[iv c0] [(.int 255), (.int c0)])) (fun _ k => XS.sipush X0.here hx rfl (D d55_1) k) ?_
  refine zcn 7 X0 hx (D d55_4) (flt hc_c0).2.2.1 ?_
  refine zic 8 1 X0 hx (D d55_7) ?_
  refine zgo 12 X0 hx (D d55_8) ?_
  refine Go.retB X0 hlk hx (t := .boolean) hret (by simp) (D d55_12) e0 ?_ (by decide) (by decide)
  exact ⟨rfl, N0, rfl⟩
theorem d56_0 : decode jdk_43_method_46_code 0 = .ok (.iconst 1, 1) := by decide +kernel
theorem d56_1 : decode jdk_43_method_46_code 1 = .ok (.newarray .byte, 2) := by decide +kernel
theorem d56_3 : decode jdk_43_method_46_code 3 = .ok (.dup, 1) := by decide +kernel
theorem d56_4 : decode jdk_43_method_46_code 4 = .ok (.iconst 0, 1) := by decide +kernel
theorem d56_5 : decode jdk_43_method_46_code 5 = .ok (.iload_n 0, 1) := by decide +kernel
theorem d56_6 : decode jdk_43_method_46_code 6 = .ok (.i2b, 1) := by decide +kernel
theorem d56_7 : decode jdk_43_method_46_code 7 = .ok (.bastore, 1) := by decide +kernel
theorem d56_8 : decode jdk_43_method_46_code 8 = .ok (.areturn, 1) := by decide +kernel
set_option maxRecDepth 65536 in
set_option maxHeartbeats 40000000 in
theorem st_tob (l : Launch) (Z : State) (a0 : Array Value) (hw : ∀ d ∈ tables_1, d.before a0 Z = true) (ws : List Jvm.Cond) (c0 : Int32) (h0 : Heap) (n0 : Nat) (O0 : Old Z n0 h0)  :
    Con l Z mq6 jdk_43_method_46_code 1 (some (.array .byte)) ws ({ frames := 0, cells := 1, slots := 1, locals := 0 } : Room) #[(.int c0)] h0 (fun v h L => ∃ (b : Addr) (kb : ClassId), v = some (.ref b) ∧ Fr n0 L ∧ h0.size ≤ b ∧ Keep h0 h [] ∧ Arv Z h b kb .byte (1 : Int32) [(.int (nar .byte (c0.toInt8.toInt32)))] (.int 0)) := by
  refine own_body (plainFor_of_name pn_java_lang_StringLatin1) ?_
  intro p e s m below meth c s₁ hx hby hml hZ hown hnm hlk hret X0 e0
  have N0 := Fr.nil n0
  have D := @hb _ _ hby
  have K0 : Keep h0 h0 [] := Keep.refl _ _
  refine Go.st (T' := s₁) (f' := (mkF m 0 #[iv c0] [])) (fun _ k => castTop (by first | (simp [entryFrame, mkF, argsToLocals, Value.category]; done) | rfl) k) ?_
  refine zic 1 1 X0 hx (D d56_0) ?_
  obtain ⟨T1, h1, kc1, X1, e1, E1, A1, st1⟩ := newP X0 hx hZ (ww hw 20 rfl) e0 (g := (mkF m 1 #[iv c0] [(.int 1)])) rfl (D d56_1) rfl (by decide) (cap := 1) (by decide) (by decide) (by decide) (by decide)
  obtain ⟨b1, g1⟩ : ∃ z, z = h0.size := ⟨_, rfl⟩
  rw [← g1] at A1 st1
  have g_b1 : n0 ≤ b1 := Nat.le_trans (O0.1 ▸ O0.2.1) (Nat.le_of_eq g1.symm)
  have O1 : Old Z n0 h1 := O0.ext E1
  have sz_b1 : h0.size ≤ b1 := Nat.le_trans K0.1 (Nat.le_of_eq g1.symm)
  have K1 : Keep h0 h1 [] := K0.ext E1
  have V_b1 : Arv Z h1 b1 kc1 .byte (1 : Int32) [(.int (0 : Int32))] (.int (0 : Int32)) := (Arv.new A1 (by decide)).pad (pad_rep [] (.int (0 : Int32)) 1)
  have lt_b1 := V_b1.lt
  refine zst 3 #[iv c0] [(.ref b1)] st1 ?_
  refine Go.st (f' := (mkF m 4 #[iv c0] [(.ref b1), (.ref b1)])) (fun _ k => XS.dup X1.here hx rfl (D d56_3) rfl rfl k) ?_
  refine zic 5 0 X1 hx (D d56_4) ?_
  refine zin 6 X1 hx (D d56_5) rfl ?_
  refine Go.st (f' := (mkF m 7 #[iv c0] [(.int (c0.toInt8.toInt32)), (.int 0), (.ref b1), (.ref b1)])) (fun _ k => XS.i2b X1.here hx rfl (D d56_6) rfl k) ?_
  obtain ⟨cl2, Ar2, q2, S2, Nx2, H2, G2⟩ := id V_b1
  have hin2 : ¬ ((0 : Int32) < 0 ∨ cl2.slots.size ≤ ((0 : Int32)).toNatClampNeg) := inb_of S2 ⟨by decide, by decide⟩
  obtain ⟨T3, h3, X3, e3, W3, st3⟩ := stB X1 hx hZ e1 Ar2 (j := (0 : Int32)) hin2 (g := (mkF m 7 #[iv c0] [(.int (c0.toInt8.toInt32)), (.int 0), (.ref b1), (.ref b1)])) rfl rfl (D d56_7)
  have V_b1_3 : Arv Z h3 b1 kc1 .byte (1 : Int32) [(.int (nar .byte (c0.toInt8.toInt32)))] (.int (0 : Int32)) := Arv.set Ar2 q2 S2 Nx2 H2 G2 (fits_nar_byte _) W3 0 rfl (Nat.le_of_ble_eq_true rfl)
  have N3 := Fr.snoc X3 N0 g_b1
  have O3 : Old Z n0 h3 := O1.wr W3 g_b1
  have K3 : Keep h0 h3 [] := K1.wr W3 (Or.inr sz_b1)
  refine zst 8 #[iv c0] [(.ref b1)] st3 ?_
  refine Go.retV X3 hlk hx (t := (.array .byte)) hret rfl (Or.inr (Or.inr (Or.inr (Or.inr ⟨rfl, rfl, rfl⟩)))) (D d56_8) e3 ?_ (by decide) (by decide)
  exact ⟨b1, kc1, rfl, N3, sz_b1, K3, V_b1_3⟩
theorem d57_0 : decode jdk_42_method_151_code 0 = .ok (.aload_n 0, 1) := by decide +kernel
theorem d57_1 : decode jdk_42_method_151_code 1 = .ok (.invokespecial 1, 3) := by decide +kernel
theorem d57_4 : decode jdk_42_method_151_code 4 = .ok (.aload_n 0, 1) := by decide +kernel
theorem d57_5 : decode jdk_42_method_151_code 5 = .ok (.aload_n 1, 1) := by decide +kernel
theorem d57_6 : decode jdk_42_method_151_code 6 = .ok (.putfield 9, 3) := by decide +kernel
theorem d57_9 : decode jdk_42_method_151_code 9 = .ok (.aload_n 0, 1) := by decide +kernel
theorem d57_10 : decode jdk_42_method_151_code 10 = .ok (.iload_n 2, 1) := by decide +kernel
theorem d57_11 : decode jdk_42_method_151_code 11 = .ok (.putfield 15, 3) := by decide +kernel
theorem d57_14 : decode jdk_42_method_151_code 14 = .ok (.return_, 1) := by decide +kernel
set_option maxRecDepth 65536 in
set_option maxHeartbeats 40000000 in
theorem st_bb (l : Launch) (Z : State) (a0 : Array Value) (hw : ∀ d ∈ tables_1, d.before a0 Z = true) (ws : List Jvm.Cond) (a1 : Addr) (t1 : Addr) (h0 : Heap) (n0 : Nat) (O0 : Old Z n0 h0) (g_a1 : n0 ≤ a1) (E_a1 : Exa Z h0 a1 "java/lang/String") (F_a1_coder : Fld Z h0 a1 "java/lang/String" "coder" "B" (.int 0)) (F_a1_value : Fld Z h0 a1 "java/lang/String" "value" "[B" .null) :
    Con l Z mq7 jdk_42_method_151_code 3 none ws ({ frames := 1, cells := 0, slots := 0, locals := 12 } : Room) #[(.ref a1), (.ref t1), (.int 0)] h0 (fun v h L => v = none ∧ Fr n0 L ∧ Keep h0 h [a1] ∧ Exa Z h a1 "java/lang/String" ∧ Fld Z h a1 "java/lang/String" "coder" "B" (.int 0) ∧ Fld Z h a1 "java/lang/String" "value" "[B" (.ref t1)) := by
  refine own_body (plainFor_of_name pn_java_lang_String) ?_
  intro p e s m below meth c s₁ hx hby hml hZ hown hnm hlk hret X0 e0
  have N0 := Fr.nil n0
  have D := @hb _ _ hby
  have K0 : Keep h0 h0 [a1] := Keep.refl _ _
  refine Go.st (T' := s₁) (f' := (mkF m 0 #[rv a1, rv t1, iv 0] [])) (fun _ k => castTop (by first | (simp [entryFrame, mkF, argsToLocals, Value.category]; done) | rfl) k) ?_
  have lt_a1 := E_a1.lt
  refine zan 1 X0 hx (D d57_0) rfl rfl ?_
  obtain ⟨T1, X1, e1, st1⟩ := initO X0 hx hZ hown (ww hw 12 rfl) (ww hw 13 rfl) (ww hw 14 rfl) e0 (g := (mkF m 1 #[rv a1, rv t1, iv 0] [(.ref a1)])) rfl (by rw [hml]; rfl) rfl (D d57_1) (by decide) (W := 0) (by show 2 * 0 + _ ≤ _; exact Nat.le_of_eq rfl) (by decide)
  refine zst 4 #[rv a1, rv t1, iv 0] [] st1 ?_
  refine zan 5 X1 hx (D d57_4) rfl rfl ?_
  refine zan 6 X1 hx (D d57_5) rfl rfl ?_
  obtain ⟨T2, h2, X2, e2, W2, st2⟩ := putF X1 hx hZ hown (host := "") (Or.inl (ww hw 29 rfl)) Via.refl e1 F_a1_value E_a1 (Or.inr ⟨(ww hw 30 rfl), rfl, hnm⟩) (ww hw 2 rfl) (ty := (.array .byte)) (by decide) rfl rfl (g := (mkF m 6 #[rv a1, rv t1, iv 0] [(.ref t1), (.ref a1)])) rfl rfl (D d57_6)
  have N2 := Fr.snoc X2 N0 g_a1
  have O2 : Old Z n0 h2 := O0.wr W2 g_a1
  have K2 : Keep h0 h2 [a1] := K0.wr W2 (Or.inl (List.mem_of_getElem? (i := 0) rfl))
  have Fw2 := F_a1_value.same W2
  refine zst 9 #[rv a1, rv t1, iv 0] [] st2 ?_
  refine zan 10 X2 hx (D d57_9) rfl rfl ?_
  refine zin 11 X2 hx (D d57_10) rfl ?_
  have ft3 := (E_a1.wr W2)
  have ft4 := (F_a1_coder.other W2 (Or.inr (slot_ne (Or.inr (ww hw 28 rfl)) (Or.inr (ww hw 30 rfl)) (by decide) (t := .byte) (t' := (.array .byte)) (by decide) (by decide))))
  obtain ⟨T5, h5, X5, e5, W5, st5⟩ := putFN X2 hx hZ hown (ww hw 27 rfl) Via.refl e2 ft4 ft3 (Or.inr ⟨(ww hw 28 rfl), rfl, hnm⟩) (ww hw 2 rfl) (ty := .byte) (v' := (.int (0 : Int32))) (by decide) rfl (by decide) (g := (mkF m 11 #[rv a1, rv t1, iv 0] [(.int 0), (.ref a1)])) rfl rfl (D d57_11)
  have N5 := Fr.snoc X5 N2 g_a1
  have O5 : Old Z n0 h5 := O2.wr W5 g_a1
  have K5 : Keep h0 h5 [a1] := K2.wr W5 (Or.inl (List.mem_of_getElem? (i := 0) rfl))
  have Fw5 := ft4.same W5
  refine zst 14 #[rv a1, rv t1, iv 0] [] st5 ?_
  refine Go.ret0 X5 hlk hx hret (D d57_14) e5 ?_ (by decide) (by decide)
  have ft6 := (ft3.wr W5)
  have ft7 := (Fw2.other W5 (Or.inr (slot_ne (Or.inr (ww hw 30 rfl)) (Or.inr (ww hw 28 rfl)) (by decide) (t := (.array .byte)) (t' := .byte) (by decide) (by decide))))
  exact ⟨rfl, N5, K5, ft6, Fw5, ft7⟩
theorem d54_0 : decode jdk_42_method_139_code 0 = .ok (.getstatic 38, 3) := by decide +kernel
theorem d54_3 : decode jdk_42_method_139_code 3 = .ok (.ifCond .eq 23, 3) := by decide +kernel
theorem d54_6 : decode jdk_42_method_139_code 6 = .ok (.iload_n 0, 1) := by decide +kernel
theorem d54_7 : decode jdk_42_method_139_code 7 = .ok (.invokestatic 1015, 3) := by decide +kernel
theorem pd__C_Z : parseMethodDescriptor "(C)Z" = some ⟨[.char], some .boolean⟩ := by decide +kernel
theorem d54_10 : decode jdk_42_method_139_code 10 = .ok (.ifCond .eq 16, 3) := by decide +kernel
theorem d54_13 : decode jdk_42_method_139_code 13 = .ok (.new 10, 3) := by decide +kernel
theorem d54_16 : decode jdk_42_method_139_code 16 = .ok (.dup, 1) := by decide +kernel
theorem d54_17 : decode jdk_42_method_139_code 17 = .ok (.iload_n 0, 1) := by decide +kernel
theorem d54_18 : decode jdk_42_method_139_code 18 = .ok (.invokestatic 1018, 3) := by decide +kernel
theorem pd__C__B : parseMethodDescriptor "(C)[B" = some ⟨[.char], some (.array .byte)⟩ := by decide +kernel
theorem d54_21 : decode jdk_42_method_139_code 21 = .ok (.iconst 0, 1) := by decide +kernel
theorem d54_22 : decode jdk_42_method_139_code 22 = .ok (.invokespecial 209, 3) := by decide +kernel
theorem pd___BB_V : parseMethodDescriptor "([BB)V" = some ⟨[(.array .byte), .byte], none⟩ := by decide +kernel
theorem d54_25 : decode jdk_42_method_139_code 25 = .ok (.areturn, 1) := by decide +kernel
set_option maxRecDepth 65536 in
set_option maxHeartbeats 40000000 in
theorem st_vof (l : Launch) (Z : State) (a0 : Array Value) (hw : ∀ d ∈ tables_1, d.before a0 Z = true) (ws : List Jvm.Cond) (c0 : Int32) (wO : Addr) (wT : Addr) (kO : ClassId) (kT : ClassId) (iC : Int32) (vF : Value) (vU : Value) (vS : Value) (h0 : Heap) (n0 : Nat) (O0 : Old Z n0 h0) (hc_c0 : ¬ (255 : Int32) < c0) (WW : World1 Z wO wT kO kT iC vF vU vS) :
    Con l Z mq8 jdk_42_method_139_code 1 (some (.object "java/lang/String")) ws ({ frames := 2, cells := 2, slots := 5, locals := 27 } : Room) #[(.int c0)] h0 (fun v h L => ∃ b : Addr, v = some (.ref b) ∧ Fr n0 L ∧ h0.size ≤ b ∧ Keep h0 h [] ∧ Exa Z h b "java/lang/String" ∧ Fld Z h b "java/lang/String" "coder" "B" (.int 0) ∧ ∃ (t : Addr) (kt : ClassId), h0.size ≤ t ∧ Fld Z h b "java/lang/String" "value" "[B" (.ref t) ∧ Arv Z h t kt .byte (1 : Int32) [(.int (nar .byte (c0.toInt8.toInt32)))] (.int 0)) := by
  refine own_body (plainFor_of_name pn_java_lang_String) ?_
  intro p e s m below meth c s₁ hx hby hml hZ hown hnm hlk hret X0 e0
  have N0 := Fr.nil n0
  have D := @hb _ _ hby
  have K0 : Keep h0 h0 [] := Keep.refl _ _
  refine Go.st (T' := s₁) (f' := (mkF m 0 #[iv c0] [])) (fun _ k => castTop (by first | (simp [entryFrame, mkF, argsToLocals, Value.category]; done) | rfl) k) ?_
  have ⟨S_iC, nz_iC, S_vF, r_vF, S_vU, r_vU, S_vS, r_vS, S_wO, E_wO, S_wT, E_wT, V_wO, V_wT⟩ := WW
  have lt_wO := E_wO.lt
  have lt_wT := E_wT.lt
  obtain ⟨T1, X1, e1, st1⟩ := getS2 X0 hx hZ hown (host := "") (Or.inl (ww hw 15 rfl)) Via.refl e0 (S_iC.ext O0.2) (g := (mkF m 0 #[iv c0] [])) rfl (D d54_0)
  refine zst 3 #[iv c0] [(.int iC)] st1 ?_
  refine zfn 6 X1 hx (D d54_3) ((if0 _ _).trans (feq nz_iC).1) ?_
  refine zin 7 X1 hx (D d54_6) rfl ?_
  refine gS 10 0 0 0 X1 N0 hx hZ (y := mq5) hown hml (ww hw 303 rfl) (ww hw 304 rfl) (ww hw 268 rfl) (st_enc l Z a0 hw [] c0 h0 n0 O0 hc_c0) (ww hw 305 rfl) e1 [(.int c0)] [] (lenOf pd__C_Z rfl) (D d54_7) ?_
  rintro T2 L2 M2 _ X2 uu2 ⟨rfl, Nq2, kq2⟩
  have N2 := uu2 Nq2
  refine zsk [(.int 1)] ?_
  refine zfn 13 X2 hx (D d54_10) (by decide) ?_
  obtain ⟨T3, h3, X3, e3, E3, A3, D3, -, st3⟩ := newO X2 hx hZ hown (ww hw 306 rfl) (ww hw 2 rfl) (ww hw 3 rfl) kq2 (g := (mkF m 13 #[iv c0] [])) rfl (D d54_13) (by decide) (by decide)
  obtain ⟨b3, g3⟩ : ∃ z, z = h0.size := ⟨_, rfl⟩
  rw [← g3] at A3 D3 st3
  have ne_wO_b3 : wO ≠ b3 := Nat.ne_of_lt (Nat.lt_of_lt_of_le lt_wO (Nat.le_trans O0.2.1 (Nat.le_of_eq g3.symm)))
  have ne_wT_b3 : wT ≠ b3 := Nat.ne_of_lt (Nat.lt_of_lt_of_le lt_wT (Nat.le_trans O0.2.1 (Nat.le_of_eq g3.symm)))
  have g_b3 : n0 ≤ b3 := Nat.le_trans (O0.1 ▸ O0.2.1) (Nat.le_of_eq g3.symm)
  have O3 : Old Z n0 h3 := O0.ext E3
  have sz_b3 : h0.size ≤ b3 := Nat.le_trans K0.1 (Nat.le_of_eq g3.symm)
  have K3 : Keep h0 h3 [] := K0.ext E3
  have lt_b3 := A3.lt
  have F_coder_b3 : Fld Z h3 b3 "java/lang/String" "coder" "B" (.int (0 : Int32)) := D3 (Or.inr (ww hw 28 rfl)) (ty := .byte) (by decide)
  have F_value_b3 : Fld Z h3 b3 "java/lang/String" "value" "[B" .null := D3 (Or.inr (ww hw 30 rfl)) (ty := (.array .byte)) (by decide)
  refine zst 16 #[iv c0] [(.ref b3)] st3 ?_
  refine Go.st (f' := (mkF m 17 #[iv c0] [(.ref b3), (.ref b3)])) (fun _ k => XS.dup X3.here hx rfl (D d54_16) rfl rfl k) ?_
  refine zin 18 X3 hx (D d54_17) rfl ?_
  refine gS 21 2 2 5 X3 N2 hx hZ (y := mq6) hown hml (ww hw 307 rfl) (ww hw 308 rfl) (ww hw 268 rfl) (st_tob l Z a0 hw [] c0 h3 n0 O3) (ww hw 309 rfl) e3 [(.int c0)] [(.ref b3), (.ref b3)] (lenOf pd__C__B rfl) (D d54_18) ?_
  rintro T4 L4 M4 _ X4 uu4 ⟨b4, kb4, rfl, Nq4, zq4, kq4, vq4⟩
  have N4 := uu4 Nq4
  have ne_b3_b4 : b3 ≠ b4 := Nat.ne_of_lt (Nat.lt_of_lt_of_le lt_b3 zq4)
  have ne_wO_b4 : wO ≠ b4 := Nat.ne_of_lt (Nat.lt_of_lt_of_le lt_wO (Nat.le_trans O3.2.1 zq4))
  have ne_wT_b4 : wT ≠ b4 := Nat.ne_of_lt (Nat.lt_of_lt_of_le lt_wT (Nat.le_trans O3.2.1 zq4))
  have g_b4 : n0 ≤ b4 := Nat.le_trans (O3.1 ▸ O3.2.1) zq4
  have sz_b4 : h0.size ≤ b4 := Nat.le_trans K3.1 zq4
  have O4 : Old Z n0 T4.heap := O3.keep kq4 all0
  have K4 : Keep h0 T4.heap [] := K3.trans kq4 all0
  have lt_b4 := vq4.lt
  refine zsk [(.ref b4), (.ref b3), (.ref b3)] ?_
  refine zic 22 0 X4 hx (D d54_21) ?_
  have ft6 := (A3.keep kq4)
  have ft7 := (F_coder_b3.keep kq4 nin0)
  have ft8 := (F_value_b3.keep kq4 nin0)
  obtain ⟨_, _, ⟨T5, L5, kk5, nn5⟩, -, X5, ⟨Lc5, hQ5, lq5, yq5, zz5⟩, st5⟩ := X4.specialBack hx (y := mq7) rfl hown (mvT hZ (ww hw 310 rfl)) (mvT hZ (ww hw 311 rfl)) (mvT hZ (ww hw 312 rfl)) (by decide) (own_back (W := 1) (st_bb l Z a0 hw [] b3 b4 T4.heap n0 O4 g_b3 ft6 ft7 ft8 ) hZ (ww hw 312 rfl) (ww hw 3 rfl) (by decide) (by decide)) (g := (mkF m 22 #[iv c0] [(.int 0), (.ref b4), (.ref b3), (.ref b3)])) rfl (by rw [hml]; rfl) (Steps.refl _) (a := b3) (argsL := [(.ref b4), (.int (0 : Int32))]) (rest := [(.ref b3)]) (lenOf pd___BB_V rfl) rfl (by show 2 * 0 + _ ≤ _; exact Nat.le_of_eq rfl) (D d54_22) (fun _ _ => ⟨rfl, rfl, (by decide : 2 + 0 ≤ _), (by decide : 5 + 0 ≤ _)⟩)
  dsimp only [Pt.U, Pt.locs, Pt.cells, Pt.slots] at X5 lq5 yq5 zz5 st5 hQ5
  subst lq5 yq5 zz5
  obtain ⟨rfl, Nq5, kq5, eq5, fq5_0, fq5_1⟩ := hQ5
  have N5 := Fr.app N4 Nq5
  have O5 : Old Z n0 T5.heap := O4.keep kq5 (allS g_b3 all0)
  have K5 : Keep h0 T5.heap [] := K4.trans kq5 (allS (Or.inr sz_b3) all0)
  refine Go.tr (f' := (mkF m 25 #[iv c0] [(.ref b3)])) st5 ?_
  refine Go.retV X5 hlk hx (t := (.object "java/lang/String")) hret rfl (Or.inr (Or.inr (Or.inr (Or.inr ⟨rfl, rfl, rfl⟩)))) (D d54_25) rfl ?_ (by decide) (by decide)
  have ft9 := (vq4.keep kq5 (ninS (Ne.symm ne_b3_b4) nin0))
  exact ⟨b3, rfl, N5, sz_b3, K5, eq5, fq5_0, b4, kb4, sz_b4, fq5_1, ft9⟩
theorem own_nf {s : State} {args : Array Value} {C : String} {yp y : MethodName} (hs : (Cond.selects C yp yp).before args s = true) (he : yp.cls = y.cls) : NotFace s y := fun r0 h0 => by
  obtain ⟨c, r, m, -, -, h3, -, mk, h4, h5⟩ := Cond.selects_spec hs
  have f1 := findClass_of_methodNamed h3
  have f2 := findClass_of_methodNamed h0
  rw [he] at f1
  have e := Option.some.inj (f1.symm.trans f2)
  rw [e] at h4
  exact ⟨mk, h4, h5⟩
theorem own_same {Z : State} {a0 : Array Value} {C : String} {yp y : MethodName} (hs : (Cond.selects C yp yp).before a0 Z = true) (hi : (Cond.instanceMethod y).before a0 Z = true) (he : yp.cls = y.cls) (hy : y.cls ≠ "java/lang/invoke/MethodHandle" ∧ y.cls ≠ "java/lang/invoke/VarHandle") : (Cond.sameMethod y.cls y.cls y.name y.desc).before a0 Z = true := by
  obtain ⟨c, r, m, -, -, h3, -, mk, h4, h5⟩ := Cond.selects_spec hs
  obtain ⟨m2, methM, hn, -, -, -⟩ := Cond.instanceMethod_spec hi
  have f1 := findClass_of_methodNamed h3
  have f2 := findClass_of_methodNamed hn
  rw [he] at f1
  have e := Option.some.inj (f1.symm.trans f2)
  rw [e] at h4
  have f3 := State.methodFound?_of_named hn hy
  simp [Cond.before, Cond.holds, Cond.value, f2, f3, show Z.methodNamed? ⟨y.cls, y.name, y.desc⟩ = some m2 from hn, h4, h5]
theorem own_selp {s : State} {args : Array Value} {C : String} {y : MethodName} (h : (Cond.selects C y y).before args s = true) (hp : s.PrivateAt y) (hi : (Cond.instanceMethod y).before args s = true) (hy : y.cls ≠ "java/lang/invoke/MethodHandle" ∧ y.cls ≠ "java/lang/invoke/VarHandle") : (Cond.selects y.cls y y).before args s = true := by
  obtain ⟨c, r, m, -, -, h3, -, mk, h4, h5⟩ := Cond.selects_spec h
  exact Jvm.Stand.selects_self_of_private (findClass_of_methodNamed h3) h4 h5 hp hi hy
theorem own_ishl0 (c : Int32) : c <<< ((0 : Int32) &&& 31) = c := by
  have a := c_ishl c 0 0 (by decide)
  have r := rng32 (c <<< ((0 : Int32) &&& 31))
  have r2 := rng32 c
  rw [← Int32.toInt_inj]; omega
theorem own_ishr0 (c : Int32) : c >>> ((0 : Int32) &&& 31) = c := by
  have a : (c >>> ((0 : Int32) &&& 31)).toInt = c.toInt / (2 ^ 0 : Nat) := c_ishr c 0 0 (by decide)
  rw [← Int32.toInt_inj]; omega
/-- c is the list's length -/
def Ln (c : Int32) (xs : List Value) : Prop := 0 ≤ c.toInt ∧ c.toInt = (xs.length : Int)
theorem ln0 : Ln (0 : Int32) [] := ⟨by decide, by decide⟩
theorem Ln.nn {c : Int32} {xs : List Value} (h : Ln c xs) : ¬ c < (0 : Int32) := by
  rw [Int32.lt_iff_toInt_lt]; have e : (0 : Int32).toInt = 0 := by decide
  have := h.1; omega
theorem Ln.nat {c : Int32} {xs : List Value} (h : Ln c xs) : c.toNatClampNeg = xs.length := by
  simp only [Int32.toNatClampNeg]; have := h.2; omega
theorem Ln.app {c n : Int32} {xs fs : List Value} (a : Ln c xs) (b : Ln n fs) (h : xs.length + fs.length ≤ 1000000) : Ln (c + n) (xs ++ fs) := by
  have q := c_iadd c n
  have r := rng32 (c + n)
  have := a.1; have := a.2; have := b.1; have := b.2
  constructor
  · omega
  · rw [List.length_append]; omega
theorem Ln.eq {c n : Int32} {xs ys : List Value} (a : Ln c xs) (b : Ln n ys) (e : xs.length = ys.length) : c = n := by
  rw [← Int32.toInt_inj, a.2, b.2, e]
theorem Ln.le {c : Int32} {xs : List Value} {m : Nat} (a : Ln c xs) (h : xs.length ≤ m) : c.toNatClampNeg ≤ m := by rw [a.nat]; exact h
def Ints (es : List Value) : Prop := ∀ v ∈ es, ∃ x : Int32, v = .int x
theorem own_at {es : List Value} {n i : Int32} {d : Value} (I : Ints es) (l : Ln n es) (h0 : ¬ i < (0 : Int32)) (h1 : i < n) : ∃ x : Int32, es.getD i.toNatClampNeg d = .int x := by
  rw [Int32.lt_iff_toInt_lt] at h0 h1
  have e0 : (0 : Int32).toInt = 0 := by decide
  have hk : i.toNatClampNeg < es.length := by have := l.2; simp only [Int32.toNatClampNeg]; omega
  have hg : es.getD i.toNatClampNeg d = es[i.toNatClampNeg] := by simp [List.getD, hk]
  obtain ⟨x, hx⟩ := I _ (List.getElem_mem hk)
  exact ⟨x, hg.trans hx⟩
theorem own_mapr {n : Int32} {fs : List Value} {d : Value} (h : n.toNatClampNeg = fs.length) : fs = (List.range n.toNatClampNeg).map fun i => fs.getD ((0 : Int32).toNatClampNeg + i) d := by
  rw [h]
  apply List.ext_getElem
  · simp
  · intro i h1 h2
    have e : (0 : Int32).toNatClampNeg + i = i := by show 0 + i = i; omega
    simp [e, List.getD, h1]
theorem own_padl {c n : Int32} {xs fs : List Value} {d : Value} (a : Ln c xs) (b : Ln n fs) : c.toNatClampNeg + n.toNatClampNeg ≤ (xs ++ List.replicate fs.length d).length := by
  rw [a.nat, b.nat]; simp
theorem own_join {c n : Int32} {xs fs : List Value} {d : Value} (a : c.toNatClampNeg = xs.length) (b : n.toNatClampNeg = fs.length) : (xs ++ List.replicate fs.length d).take c.toNatClampNeg ++ fs ++ (xs ++ List.replicate fs.length d).drop (c.toNatClampNeg + n.toNatClampNeg) = xs ++ fs := by
  rw [a, b]; simp

theorem d13_0 : decode jdk_42_method_152_code 0 = .ok (.getstatic 38, 3) := by decide +kernel
theorem d13_3 : decode jdk_42_method_152_code 3 = .ok (.ifCond .eq 10, 3) := by decide +kernel
theorem d13_6 : decode jdk_42_method_152_code 6 = .ok (.aload_n 0, 1) := by decide +kernel
theorem d13_7 : decode jdk_42_method_152_code 7 = .ok (.getfield 15, 3) := by decide +kernel
theorem d13_10 : decode jdk_42_method_152_code 10 = .ok (.goto 4, 3) := by decide +kernel
theorem d13_14 : decode jdk_42_method_152_code 14 = .ok (.ireturn, 1) := by decide +kernel
set_option maxRecDepth 65536 in
set_option maxHeartbeats 40000000 in
theorem cod (l : Launch) (Z : State) (a0 : Array Value) (hw : ∀ d ∈ tables_1, d.before a0 Z = true) (ws : List Jvm.Cond) (a1 : Addr) (wO : Addr) (wT : Addr) (kO : ClassId) (kT : ClassId) (iC : Int32) (vF : Value) (vU : Value) (vS : Value) (h0 : Heap) (n0 : Nat) (O0 : Old Z n0 h0) (E_a1 : Exa Z h0 a1 "java/lang/String") (F_a1_coder : Fld Z h0 a1 "java/lang/String" "coder" "B" (.int 0)) (WW : World1 Z wO wT kO kT iC vF vU vS) :
    Con l Z mq9 jdk_42_method_152_code 1 (some .byte) ws ({ frames := 0, cells := 0, slots := 0, locals := 0 } : Room) #[(.ref a1)] h0 (fun v h L => v = some (.int 0) ∧ Fr n0 L ∧ h = h0) := by
  refine own_body (plainFor_of_name pn_java_lang_String) ?_
  intro p e s m below meth c s₁ hx hby hml hZ hown hnm hlk hret X0 e0
  have N0 := Fr.nil n0
  have D := @hb _ _ hby
  refine Go.st (T' := s₁) (f' := (mkF m 0 #[rv a1] [])) (fun _ k => castTop (by first | (simp [entryFrame, mkF, argsToLocals, Value.category]; done) | rfl) k) ?_
  have ⟨S_iC, nz_iC, S_vF, r_vF, S_vU, r_vU, S_vS, r_vS, S_wO, E_wO, S_wT, E_wT, V_wO, V_wT⟩ := WW
  have lt_wO := E_wO.lt
  have lt_wT := E_wT.lt
  have lt_a1 := E_a1.lt
  obtain ⟨T1, X1, e1, st1⟩ := getS2 X0 hx hZ hown (host := "") (Or.inl (ww hw 15 rfl)) Via.refl e0 (S_iC.ext O0.2) (g := (mkF m 0 #[rv a1] [])) rfl (D d13_0)
  refine zst 3 #[rv a1] [(.int iC)] st1 ?_
  refine zfn 6 X1 hx (D d13_3) ((if0 _ _).trans (feq nz_iC).1) ?_
  refine zan 7 X1 hx (D d13_6) rfl rfl ?_
  refine zgf 10 X1 hx hZ hown (host := "") (Or.inl (ww hw 27 rfl)) Via.refl e1 F_a1_coder (D d13_7) fun T2 X2 e2 => ?_
  refine zgo 14 X2 hx (D d13_10) ?_
  refine Go.retB X2 hlk hx (t := .byte) hret (by simp) (D d13_14) e2 ?_ (by decide) (by decide)
  exact ⟨rfl, N0, rfl⟩
theorem d47_0 : decode jdk_42_method_154_code 0 = .ok (.getstatic 38, 3) := by decide +kernel
theorem d47_3 : decode jdk_42_method_154_code 3 = .ok (.ifCond .eq 14, 3) := by decide +kernel
theorem d47_6 : decode jdk_42_method_154_code 6 = .ok (.aload_n 0, 1) := by decide +kernel
theorem d47_7 : decode jdk_42_method_154_code 7 = .ok (.getfield 15, 3) := by decide +kernel
theorem d47_10 : decode jdk_42_method_154_code 10 = .ok (.ifCond .ne 7, 3) := by decide +kernel
theorem d47_13 : decode jdk_42_method_154_code 13 = .ok (.iconst 1, 1) := by decide +kernel
theorem d47_14 : decode jdk_42_method_154_code 14 = .ok (.goto 4, 3) := by decide +kernel
theorem d47_18 : decode jdk_42_method_154_code 18 = .ok (.ireturn, 1) := by decide +kernel
set_option maxRecDepth 65536 in
set_option maxHeartbeats 40000000 in
theorem lat (l : Launch) (Z : State) (a0 : Array Value) (hw : ∀ d ∈ tables_1, d.before a0 Z = true) (ws : List Jvm.Cond) (a1 : Addr) (wO : Addr) (wT : Addr) (kO : ClassId) (kT : ClassId) (iC : Int32) (vF : Value) (vU : Value) (vS : Value) (h0 : Heap) (n0 : Nat) (O0 : Old Z n0 h0) (E_a1 : Exa Z h0 a1 "java/lang/String") (F_a1_coder : Fld Z h0 a1 "java/lang/String" "coder" "B" (.int 0)) (WW : World1 Z wO wT kO kT iC vF vU vS) :
    Con l Z mq10 jdk_42_method_154_code 1 (some .boolean) ws ({ frames := 0, cells := 0, slots := 0, locals := 0 } : Room) #[(.ref a1)] h0 (fun v h L => v = some (.int 1) ∧ Fr n0 L ∧ h = h0) := by
  refine own_body (plainFor_of_name pn_java_lang_String) ?_
  intro p e s m below meth c s₁ hx hby hml hZ hown hnm hlk hret X0 e0
  have N0 := Fr.nil n0
  have D := @hb _ _ hby
  refine Go.st (T' := s₁) (f' := (mkF m 0 #[rv a1] [])) (fun _ k => castTop (by first | (simp [entryFrame, mkF, argsToLocals, Value.category]; done) | rfl) k) ?_
  have ⟨S_iC, nz_iC, S_vF, r_vF, S_vU, r_vU, S_vS, r_vS, S_wO, E_wO, S_wT, E_wT, V_wO, V_wT⟩ := WW
  have lt_wO := E_wO.lt
  have lt_wT := E_wT.lt
  have lt_a1 := E_a1.lt
  obtain ⟨T1, X1, e1, st1⟩ := getS2 X0 hx hZ hown (host := "") (Or.inl (ww hw 15 rfl)) Via.refl e0 (S_iC.ext O0.2) (g := (mkF m 0 #[rv a1] [])) rfl (D d47_0)
  refine zst 3 #[rv a1] [(.int iC)] st1 ?_
  refine zfn 6 X1 hx (D d47_3) ((if0 _ _).trans (feq nz_iC).1) ?_
  refine zan 7 X1 hx (D d47_6) rfl rfl ?_
  refine zgf 10 X1 hx hZ hown (host := "") (Or.inl (ww hw 27 rfl)) Via.refl e1 F_a1_coder (D d47_7) fun T2 X2 e2 => ?_
  refine zfn 13 X2 hx (D d47_10) (by decide) ?_
  refine zic 14 1 X2 hx (D d47_13) ?_
  refine zgo 18 X2 hx (D d47_14) ?_
  refine Go.retB X2 hlk hx (t := .boolean) hret (by simp) (D d47_18) e2 ?_ (by decide) (by decide)
  exact ⟨rfl, N0, rfl⟩
theorem d12_0 : decode jdk_42_method_54_code 0 = .ok (.aload_n 0, 1) := by decide +kernel
theorem d12_1 : decode jdk_42_method_54_code 1 = .ok (.getfield 9, 3) := by decide +kernel
theorem d12_4 : decode jdk_42_method_54_code 4 = .ok (.arraylength, 1) := by decide +kernel
theorem d12_5 : decode jdk_42_method_54_code 5 = .ok (.aload_n 0, 1) := by decide +kernel
theorem d12_6 : decode jdk_42_method_54_code 6 = .ok (.invokevirtual 335, 3) := by decide +kernel
theorem pd___B : parseMethodDescriptor "()B" = some ⟨[], some .byte⟩ := by decide +kernel
theorem d12_9 : decode jdk_42_method_54_code 9 = .ok (.ishr, 1) := by decide +kernel
theorem d12_10 : decode jdk_42_method_54_code 10 = .ok (.ireturn, 1) := by decide +kernel
set_option maxRecDepth 65536 in
set_option maxHeartbeats 40000000 in
theorem slen (l : Launch) (Z : State) (a0 : Array Value) (hw : ∀ d ∈ tables_1, d.before a0 Z = true) (ws : List Jvm.Cond) (a1 : Addr) (t1 : Addr) (k1 : ClassId) (n : Int32) (es : List Value) (wO : Addr) (wT : Addr) (kO : ClassId) (kT : ClassId) (iC : Int32) (vF : Value) (vU : Value) (vS : Value) (h0 : Heap) (n0 : Nat) (O0 : Old Z n0 h0) (E_a1 : Exa Z h0 a1 "java/lang/String") (F_a1_coder : Fld Z h0 a1 "java/lang/String" "coder" "B" (.int 0)) (F_a1_value : Fld Z h0 a1 "java/lang/String" "value" "[B" (.ref t1)) (V_t1 : Arv Z h0 t1 k1 .byte n es (.int 0)) (WW : World1 Z wO wT kO kT iC vF vU vS) :
    Con l Z mq11 jdk_42_method_54_code 1 (some .int) ws ({ frames := 1, cells := 0, slots := 0, locals := 13 } : Room) #[(.ref a1)] h0 (fun v h L => v = some (.int n) ∧ Fr n0 L ∧ h = h0) := by
  refine own_body (plainFor_of_name pn_java_lang_String) ?_
  intro p e s m below meth c s₁ hx hby hml hZ hown hnm hlk hret X0 e0
  have N0 := Fr.nil n0
  have D := @hb _ _ hby
  refine Go.st (T' := s₁) (f' := (mkF m 0 #[rv a1] [])) (fun _ k => castTop (by first | (simp [entryFrame, mkF, argsToLocals, Value.category]; done) | rfl) k) ?_
  have ⟨S_iC, nz_iC, S_vF, r_vF, S_vU, r_vU, S_vS, r_vS, S_wO, E_wO, S_wT, E_wT, V_wO, V_wT⟩ := WW
  have lt_wO := E_wO.lt
  have lt_wT := E_wT.lt
  have lt_a1 := E_a1.lt
  have lt_t1 := V_t1.lt
  refine zan 1 X0 hx (D d12_0) rfl rfl ?_
  refine zgf 4 X0 hx hZ hown (host := "") (Or.inl (ww hw 29 rfl)) Via.refl e0 F_a1_value (D d12_1) fun T1 X1 e1 => ?_
  obtain ⟨cl2, Ar2, -, S2, Nx2, -, -⟩ := id V_t1
  refine Go.st (T' := T1) (f' := (mkF m 5 #[rv a1] [(.int n)])) (fun _ k => X1.arraylength hx (by rw [e1]; exact Ar2.1) (State.isArrayOf_alike hZ.alike Ar2.2.1) (g := (mkF m 4 #[rv a1] [(.ref t1)])) rfl rfl (D d12_4) _ (by rw [len_of S2 Nx2]; exact k)) ?_
  refine zan 6 X1 hx (D d12_5) rfl rfl ?_
  refine gV 9 1 0 0 X1 N0 hx hZ (y := mq9) hown hml (ww hw 73 rfl) (ww hw 74 rfl) (ww hw 76 rfl) (ww hw 75 rfl) (cod l Z a0 hw [] a1 wO wT kO kT iC vF vU vS h0 n0 O0 E_a1 F_a1_coder WW) (ww hw 77 rfl) (ww hw 3 rfl) e1 E_a1 [] [(.int n)] (lenOf pd___B rfl) (D d12_6) ?_
  rintro T3 L3 M3 _ X3 uu3 ⟨rfl, Nq3, kq3⟩
  have N3 := uu3 Nq3
  refine zsk [(.int 0), (.int n)] ?_
  refine Go.st (f' := (mkF m 10 #[rv a1] [(.int (n >>> ((0 : Int32) &&& 31)))])) (fun _ k => XS.ishr X3.here hx rfl (D d12_9) rfl k) ?_
  rw [own_ishr0 n]
  refine Go.retV X3 hlk hx (t := .int) hret rfl (Or.inl ⟨rfl, Or.inl rfl, _, rfl⟩) (D d12_10) kq3 ?_ (by decide) (by decide)
  exact ⟨rfl, N3, rfl⟩
theorem pn_jdk_internal_util_Preconditions : plainName "jdk/internal/util/Preconditions" = true := by first | (simp [plainName, overriddenIn]; done) | decide +kernel
theorem d50_0 : decode jdk_41_method_11_code 0 = .ok (.iload_n 0, 1) := by decide +kernel
theorem d50_1 : decode jdk_41_method_11_code 1 = .ok (.ifCond .lt 8, 3) := by decide +kernel
theorem d50_4 : decode jdk_41_method_11_code 4 = .ok (.iload_n 0, 1) := by decide +kernel
theorem d50_5 : decode jdk_41_method_11_code 5 = .ok (.iload_n 1, 1) := by decide +kernel
theorem d50_6 : decode jdk_41_method_11_code 6 = .ok (.if_icmp .lt 10, 3) := by decide +kernel
theorem d50_16 : decode jdk_41_method_11_code 16 = .ok (.iload_n 0, 1) := by decide +kernel
theorem d50_17 : decode jdk_41_method_11_code 17 = .ok (.ireturn, 1) := by decide +kernel
set_option maxRecDepth 65536 in
set_option maxHeartbeats 40000000 in
theorem ck_n (l : Launch) (Z : State) (a0 : Array Value) (hw : ∀ d ∈ tables_1, d.before a0 Z = true) (ws : List Jvm.Cond) (i : Int32) (n : Int32) (h0 : Heap) (n0 : Nat) (O0 : Old Z n0 h0) (hlo : ¬ i < (0 : Int32)) (hhi : i < n) :
    Con l Z mq12 jdk_41_method_11_code 3 (some .int) ws ({ frames := 0, cells := 0, slots := 0, locals := 0 } : Room) #[(.int i), (.int n), .null] h0 (fun v h L => v = some (.int i) ∧ Fr n0 L ∧ h = h0) := by
  refine own_body (plainFor_of_name pn_jdk_internal_util_Preconditions) ?_
  intro p e s m below meth c s₁ hx hby hml hZ hown hnm hlk hret X0 e0
  have N0 := Fr.nil n0
  have D := @hb _ _ hby
  refine Go.st (T' := s₁) (f' := (mkF m 0 #[iv i, iv n, .val .null] [])) (fun _ k => castTop (by first | (simp [entryFrame, mkF, argsToLocals, Value.category]; done) | rfl) k) ?_
  refine zin 1 X0 hx (D d50_0) rfl ?_
  refine zfn 4 X0 hx (D d50_1) ((if0 _ _).trans (flt hlo).1) ?_
  refine zin 5 X0 hx (D d50_4) rfl ?_
  refine zin 6 X0 hx (D d50_5) rfl ?_
  refine zcy 16 X0 hx (D d50_6) (tlt hhi).1 ?_
  refine zin 17 X0 hx (D d50_16) rfl ?_
  refine Go.retV X0 hlk hx (t := .int) hret rfl (Or.inl ⟨rfl, Or.inl rfl, _, rfl⟩) (D d50_17) e0 ?_ (by decide) (by decide)
  exact ⟨rfl, N0, rfl⟩
set_option maxRecDepth 65536 in
set_option maxHeartbeats 40000000 in
theorem ck_r (l : Launch) (Z : State) (a0 : Array Value) (hw : ∀ d ∈ tables_1, d.before a0 Z = true) (ws : List Jvm.Cond) (i : Int32) (n : Int32) (a1 : Addr) (h0 : Heap) (n0 : Nat) (O0 : Old Z n0 h0) (hlo : ¬ i < (0 : Int32)) (hhi : i < n) :
    Con l Z mq12 jdk_41_method_11_code 3 (some .int) ws ({ frames := 0, cells := 0, slots := 0, locals := 0 } : Room) #[(.int i), (.int n), (.ref a1)] h0 (fun v h L => v = some (.int i) ∧ Fr n0 L ∧ h = h0) := by
  refine own_body (plainFor_of_name pn_jdk_internal_util_Preconditions) ?_
  intro p e s m below meth c s₁ hx hby hml hZ hown hnm hlk hret X0 e0
  have N0 := Fr.nil n0
  have D := @hb _ _ hby
  refine Go.st (T' := s₁) (f' := (mkF m 0 #[iv i, iv n, rv a1] [])) (fun _ k => castTop (by first | (simp [entryFrame, mkF, argsToLocals, Value.category]; done) | rfl) k) ?_
  refine zin 1 X0 hx (D d50_0) rfl ?_
  refine zfn 4 X0 hx (D d50_1) ((if0 _ _).trans (flt hlo).1) ?_
  refine zin 5 X0 hx (D d50_4) rfl ?_
  refine zin 6 X0 hx (D d50_5) rfl ?_
  refine zcy 16 X0 hx (D d50_6) (tlt hhi).1 ?_
  refine zin 17 X0 hx (D d50_16) rfl ?_
  refine Go.retV X0 hlk hx (t := .int) hret rfl (Or.inl ⟨rfl, Or.inl rfl, _, rfl⟩) (D d50_17) e0 ?_ (by decide) (by decide)
  exact ⟨rfl, N0, rfl⟩
theorem ck_v (l : Launch) (Z : State) (a0 : Array Value) (hw : ∀ d ∈ tables_1, d.before a0 Z = true) (ws : List Jvm.Cond) (i : Int32) (n : Int32) (nv : Value) (h0 : Heap) (n0 : Nat) (O0 : Old Z n0 h0) (hnv : nv.isRef = true) (hlo : ¬ i < (0 : Int32)) (hhi : i < n) :
    Con l Z mq12 jdk_41_method_11_code 3 (some .int) ws ({ frames := 0, cells := 0, slots := 0, locals := 0 } : Room) #[(.int i), (.int n), nv] h0 (fun v h L => v = some (.int i) ∧ Fr n0 L ∧ h = h0) := by
  rcases ref_cases hnv with rfl | ⟨a, rfl⟩
  · exact ck_n l Z a0 hw ws i n h0 n0 O0 hlo hhi
  · exact ck_r l Z a0 hw ws i n a h0 n0 O0 hlo hhi
theorem d49_0 : decode jdk_42_method_155_code 0 = .ok (.iload_n 0, 1) := by decide +kernel
theorem d49_1 : decode jdk_42_method_155_code 1 = .ok (.iload_n 1, 1) := by decide +kernel
theorem d49_2 : decode jdk_42_method_155_code 2 = .ok (.getstatic 1053, 3) := by decide +kernel
theorem d49_5 : decode jdk_42_method_155_code 5 = .ok (.invokestatic 1059, 3) := by decide +kernel
theorem pd__IILjava_util_function_BiFunction__I : parseMethodDescriptor "(IILjava/util/function/BiFunction;)I" = some ⟨[.int, .int, (.object "java/util/function/BiFunction")], some .int⟩ := by decide +kernel
theorem d49_8 : decode jdk_42_method_155_code 8 = .ok (.pop, 1) := by decide +kernel
theorem d49_9 : decode jdk_42_method_155_code 9 = .ok (.return_, 1) := by decide +kernel
set_option maxRecDepth 65536 in
set_option maxHeartbeats 40000000 in
theorem ck_s (l : Launch) (Z : State) (a0 : Array Value) (hw : ∀ d ∈ tables_1, d.before a0 Z = true) (ws : List Jvm.Cond) (i : Int32) (n : Int32) (wO : Addr) (wT : Addr) (kO : ClassId) (kT : ClassId) (iC : Int32) (vF : Value) (vU : Value) (vS : Value) (h0 : Heap) (n0 : Nat) (O0 : Old Z n0 h0) (hlo : ¬ i < (0 : Int32)) (hhi : i < n) (WW : World1 Z wO wT kO kT iC vF vU vS) :
    Con l Z mq13 jdk_42_method_155_code 2 none ws ({ frames := 1, cells := 0, slots := 0, locals := 14 } : Room) #[(.int i), (.int n)] h0 (fun v h L => v = none ∧ Fr n0 L ∧ h = h0) := by
  refine own_body (plainFor_of_name pn_java_lang_String) ?_
  intro p e s m below meth c s₁ hx hby hml hZ hown hnm hlk hret X0 e0
  have N0 := Fr.nil n0
  have D := @hb _ _ hby
  refine Go.st (T' := s₁) (f' := (mkF m 0 #[iv i, iv n] [])) (fun _ k => castTop (by first | (simp [entryFrame, mkF, argsToLocals, Value.category]; done) | rfl) k) ?_
  have ⟨S_iC, nz_iC, S_vF, r_vF, S_vU, r_vU, S_vS, r_vS, S_wO, E_wO, S_wT, E_wT, V_wO, V_wT⟩ := WW
  have lt_wO := E_wO.lt
  have lt_wT := E_wT.lt
  refine zin 1 X0 hx (D d49_0) rfl ?_
  refine zin 2 X0 hx (D d49_1) rfl ?_
  obtain ⟨T1, X1, e1, st1⟩ := getS2 X0 hx hZ hown (host := "") (Or.inl (ww hw 273 rfl)) Via.refl e0 (S_vF.ext O0.2) (g := (mkF m 2 #[iv i, iv n] [(.int n), (.int i)])) rfl (D d49_2)
  refine zst 5 #[iv i, iv n] [vF, (.int n), (.int i)] st1 ?_
  refine gS 8 0 0 0 X1 N0 hx hZ (y := mq12) hown hml (ww hw 275 rfl) (ww hw 276 rfl) (ww hw 274 rfl) (ck_v l Z a0 hw [] i n vF h0 n0 O0 r_vF hlo hhi) (ww hw 277 rfl) e1 [(.int i), (.int n), vF] [] (lenOf pd__IILjava_util_function_BiFunction__I rfl) (D d49_5) ?_
  rintro T2 L2 M2 _ X2 uu2 ⟨rfl, Nq2, kq2⟩
  have N2 := uu2 Nq2
  refine zsk [(.int i)] ?_
  refine Go.st (f' := (mkF m 9 #[iv i, iv n] [])) (fun _ k => XS.pop X2.here hx rfl (D d49_8) rfl rfl k) ?_
  refine Go.ret0 X2 hlk hx hret (D d49_9) kq2 ?_ (by decide) (by decide)
  exact ⟨rfl, N2, rfl⟩
theorem d48_0 : decode jdk_43_method_2_code 0 = .ok (.iload_n 1, 1) := by decide +kernel
theorem d48_1 : decode jdk_43_method_2_code 1 = .ok (.aload_n 0, 1) := by decide +kernel
theorem d48_2 : decode jdk_43_method_2_code 2 = .ok (.arraylength, 1) := by decide +kernel
theorem d48_3 : decode jdk_43_method_2_code 3 = .ok (.invokestatic 9, 3) := by decide +kernel
theorem pd__II_V : parseMethodDescriptor "(II)V" = some ⟨[.int, .int], none⟩ := by decide +kernel
theorem d48_6 : decode jdk_43_method_2_code 6 = .ok (.aload_n 0, 1) := by decide +kernel
theorem d48_7 : decode jdk_43_method_2_code 7 = .ok (.iload_n 1, 1) := by decide +kernel
theorem d48_8 : decode jdk_43_method_2_code 8 = .ok (.baload, 1) := by decide +kernel
theorem d48_9 : decode jdk_43_method_2_code 9 = .ok (.sipush 255, 3) := by decide +kernel
theorem d48_12 : decode jdk_43_method_2_code 12 = .ok (.iand, 1) := by decide +kernel
theorem d48_13 : decode jdk_43_method_2_code 13 = .ok (.i2c, 1) := by decide +kernel
theorem d48_14 : decode jdk_43_method_2_code 14 = .ok (.ireturn, 1) := by decide +kernel
def clI (x : Int32) : Int32 := (nar .char ((x &&& (255 : Int32)).toUInt32.toUInt16.toUInt32.toInt32))
set_option maxRecDepth 65536 in
set_option maxHeartbeats 40000000 in
theorem cl1 (l : Launch) (Z : State) (a0 : Array Value) (hw : ∀ d ∈ tables_1, d.before a0 Z = true) (ws : List Jvm.Cond) (t1 : Addr) (k1 : ClassId) (n : Int32) (es : List Value) (i : Int32) (x : Int32) (wO : Addr) (wT : Addr) (kO : ClassId) (kT : ClassId) (iC : Int32) (vF : Value) (vU : Value) (vS : Value) (h0 : Heap) (n0 : Nat) (O0 : Old Z n0 h0) (hlo : ¬ i < (0 : Int32)) (hhi : i < n) (hg : es.getD i.toNatClampNeg (.int 0) = .int x) (V_t1 : Arv Z h0 t1 k1 .byte n es (.int 0)) (WW : World1 Z wO wT kO kT iC vF vU vS) :
    Con l Z mq14 jdk_43_method_2_code 2 (some .char) ws ({ frames := 2, cells := 0, slots := 0, locals := 27 } : Room) #[(.ref t1), (.int i)] h0 (fun v h L => v = some (.int (clI x)) ∧ Fr n0 L ∧ h = h0) := by
  refine own_body (plainFor_of_name pn_java_lang_StringLatin1) ?_
  intro p e s m below meth c s₁ hx hby hml hZ hown hnm hlk hret X0 e0
  have N0 := Fr.nil n0
  have D := @hb _ _ hby
  refine Go.st (T' := s₁) (f' := (mkF m 0 #[rv t1, iv i] [])) (fun _ k => castTop (by first | (simp [entryFrame, mkF, argsToLocals, Value.category]; done) | rfl) k) ?_
  have ⟨S_iC, nz_iC, S_vF, r_vF, S_vU, r_vU, S_vS, r_vS, S_wO, E_wO, S_wT, E_wT, V_wO, V_wT⟩ := WW
  have lt_wO := E_wO.lt
  have lt_wT := E_wT.lt
  have lt_t1 := V_t1.lt
  refine zin 1 X0 hx (D d48_0) rfl ?_
  refine zan 2 X0 hx (D d48_1) rfl rfl ?_
  obtain ⟨cl1, Ar1, -, S1, Nx1, -, -⟩ := id V_t1
  refine Go.st (T' := s₁) (f' := (mkF m 3 #[rv t1, iv i] [(.int n), (.int i)])) (fun _ k => X0.arraylength hx (by rw [e0]; exact Ar1.1) (State.isArrayOf_alike hZ.alike Ar1.2.1) (g := (mkF m 2 #[rv t1, iv i] [(.ref t1), (.int i)])) rfl rfl (D d48_2) _ (by rw [len_of S1 Nx1]; exact k)) ?_
  refine gS 6 0 0 0 X0 N0 hx hZ (y := mq13) hown hml (ww hw 270 rfl) (ww hw 271 rfl) (ww hw 3 rfl) (ck_s l Z a0 hw [] i n wO wT kO kT iC vF vU vS h0 n0 O0 hlo hhi WW) (ww hw 272 rfl) e0 [(.int i), (.int n)] [] (lenOf pd__II_V rfl) (D d48_3) ?_
  rintro T2 L2 M2 _ X2 uu2 ⟨rfl, Nq2, kq2⟩
  have N2 := uu2 Nq2
  refine zsk [] ?_
  refine zan 7 X2 hx (D d48_6) rfl rfl ?_
  refine zin 8 X2 hx (D d48_7) rfl ?_
  obtain ⟨cl3, Ar3, -, S3, -, H3, -⟩ := id V_t1
  have hin3 : ¬ (i < 0 ∨ cl3.slots.size ≤ (i).toNatClampNeg) := inb_of S3 ⟨hlo, hhi⟩
  have hat3 : cl3.slots[(i).toNatClampNeg]? = some (.int x) := H3.at hin3 hg
  refine Go.st (f' := (mkF m 9 #[rv t1, iv i] [(.int x)])) (fun _ k => X2.baloadBytes hx (j := i) (v := (.int x)) (by rw [kq2]; exact Ar3.1) (State.isArrayOf_alike hZ.alike Ar3.2.1) Ar3.2.2 hin3 hat3 (g := (mkF m 8 #[rv t1, iv i] [(.int i), (.ref t1)])) rfl rfl (D d48_8) _ k) ?_
  refine Go.st (f' := (mkF m 12 #[rv t1, iv i] [(.int 255), (.int x)])) (fun _ k => XS.sipush X2.here hx rfl (D d48_9) k) ?_
  refine Go.st (f' := (mkF m 13 #[rv t1, iv i] [(.int (x &&& (255 : Int32)))])) (fun _ k => XS.iand X2.here hx rfl (D d48_12) rfl k) ?_
  refine Go.st (f' := (mkF m 14 #[rv t1, iv i] [(.int ((x &&& (255 : Int32)).toUInt32.toUInt16.toUInt32.toInt32))])) (fun _ k => XS.i2c X2.here hx rfl (D d48_13) rfl k) ?_
  refine Go.retB X2 hlk hx (t := .char) hret (by simp) (D d48_14) kq2 ?_ (by decide) (by decide)
  show (some (.int (nar .char ((x &&& (255 : Int32)).toUInt32.toUInt16.toUInt32.toInt32))) : Option Value) = some (.int (clI x)) ∧ _
  exact ⟨by rw [clI], N2, rfl⟩
theorem d46_0 : decode jdk_42_method_56_code 0 = .ok (.aload_n 0, 1) := by decide +kernel
theorem d46_1 : decode jdk_42_method_56_code 1 = .ok (.invokevirtual 492, 3) := by decide +kernel
theorem pd___Z : parseMethodDescriptor "()Z" = some ⟨[], some .boolean⟩ := by decide +kernel
theorem d46_4 : decode jdk_42_method_56_code 4 = .ok (.ifCond .eq 12, 3) := by decide +kernel
theorem d46_7 : decode jdk_42_method_56_code 7 = .ok (.aload_n 0, 1) := by decide +kernel
theorem d46_8 : decode jdk_42_method_56_code 8 = .ok (.getfield 9, 3) := by decide +kernel
theorem d46_11 : decode jdk_42_method_56_code 11 = .ok (.iload_n 1, 1) := by decide +kernel
theorem d46_12 : decode jdk_42_method_56_code 12 = .ok (.invokestatic 495, 3) := by decide +kernel
theorem pd___BI_C : parseMethodDescriptor "([BI)C" = some ⟨[(.array .byte), .int], some .char⟩ := by decide +kernel
theorem d46_15 : decode jdk_42_method_56_code 15 = .ok (.ireturn, 1) := by decide +kernel
def caL (x : Int32) : Int32 := (nar .char (clI x))
set_option maxRecDepth 65536 in
set_option maxHeartbeats 40000000 in
theorem ca0 (l : Launch) (Z : State) (a0 : Array Value) (hw : ∀ d ∈ tables_1, d.before a0 Z = true) (ws : List Jvm.Cond) (a1 : Addr) (t1 : Addr) (k1 : ClassId) (n : Int32) (es : List Value) (i : Int32) (x : Int32) (wO : Addr) (wT : Addr) (kO : ClassId) (kT : ClassId) (iC : Int32) (vF : Value) (vU : Value) (vS : Value) (h0 : Heap) (n0 : Nat) (O0 : Old Z n0 h0) (hlo : ¬ i < (0 : Int32)) (hhi : i < n) (hg : es.getD i.toNatClampNeg (.int 0) = .int x) (E_a1 : Exa Z h0 a1 "java/lang/String") (F_a1_coder : Fld Z h0 a1 "java/lang/String" "coder" "B" (.int 0)) (F_a1_value : Fld Z h0 a1 "java/lang/String" "value" "[B" (.ref t1)) (V_t1 : Arv Z h0 t1 k1 .byte n es (.int 0)) (WW : World1 Z wO wT kO kT iC vF vU vS) :
    Con l Z mq15 jdk_42_method_56_code 2 (some .char) ws ({ frames := 3, cells := 0, slots := 0, locals := 40 } : Room) #[(.ref a1), (.int i)] h0 (fun v h L => v = some (.int (caL x)) ∧ Fr n0 L ∧ h = h0) := by
  refine own_body (plainFor_of_name pn_java_lang_String) ?_
  intro p e s m below meth c s₁ hx hby hml hZ hown hnm hlk hret X0 e0
  have N0 := Fr.nil n0
  have D := @hb _ _ hby
  refine Go.st (T' := s₁) (f' := (mkF m 0 #[rv a1, iv i] [])) (fun _ k => castTop (by first | (simp [entryFrame, mkF, argsToLocals, Value.category]; done) | rfl) k) ?_
  have ⟨S_iC, nz_iC, S_vF, r_vF, S_vU, r_vU, S_vS, r_vS, S_wO, E_wO, S_wT, E_wT, V_wO, V_wT⟩ := WW
  have lt_wO := E_wO.lt
  have lt_wT := E_wT.lt
  have lt_t1 := V_t1.lt
  have lt_a1 := E_a1.lt
  refine zan 1 X0 hx (D d46_0) rfl rfl ?_
  refine gV 4 0 0 0 X0 N0 hx hZ (y := mq10) hown hml (ww hw 261 rfl) (ww hw 262 rfl) (ww hw 264 rfl) (ww hw 263 rfl) (lat l Z a0 hw [] a1 wO wT kO kT iC vF vU vS h0 n0 O0 E_a1 F_a1_coder WW) (ww hw 265 rfl) (ww hw 3 rfl) e0 E_a1 [] [] (lenOf pd___Z rfl) (D d46_1) ?_
  rintro T1 L1 M1 _ X1 uu1 ⟨rfl, Nq1, kq1⟩
  have N1 := uu1 Nq1
  refine zsk [(.int 1)] ?_
  refine zfn 7 X1 hx (D d46_4) (by decide) ?_
  refine zan 8 X1 hx (D d46_7) rfl rfl ?_
  refine zgf 11 X1 hx hZ hown (host := "") (Or.inl (ww hw 29 rfl)) Via.refl kq1 F_a1_value (D d46_8) fun T2 X2 e2 => ?_
  refine zin 12 X2 hx (D d46_11) rfl ?_
  refine gS 15 0 0 0 X2 N1 hx hZ (y := mq14) hown hml (ww hw 266 rfl) (ww hw 267 rfl) (ww hw 268 rfl) (cl1 l Z a0 hw [] t1 k1 n es i x wO wT kO kT iC vF vU vS h0 n0 O0 hlo hhi hg V_t1 WW) (ww hw 269 rfl) e2 [(.ref t1), (.int i)] [] (lenOf pd___BI_C rfl) (D d46_12) ?_
  rintro T3 L3 M3 _ X3 uu3 ⟨rfl, Nq3, kq3⟩
  have N3 := uu3 Nq3
  refine zsk [(.int (clI x))] ?_
  refine Go.retB X3 hlk hx (t := .char) hret (by simp) (D d46_15) kq3 ?_ (by decide) (by decide)
  show (some (.int (nar .char (clI x))) : Option Value) = some (.int (caL x)) ∧ _
  exact ⟨by rw [caL], N3, rfl⟩
theorem own_fit {c n N : Int32} {xs fs : List Value} (a : Ln c xs) (b : Ln n fs) (h : c.toInt + n.toInt ≤ N.toInt) : c.toNatClampNeg + n.toNatClampNeg ≤ N.toNatClampNeg := by
  have := a.1; have := b.1; simp only [Int32.toNatClampNeg]; omega
theorem le_of_lt {a b : Int32} (h : a < b) : a.toInt ≤ b.toInt := by rw [Int32.lt_iff_toInt_lt] at h; omega
theorem le_of_nlt {a b : Int32} (h : ¬ a < b) : b.toInt ≤ a.toInt := by rw [Int32.lt_iff_toInt_lt] at h; omega
def Nb (q0 q1 q2 : Int32) : Prop := 0 ≤ q0.toInt ∧ q0.toInt ≤ 200 ∧ 0 ≤ q1.toInt ∧ q1.toInt ≤ 200 ∧ 0 < q2.toInt ∧ q2.toInt ≤ 210
theorem own_nl {q0 q1 q2 x : Int32} (hb : Nb q0 q1 q2) (a : q1.toInt ≤ x.toInt) (b : q2.toInt ≤ x.toInt) (c : x = q1 ∨ x = q2) : q0.toInt + q1.toInt ≤ (q0 + x).toInt ∧ q0.toInt + q2.toInt ≤ (q0 + x).toInt ∧ ((q0 + x).toInt = q0.toInt + q1.toInt ∨ (q0 + x).toInt = q0.toInt + q2.toInt) := by
  have q := c_iadd q0 x
  have r := rng32 (q0 + x)
  obtain ⟨h1, h2, h3, h4, h5, h6⟩ := hb
  rcases c with rfl | rfl <;> omega
theorem own_nl0 {q0 q1 q2 x : Int32} (hb : Nb q0 q1 q2) (a : q1.toInt ≤ x.toInt) (b : q2.toInt ≤ x.toInt) (c : x = q1 ∨ x = q2) : (0 : Int32) < (q0 + x) ∧ ¬ (2147483639 : Int32) < (q0 + x) := by
  have q := own_nl hb a b c
  obtain ⟨h1, h2, h3, h4, h5, h6⟩ := hb
  have e0 : (0 : Int32).toInt = 0 := by decide
  have e1 : (2147483639 : Int32).toInt = 2147483639 := by decide
  rw [Int32.lt_iff_toInt_lt, Int32.lt_iff_toInt_lt]
  omega
def Cb (N q : Int32) : Prop := 0 ≤ N.toInt ∧ N.toInt ≤ 200 ∧ 0 ≤ q.toInt ∧ q.toInt ≤ 100
theorem own_nc {N q : Int32} (hb : Cb N q) (hg : (0 : Int32) < (q - N)) : Nb N (q - N) (N + (2 : Int32)) ∧ (q - N).toInt = q.toInt - N.toInt ∧ (N + (2 : Int32)).toInt = N.toInt + 2 := by
  have s := c_isub q N
  have r := rng32 (q - N)
  have a := c_iadd N 2
  have r2 := rng32 (N + 2)
  have e0 : (0 : Int32).toInt = 0 := by decide
  have e2 : (2 : Int32).toInt = 2 := by decide
  obtain ⟨h1, h2, h3, h4⟩ := hb
  rw [Int32.lt_iff_toInt_lt] at hg
  refine ⟨⟨?_, ?_, ?_, ?_, ?_, ?_⟩, ?_, ?_⟩ <;> omega
theorem own_nc2 {N q r : Int32} (hb : Cb N q) (hg : (0 : Int32) < (q - N)) (a : N.toInt + (q - N).toInt ≤ r.toInt) (b : N.toInt + (N + (2 : Int32)).toInt ≤ r.toInt) (c : r.toInt = N.toInt + (q - N).toInt ∨ r.toInt = N.toInt + (N + (2 : Int32)).toInt) : (q.toInt ≤ r.toInt ∧ N.toInt < r.toInt ∧ r.toInt ≤ 200) ∧ ¬ r = (2147483647 : Int32) := by
  have h := own_nc hb hg
  have e0 : (0 : Int32).toInt = 0 := by decide
  have e1 : (2147483647 : Int32).toInt = 2147483647 := by decide
  obtain ⟨h1, h2, h3, h4⟩ := hb
  rw [Int32.lt_iff_toInt_lt] at hg
  rw [← Int32.toInt_inj]
  refine ⟨⟨?_, ?_, ?_⟩, ?_⟩ <;> omega
def Bd (c N : Int32) : Prop := 0 ≤ c.toInt ∧ c.toInt ≤ N.toInt ∧ N.toInt ≤ 200
theorem Bd.nn {c N : Int32} (h : Bd c N) : ¬ N < (0 : Int32) := by
  rw [Int32.lt_iff_toInt_lt]; have e : (0 : Int32).toInt = 0 := by decide
  obtain ⟨h1, h2, h3⟩ := h; omega
theorem Bd.lp {c N : Int32} {xs : List Value} {d : Value} (h : Bd c N) (l : Ln c xs) : Ln N (xs ++ List.replicate (N.toNatClampNeg - xs.length) d) := by
  have := l.2; obtain ⟨h1, h2, h3⟩ := h
  refine ⟨by omega, ?_⟩
  rw [List.length_append, List.length_replicate]; simp only [Int32.toNatClampNeg]; omega
theorem own_c5 {c N n : Int32} (h : Bd c N) (g : N.toInt < n.toInt ∧ n.toInt ≤ 200) : (0 : Int32).toNatClampNeg + N.toNatClampNeg ≤ n.toNatClampNeg ∧ ¬ n = N ∧ ¬ n < N ∧ ¬ n < (0 : Int32) ∧ n.toNatClampNeg ≤ 200 := by
  have e0 : (0 : Int32).toInt = 0 := by decide
  obtain ⟨h1, h2, h3⟩ := h
  rw [← Int32.toInt_inj, Int32.lt_iff_toInt_lt, Int32.lt_iff_toInt_lt]
  simp only [Int32.toNatClampNeg]
  refine ⟨?_, ?_, ?_, ?_, ?_⟩ <;> omega
theorem own_ltN {c N : Int32} (h : Bd c N) (e : ¬ c = N) : c < N := by
  rw [← Int32.toInt_inj] at e; rw [Int32.lt_iff_toInt_lt]; obtain ⟨h1, h2, h3⟩ := h; omega
theorem own_c6 {c N : Int32} {xs : List Value} (l : Ln c xs) (h : Bd c N) : (0 : Int32).toNatClampNeg + c.toNatClampNeg ≤ N.toNatClampNeg ∧ N.toNatClampNeg ≤ 200 := by
  have e0 : (0 : Int32).toInt = 0 := by decide
  obtain ⟨h1, h2, h3⟩ := h; simp only [Int32.toNatClampNeg]; omega
theorem own_ng {N q : Int32} (hb : Cb N q) (hg : ¬ (0 : Int32) < (q - N)) : q.toInt ≤ N.toInt := by
  have s := c_isub q N
  have r := rng32 (q - N)
  have e0 : (0 : Int32).toInt = 0 := by decide
  obtain ⟨h1, h2, h3, h4⟩ := hb
  rw [Int32.lt_iff_toInt_lt] at hg
  omega
theorem own_cb {c n N : Int32} {xs fs : List Value} (a : Ln c xs) (b : Ln n fs) (h : xs.length + fs.length ≤ 100) (d : Bd c N) : Cb N (c + n) ∧ (c + n).toInt = c.toInt + n.toInt := by
  have q := a.app b (by omega)
  have q2 := q.2
  rw [List.length_append] at q2
  have := a.1; have := a.2; have := b.1; have := b.2; have := q.1
  obtain ⟨h1, h2, h3⟩ := d
  refine ⟨⟨?_, ?_, ?_, ?_⟩, ?_⟩ <;> omega
theorem own_ik {t t2 sb : Addr} {h0 h : Heap} (d : t = t2 ∨ h.size ≤ t) (k : h0.size ≤ h.size) : t ∈ [sb, t2] ∨ h0.size ≤ t := d.elim (fun q => Or.inl (by rw [q]; simp)) (fun q => Or.inr (Nat.le_trans k q))
theorem own_dz {t t2 : Addr} {h0 h : Heap} (d : t = t2 ∨ h.size ≤ t) (k : h0.size ≤ h.size) : t = t2 ∨ h0.size ≤ t := d.imp id (Nat.le_trans k)
theorem own_dt {t t2 : Addr} {h : Heap} (d : t = t2 ∨ h.size ≤ t) {k : Nat} (a : k ≤ t2) (b : k ≤ h.size) : k ≤ t := d.elim (fun q => by rw [q]; exact a) (Nat.le_trans b)
theorem own_dn {t t2 z : Addr} {h : Heap} (d : t = t2 ∨ h.size ≤ t) (a : z ≠ t2) (b : z < h.size) : z ≠ t := d.elim (fun q => by rw [q]; exact a) (fun q => Nat.ne_of_lt (Nat.lt_of_lt_of_le b q))

theorem d25_0 : decode jdk_29_method_65_code 0 = .ok (.iload_n 0, 1) := by decide +kernel
theorem d25_1 : decode jdk_29_method_65_code 1 = .ok (.iload_n 1, 1) := by decide +kernel
theorem d25_2 : decode jdk_29_method_65_code 2 = .ok (.if_icmp .lt 7, 3) := by decide +kernel
theorem d25_9 : decode jdk_29_method_65_code 9 = .ok (.iload_n 1, 1) := by decide +kernel
theorem d25_10 : decode jdk_29_method_65_code 10 = .ok (.ireturn, 1) := by decide +kernel
theorem d25_5 : decode jdk_29_method_65_code 5 = .ok (.iload_n 0, 1) := by decide +kernel
theorem d25_6 : decode jdk_29_method_65_code 6 = .ok (.goto 4, 3) := by decide +kernel
set_option maxRecDepth 65536 in
set_option maxHeartbeats 40000000 in
theorem gmx (l : Launch) (Z : State) (a0 : Array Value) (hw : ∀ d ∈ tables_1, d.before a0 Z = true) (ws : List Jvm.Cond) (q1 : Int32) (q2 : Int32) (h0 : Heap) (n0 : Nat) (O0 : Old Z n0 h0)  :
    Con l Z mq16 jdk_29_method_65_code 2 (some .int) ws ({ frames := 0, cells := 0, slots := 0, locals := 0 } : Room) #[(.int q1), (.int q2)] h0 (fun v h L => ∃ r : Int32, v = some (.int r) ∧ Fr n0 L ∧ h = h0 ∧ q1.toInt ≤ r.toInt ∧ q2.toInt ≤ r.toInt ∧ (r = q1 ∨ r = q2)) := by
  refine own_body (Jvm.Free.JP.mathPlain rfl (by decide +kernel)) ?_
  intro p e s m below meth c s₁ hx hby hml hZ hown hnm hlk hret X0 e0
  have N0 := Fr.nil n0
  have D := @hb _ _ hby
  refine Go.st (T' := s₁) (f' := (mkF m 0 #[iv q1, iv q2] [])) (fun _ k => castTop (by first | (simp [entryFrame, mkF, argsToLocals, Value.category]; done) | rfl) k) ?_
  refine zin 1 X0 hx (D d25_0) rfl ?_
  refine zin 2 X0 hx (D d25_1) rfl ?_
  by_cases cd1 : q1 < q2
  · refine zcy 9 X0 hx (D d25_2) (tlt cd1).1 ?_
    refine zin 10 X0 hx (D d25_9) rfl ?_
    refine Go.retV X0 hlk hx (t := .int) hret rfl (Or.inl ⟨rfl, Or.inl rfl, _, rfl⟩) (D d25_10) e0 ?_ (by decide) (by decide)
    exact ⟨_, rfl, N0, rfl, le_of_lt cd1, Int.le_refl _, Or.inr rfl⟩
  · refine zcn 5 X0 hx (D d25_2) (flt cd1).1 ?_
    refine zin 6 X0 hx (D d25_5) rfl ?_
    refine zgo 10 X0 hx (D d25_6) ?_
    refine Go.retV X0 hlk hx (t := .int) hret rfl (Or.inl ⟨rfl, Or.inl rfl, _, rfl⟩) (D d25_10) e0 ?_ (by decide) (by decide)
    exact ⟨_, rfl, N0, rfl, Int.le_refl _, le_of_nlt cd1, Or.inl rfl⟩
theorem d27_0 : decode jdk_29_method_69_code 0 = .ok (.iload_n 0, 1) := by decide +kernel
theorem d27_1 : decode jdk_29_method_69_code 1 = .ok (.iload_n 1, 1) := by decide +kernel
theorem d27_2 : decode jdk_29_method_69_code 2 = .ok (.if_icmp .gt 7, 3) := by decide +kernel
theorem d27_5 : decode jdk_29_method_69_code 5 = .ok (.iload_n 0, 1) := by decide +kernel
theorem d27_6 : decode jdk_29_method_69_code 6 = .ok (.goto 4, 3) := by decide +kernel
theorem d27_10 : decode jdk_29_method_69_code 10 = .ok (.ireturn, 1) := by decide +kernel
set_option maxRecDepth 65536 in
set_option maxHeartbeats 40000000 in
theorem gmA (l : Launch) (Z : State) (a0 : Array Value) (hw : ∀ d ∈ tables_1, d.before a0 Z = true) (ws : List Jvm.Cond) (q1 : Int32) (q2 : Int32) (h0 : Heap) (n0 : Nat) (O0 : Old Z n0 h0) (hq : ¬ q2 < q1) :
    Con l Z mq17 jdk_29_method_69_code 2 (some .int) ws ({ frames := 0, cells := 0, slots := 0, locals := 0 } : Room) #[(.int q1), (.int q2)] h0 (fun v h L => v = some (.int q1) ∧ Fr n0 L ∧ h = h0) := by
  refine own_body (Jvm.Free.JP.mathPlain rfl (by decide +kernel)) ?_
  intro p e s m below meth c s₁ hx hby hml hZ hown hnm hlk hret X0 e0
  have N0 := Fr.nil n0
  have D := @hb _ _ hby
  refine Go.st (T' := s₁) (f' := (mkF m 0 #[iv q1, iv q2] [])) (fun _ k => castTop (by first | (simp [entryFrame, mkF, argsToLocals, Value.category]; done) | rfl) k) ?_
  refine zin 1 X0 hx (D d27_0) rfl ?_
  refine zin 2 X0 hx (D d27_1) rfl ?_
  refine zcn 5 X0 hx (D d27_2) (flt hq).2.2.1 ?_
  refine zin 6 X0 hx (D d27_5) rfl ?_
  refine zgo 10 X0 hx (D d27_6) ?_
  refine Go.retV X0 hlk hx (t := .int) hret rfl (Or.inl ⟨rfl, Or.inl rfl, _, rfl⟩) (D d27_10) e0 ?_ (by decide) (by decide)
  exact ⟨rfl, N0, rfl⟩
theorem d27_9 : decode jdk_29_method_69_code 9 = .ok (.iload_n 1, 1) := by decide +kernel
set_option maxRecDepth 65536 in
set_option maxHeartbeats 40000000 in
theorem gmB (l : Launch) (Z : State) (a0 : Array Value) (hw : ∀ d ∈ tables_1, d.before a0 Z = true) (ws : List Jvm.Cond) (q1 : Int32) (q2 : Int32) (h0 : Heap) (n0 : Nat) (O0 : Old Z n0 h0) (hq : q2 < q1) :
    Con l Z mq17 jdk_29_method_69_code 2 (some .int) ws ({ frames := 0, cells := 0, slots := 0, locals := 0 } : Room) #[(.int q1), (.int q2)] h0 (fun v h L => v = some (.int q2) ∧ Fr n0 L ∧ h = h0) := by
  refine own_body (Jvm.Free.JP.mathPlain rfl (by decide +kernel)) ?_
  intro p e s m below meth c s₁ hx hby hml hZ hown hnm hlk hret X0 e0
  have N0 := Fr.nil n0
  have D := @hb _ _ hby
  refine Go.st (T' := s₁) (f' := (mkF m 0 #[iv q1, iv q2] [])) (fun _ k => castTop (by first | (simp [entryFrame, mkF, argsToLocals, Value.category]; done) | rfl) k) ?_
  refine zin 1 X0 hx (D d27_0) rfl ?_
  refine zin 2 X0 hx (D d27_1) rfl ?_
  refine zcy 9 X0 hx (D d27_2) (tlt hq).2.2.1 ?_
  refine zin 10 X0 hx (D d27_9) rfl ?_
  refine Go.retV X0 hlk hx (t := .int) hret rfl (Or.inl ⟨rfl, Or.inl rfl, _, rfl⟩) (D d27_10) e0 ?_ (by decide) (by decide)
  exact ⟨rfl, N0, rfl⟩
theorem pn_jdk_internal_util_ArraysSupport : plainName "jdk/internal/util/ArraysSupport" = true := by first | (simp [plainName, overriddenIn]; done) | decide +kernel
theorem d24_0 : decode jdk_48_method_27_code 0 = .ok (.iload_n 0, 1) := by decide +kernel
theorem d24_1 : decode jdk_48_method_27_code 1 = .ok (.iload_n 1, 1) := by decide +kernel
theorem d24_2 : decode jdk_48_method_27_code 2 = .ok (.iload_n 2, 1) := by decide +kernel
theorem d24_3 : decode jdk_48_method_27_code 3 = .ok (.invokestatic 194, 3) := by decide +kernel
theorem pd__II_I : parseMethodDescriptor "(II)I" = some ⟨[.int, .int], some .int⟩ := by decide +kernel
theorem d24_6 : decode jdk_48_method_27_code 6 = .ok (.iadd, 1) := by decide +kernel
theorem d24_7 : decode jdk_48_method_27_code 7 = .ok (.istore_n 3, 1) := by decide +kernel
theorem d24_8 : decode jdk_48_method_27_code 8 = .ok (.iconst 0, 1) := by decide +kernel
theorem d24_9 : decode jdk_48_method_27_code 9 = .ok (.iload_n 3, 1) := by decide +kernel
theorem d24_10 : decode jdk_48_method_27_code 10 = .ok (.if_icmp .ge 11, 3) := by decide +kernel
theorem d24_13 : decode jdk_48_method_27_code 13 = .ok (.iload_n 3, 1) := by decide +kernel
theorem d24_14 : decode jdk_48_method_27_code 14 = .ok (.ldc 200, 2) := by decide +kernel
theorem d24_16 : decode jdk_48_method_27_code 16 = .ok (.if_icmp .gt 5, 3) := by decide +kernel
theorem d24_19 : decode jdk_48_method_27_code 19 = .ok (.iload_n 3, 1) := by decide +kernel
theorem d24_20 : decode jdk_48_method_27_code 20 = .ok (.ireturn, 1) := by decide +kernel
set_option maxRecDepth 65536 in
set_option maxHeartbeats 40000000 in
theorem gnl (l : Launch) (Z : State) (a0 : Array Value) (hw : ∀ d ∈ tables_1, d.before a0 Z = true) (ws : List Jvm.Cond) (q0 : Int32) (q1 : Int32) (q2 : Int32) (h0 : Heap) (n0 : Nat) (O0 : Old Z n0 h0) (hbb : Nb q0 q1 q2) :
    Con l Z mq18 jdk_48_method_27_code 4 (some .int) ws ({ frames := 1, cells := 0, slots := 0, locals := 14 } : Room) #[(.int q0), (.int q1), (.int q2)] h0 (fun v h L => ∃ r : Int32, v = some (.int r) ∧ Fr n0 L ∧ h = h0 ∧ q0.toInt + q1.toInt ≤ r.toInt ∧ q0.toInt + q2.toInt ≤ r.toInt ∧ (r.toInt = q0.toInt + q1.toInt ∨ r.toInt = q0.toInt + q2.toInt)) := by
  refine own_body (plainFor_of_name pn_jdk_internal_util_ArraysSupport) ?_
  intro p e s m below meth c s₁ hx hby hml hZ hown hnm hlk hret X0 e0
  have N0 := Fr.nil n0
  have D := @hb _ _ hby
  refine Go.st (T' := s₁) (f' := (mkF m 0 #[iv q0, iv q1, iv q2, .unset] [])) (fun _ k => castTop (by first | (simp [entryFrame, mkF, argsToLocals, Value.category]; done) | rfl) k) ?_
  refine zin 1 X0 hx (D d24_0) rfl ?_
  refine zin 2 X0 hx (D d24_1) rfl ?_
  refine zin 3 X0 hx (D d24_2) rfl ?_
  refine gS 6 1 0 0 X0 N0 hx hZ (y := mq16) hown hml (ww hw 138 rfl) (ww hw 139 rfl) (ww hw 140 rfl) (gmx l Z a0 hw [] q1 q2 h0 n0 O0) (ww hw 141 rfl) e0 [(.int q1), (.int q2)] [(.int q0)] (lenOf pd__II_I rfl) (D d24_3) ?_
  rintro T1 L1 M1 _ X1 uu1 ⟨mx1, rfl, Nq1, kq1, ma1, mb1, mc1⟩
  have N1 := uu1 Nq1
  refine zsk [(.int mx1), (.int q0)] ?_
  refine zad 7 X1 hx (D d24_6) ?_
  refine zsn 8 #[iv q0, iv q1, iv q2, .val (.int (q0 + mx1))] X1 hx (D d24_7) ?_
  refine zic 9 0 X1 hx (D d24_8) ?_
  refine zin 10 X1 hx (D d24_9) rfl ?_
  refine zcn 13 X1 hx (D d24_10) (tlt (own_nl0 hbb ma1 mb1 mc1).1).2.1 ?_
  refine zin 14 X1 hx (D d24_13) rfl ?_
  refine Go.st (f' := (mkF m 16 #[iv q0, iv q1, iv q2, .val (.int (q0 + mx1))] [(.int 2147483639), (.int (q0 + mx1))])) (fun _ k => X1.ldcInt hx hown (mvT hZ (ww hw 142 rfl)) (g := (mkF m 14 #[iv q0, iv q1, iv q2, .val (.int (q0 + mx1))] [(.int (q0 + mx1))])) rfl (D d24_14) _ k) ?_
  refine zcn 19 X1 hx (D d24_16) (flt (own_nl0 hbb ma1 mb1 mc1).2).2.2.1 ?_
  refine zin 20 X1 hx (D d24_19) rfl ?_
  refine Go.retV X1 hlk hx (t := .int) hret rfl (Or.inl ⟨rfl, Or.inl rfl, _, rfl⟩) (D d24_20) kq1 ?_ (by decide) (by decide)
  exact ⟨_, rfl, N1, rfl, own_nl hbb ma1 mb1 mc1⟩
theorem pn_java_lang_AbstractStringBuilder : plainName "java/lang/AbstractStringBuilder" = true := by first | (simp [plainName, overriddenIn]; done) | decide +kernel
theorem d23_0 : decode jdk_68_method_10_code 0 = .ok (.aload_n 0, 1) := by decide +kernel
theorem d23_1 : decode jdk_68_method_10_code 1 = .ok (.getfield 15, 3) := by decide +kernel
theorem d23_4 : decode jdk_68_method_10_code 4 = .ok (.arraylength, 1) := by decide +kernel
theorem d23_5 : decode jdk_68_method_10_code 5 = .ok (.istore_n 2, 1) := by decide +kernel
theorem d23_6 : decode jdk_68_method_10_code 6 = .ok (.iload_n 1, 1) := by decide +kernel
theorem d23_7 : decode jdk_68_method_10_code 7 = .ok (.aload_n 0, 1) := by decide +kernel
theorem d23_8 : decode jdk_68_method_10_code 8 = .ok (.getfield 22, 3) := by decide +kernel
theorem d23_11 : decode jdk_68_method_10_code 11 = .ok (.ishl, 1) := by decide +kernel
theorem d23_12 : decode jdk_68_method_10_code 12 = .ok (.istore_n 3, 1) := by decide +kernel
theorem d23_13 : decode jdk_68_method_10_code 13 = .ok (.iload_n 3, 1) := by decide +kernel
theorem d23_14 : decode jdk_68_method_10_code 14 = .ok (.iload_n 2, 1) := by decide +kernel
theorem d23_15 : decode jdk_68_method_10_code 15 = .ok (.isub, 1) := by decide +kernel
theorem d23_16 : decode jdk_68_method_10_code 16 = .ok (.istore 4, 2) := by decide +kernel
theorem d23_18 : decode jdk_68_method_10_code 18 = .ok (.iload_n 2, 1) := by decide +kernel
theorem d23_19 : decode jdk_68_method_10_code 19 = .ok (.iload 4, 2) := by decide +kernel
theorem d23_21 : decode jdk_68_method_10_code 21 = .ok (.iload_n 2, 1) := by decide +kernel
theorem d23_22 : decode jdk_68_method_10_code 22 = .ok (.iconst 2, 1) := by decide +kernel
theorem d23_23 : decode jdk_68_method_10_code 23 = .ok (.aload_n 0, 1) := by decide +kernel
theorem d23_24 : decode jdk_68_method_10_code 24 = .ok (.getfield 22, 3) := by decide +kernel
theorem d23_27 : decode jdk_68_method_10_code 27 = .ok (.ishl, 1) := by decide +kernel
theorem d23_28 : decode jdk_68_method_10_code 28 = .ok (.iadd, 1) := by decide +kernel
theorem d23_29 : decode jdk_68_method_10_code 29 = .ok (.invokestatic 114, 3) := by decide +kernel
theorem pd__III_I : parseMethodDescriptor "(III)I" = some ⟨[.int, .int, .int], some .int⟩ := by decide +kernel
theorem d23_32 : decode jdk_68_method_10_code 32 = .ok (.istore 5, 2) := by decide +kernel
theorem d23_34 : decode jdk_68_method_10_code 34 = .ok (.iload 5, 2) := by decide +kernel
theorem d23_36 : decode jdk_68_method_10_code 36 = .ok (.ldc 39, 2) := by decide +kernel
theorem d23_38 : decode jdk_68_method_10_code 38 = .ok (.if_icmp .ne 13, 3) := by decide +kernel
theorem d23_51 : decode jdk_68_method_10_code 51 = .ok (.iload 5, 2) := by decide +kernel
theorem d23_53 : decode jdk_68_method_10_code 53 = .ok (.aload_n 0, 1) := by decide +kernel
theorem d23_54 : decode jdk_68_method_10_code 54 = .ok (.getfield 22, 3) := by decide +kernel
theorem d23_57 : decode jdk_68_method_10_code 57 = .ok (.ishr, 1) := by decide +kernel
theorem d23_58 : decode jdk_68_method_10_code 58 = .ok (.ireturn, 1) := by decide +kernel
set_option maxRecDepth 65536 in
set_option maxHeartbeats 40000000 in
theorem gnc (l : Launch) (Z : State) (a0 : Array Value) (hw : ∀ d ∈ tables_1, d.before a0 Z = true) (ws : List Jvm.Cond) (sb : Addr) (q1 : Int32) (t2 : Addr) (k2 : ClassId) (Y2 : Int32) (xs : List Value) (wO : Addr) (wT : Addr) (kO : ClassId) (kT : ClassId) (iC : Int32) (vF : Value) (vU : Value) (vS : Value) (h0 : Heap) (n0 : Nat) (O0 : Old Z n0 h0) (hbb : Cb Y2 q1) (hg : (0 : Int32) < (q1 - Y2)) (E_sb : Exa Z h0 sb "java/lang/StringBuilder") (F_sb_coder : Fld Z h0 sb "java/lang/AbstractStringBuilder" "coder" "B" (.int 0)) (F_sb_value : Fld Z h0 sb "java/lang/AbstractStringBuilder" "value" "[B" (.ref t2)) (V_t2 : Arv Z h0 t2 k2 .byte Y2 xs (.int 0)) (WW : World1 Z wO wT kO kT iC vF vU vS) :
    Con l Z mq19 jdk_68_method_10_code 6 (some .int) ws ({ frames := 2, cells := 0, slots := 0, locals := 29 } : Room) #[(.ref sb), (.int q1)] h0 (fun v h L => ∃ r : Int32, v = some (.int r) ∧ Fr n0 L ∧ h = h0 ∧ q1.toInt ≤ r.toInt ∧ Y2.toInt < r.toInt ∧ r.toInt ≤ 200) := by
  refine own_body (plainFor_of_name pn_java_lang_AbstractStringBuilder) ?_
  intro p e s m below meth c s₁ hx hby hml hZ hown hnm hlk hret X0 e0
  have N0 := Fr.nil n0
  have D := @hb _ _ hby
  refine Go.st (T' := s₁) (f' := (mkF m 0 #[rv sb, iv q1, .unset, .unset, .unset, .unset] [])) (fun _ k => castTop (by first | (simp [entryFrame, mkF, argsToLocals, Value.category]; done) | rfl) k) ?_
  have ⟨S_iC, nz_iC, S_vF, r_vF, S_vU, r_vU, S_vS, r_vS, S_wO, E_wO, S_wT, E_wT, V_wO, V_wT⟩ := WW
  have lt_wO := E_wO.lt
  have lt_wT := E_wT.lt
  have lt_sb := E_sb.lt
  have lt_t2 := V_t2.lt
  refine zan 1 X0 hx (D d23_0) rfl rfl ?_
  refine zgf 4 X0 hx hZ hown (host := "") (Or.inl (ww hw 51 rfl)) Via.refl e0 F_sb_value (D d23_1) fun T1 X1 e1 => ?_
  obtain ⟨cl2, Ar2, -, S2, Nx2, -, -⟩ := id V_t2
  refine Go.st (T' := T1) (f' := (mkF m 5 #[rv sb, iv q1, .unset, .unset, .unset, .unset] [(.int Y2)])) (fun _ k => X1.arraylength hx (by rw [e1]; exact Ar2.1) (State.isArrayOf_alike hZ.alike Ar2.2.1) (g := (mkF m 4 #[rv sb, iv q1, .unset, .unset, .unset, .unset] [(.ref t2)])) rfl rfl (D d23_4) _ (by rw [len_of S2 Nx2]; exact k)) ?_
  refine zsn 6 #[rv sb, iv q1, iv Y2, .unset, .unset, .unset] X1 hx (D d23_5) ?_
  refine zin 7 X1 hx (D d23_6) rfl ?_
  refine zan 8 X1 hx (D d23_7) rfl rfl ?_
  refine zgf 11 X1 hx hZ hown (host := "") (Or.inl (ww hw 53 rfl)) Via.refl e1 F_sb_coder (D d23_8) fun T3 X3 e3 => ?_
  refine Go.st (f' := (mkF m 12 #[rv sb, iv q1, iv Y2, .unset, .unset, .unset] [(.int (q1 <<< ((0 : Int32) &&& 31)))])) (fun _ k => XS.ishl X3.here hx rfl (D d23_11) rfl k) ?_
  rw [own_ishl0 q1]
  refine zsn 13 #[rv sb, iv q1, iv Y2, iv q1, .unset, .unset] X3 hx (D d23_12) ?_
  refine zin 14 X3 hx (D d23_13) rfl ?_
  refine zin 15 X3 hx (D d23_14) rfl ?_
  refine zsb 16 X3 hx (D d23_15) ?_
  refine zsl 18 #[rv sb, iv q1, iv Y2, iv q1, .val (.int (q1 - Y2)), .unset] X3 hx (D d23_16) ?_
  refine zin 19 X3 hx (D d23_18) rfl ?_
  refine zil 21 X3 hx (D d23_19) rfl ?_
  refine zin 22 X3 hx (D d23_21) rfl ?_
  refine zic 23 2 X3 hx (D d23_22) ?_
  refine zan 24 X3 hx (D d23_23) rfl rfl ?_
  refine zgf 27 X3 hx hZ hown (host := "") (Or.inl (ww hw 53 rfl)) Via.refl e3 F_sb_coder (D d23_24) fun T4 X4 e4 => ?_
  refine Go.st (f' := (mkF m 28 #[rv sb, iv q1, iv Y2, iv q1, .val (.int (q1 - Y2)), .unset] [(.int 2), (.int Y2), (.int (q1 - Y2)), (.int Y2)])) (fun _ k => XS.ishl X4.here hx rfl (D d23_27) rfl k) ?_
  refine zad 29 X4 hx (D d23_28) ?_
  refine gS 32 0 0 0 X4 N0 hx hZ (y := mq18) hown hml (ww hw 134 rfl) (ww hw 135 rfl) (ww hw 136 rfl) (gnl l Z a0 hw [] Y2 (q1 - Y2) (Y2 + (2 : Int32)) h0 n0 O0 (own_nc hbb hg).1) (ww hw 137 rfl) e4 [(.int Y2), (.int (q1 - Y2)), (.int (Y2 + (2 : Int32)))] [] (lenOf pd__III_I rfl) (D d23_29) ?_
  rintro T5 L5 M5 _ X5 uu5 ⟨nl5, rfl, Nq5, kq5, na5, nb5, nc5⟩
  have N5 := uu5 Nq5
  refine zsk [(.int nl5)] ?_
  refine zsl 34 #[rv sb, iv q1, iv Y2, iv q1, .val (.int (q1 - Y2)), iv nl5] X5 hx (D d23_32) ?_
  refine zil 36 X5 hx (D d23_34) rfl ?_
  refine Go.st (f' := (mkF m 38 #[rv sb, iv q1, iv Y2, iv q1, .val (.int (q1 - Y2)), iv nl5] [(.int 2147483647), (.int nl5)])) (fun _ k => X5.ldcInt hx hown (mvT hZ (ww hw 143 rfl)) (g := (mkF m 36 #[rv sb, iv q1, iv Y2, iv q1, .val (.int (q1 - Y2)), iv nl5] [(.int nl5)])) rfl (D d23_36) _ k) ?_
  refine zcy 51 X5 hx (D d23_38) (feq (own_nc2 hbb hg na5 nb5 nc5).2).2 ?_
  refine zil 53 X5 hx (D d23_51) rfl ?_
  refine zan 54 X5 hx (D d23_53) rfl rfl ?_
  refine zgf 57 X5 hx hZ hown (host := "") (Or.inl (ww hw 53 rfl)) Via.refl kq5 F_sb_coder (D d23_54) fun T6 X6 e6 => ?_
  refine Go.st (f' := (mkF m 58 #[rv sb, iv q1, iv Y2, iv q1, .val (.int (q1 - Y2)), iv nl5] [(.int (nl5 >>> ((0 : Int32) &&& 31)))])) (fun _ k => XS.ishr X6.here hx rfl (D d23_57) rfl k) ?_
  rw [own_ishr0 nl5]
  refine Go.retV X6 hlk hx (t := .int) hret rfl (Or.inl ⟨rfl, Or.inl rfl, _, rfl⟩) (D d23_58) e6 ?_ (by decide) (by decide)
  exact ⟨_, rfl, N5, rfl, (own_nc2 hbb hg na5 nb5 nc5).1⟩
theorem pn_java_util_Arrays : plainName "java/util/Arrays" = true := by first | (simp [plainName, overriddenIn]; done) | decide +kernel
theorem d26_0 : decode jdk_65_method_121_code 0 = .ok (.iload_n 1, 1) := by decide +kernel
theorem d26_1 : decode jdk_65_method_121_code 1 = .ok (.aload_n 0, 1) := by decide +kernel
theorem d26_2 : decode jdk_65_method_121_code 2 = .ok (.arraylength, 1) := by decide +kernel
theorem d26_3 : decode jdk_65_method_121_code 3 = .ok (.if_icmp .ne 11, 3) := by decide +kernel
theorem d26_14 : decode jdk_65_method_121_code 14 = .ok (.iload_n 1, 1) := by decide +kernel
theorem d26_15 : decode jdk_65_method_121_code 15 = .ok (.newarray .byte, 2) := by decide +kernel
theorem d26_17 : decode jdk_65_method_121_code 17 = .ok (.astore_n 2, 1) := by decide +kernel
theorem d26_18 : decode jdk_65_method_121_code 18 = .ok (.aload_n 0, 1) := by decide +kernel
theorem d26_19 : decode jdk_65_method_121_code 19 = .ok (.iconst 0, 1) := by decide +kernel
theorem d26_20 : decode jdk_65_method_121_code 20 = .ok (.aload_n 2, 1) := by decide +kernel
theorem d26_21 : decode jdk_65_method_121_code 21 = .ok (.iconst 0, 1) := by decide +kernel
theorem d26_22 : decode jdk_65_method_121_code 22 = .ok (.aload_n 0, 1) := by decide +kernel
theorem d26_23 : decode jdk_65_method_121_code 23 = .ok (.arraylength, 1) := by decide +kernel
theorem d26_24 : decode jdk_65_method_121_code 24 = .ok (.iload_n 1, 1) := by decide +kernel
theorem d26_25 : decode jdk_65_method_121_code 25 = .ok (.invokestatic 304, 3) := by decide +kernel
theorem d26_28 : decode jdk_65_method_121_code 28 = .ok (.invokestatic 150, 3) := by decide +kernel
theorem d26_31 : decode jdk_65_method_121_code 31 = .ok (.aload_n 2, 1) := by decide +kernel
theorem d26_32 : decode jdk_65_method_121_code 32 = .ok (.areturn, 1) := by decide +kernel
set_option maxRecDepth 65536 in
set_option maxHeartbeats 40000000 in
theorem gco (l : Launch) (Z : State) (a0 : Array Value) (hw : ∀ d ∈ tables_1, d.before a0 Z = true) (ws : List Jvm.Cond) (t2 : Addr) (k2 : ClassId) (Y2 : Int32) (c2 : Int32) (xs : List Value) (n4 : Int32) (wO : Addr) (wT : Addr) (kO : ClassId) (kT : ClassId) (iC : Int32) (vF : Value) (vU : Value) (vS : Value) (h0 : Heap) (n0 : Nat) (O0 : Old Z n0 h0) (lc : Ln c2 xs) (bd : Bd c2 Y2) (hn : Y2.toInt < n4.toInt ∧ n4.toInt ≤ 200) (E_t2 : Exa Z h0 t2 "[B") (V_t2 : Arv Z h0 t2 k2 .byte Y2 xs (.int 0)) (WW : World1 Z wO wT kO kT iC vF vU vS) :
    Con l Z mq20 jdk_65_method_121_code 3 (some (.array .byte)) ws ({ frames := 1, cells := 1, slots := 200, locals := 20 } : Room) #[(.ref t2), (.int n4)] h0 (fun v h L => ∃ (b : Addr) (kb : ClassId), v = some (.ref b) ∧ Fr n0 L ∧ h0.size ≤ b ∧ Keep h0 h [] ∧ Exa Z h b "[B" ∧ Arv Z h b kb .byte n4 xs (.int 0)) := by
  refine own_body (plainFor_of_name pn_java_util_Arrays) ?_
  intro p e s m below meth c s₁ hx hby hml hZ hown hnm hlk hret X0 e0
  have N0 := Fr.nil n0
  have D := @hb _ _ hby
  have K0 : Keep h0 h0 [] := Keep.refl _ _
  refine Go.st (T' := s₁) (f' := (mkF m 0 #[rv t2, iv n4, .unset] [])) (fun _ k => castTop (by first | (simp [entryFrame, mkF, argsToLocals, Value.category]; done) | rfl) k) ?_
  have ⟨S_iC, nz_iC, S_vF, r_vF, S_vU, r_vU, S_vS, r_vS, S_wO, E_wO, S_wT, E_wT, V_wO, V_wT⟩ := WW
  have lt_wO := E_wO.lt
  have lt_wT := E_wT.lt
  have lt_t2 := V_t2.lt
  have V_p := Arv.pad V_t2 (pad_rep xs (.int (0 : Int32)) (Y2.toNatClampNeg - xs.length))
  have lp := bd.lp (d := .int (0 : Int32)) lc
  have c5 := own_c5 bd hn
  refine zin 1 X0 hx (D d26_0) rfl ?_
  refine zan 2 X0 hx (D d26_1) rfl rfl ?_
  obtain ⟨cl1, Ar1, -, S1, Nx1, -, -⟩ := id V_p
  refine Go.st (T' := s₁) (f' := (mkF m 3 #[rv t2, iv n4, .unset] [(.int Y2), (.int n4)])) (fun _ k => X0.arraylength hx (by rw [e0]; exact Ar1.1) (State.isArrayOf_alike hZ.alike Ar1.2.1) (g := (mkF m 2 #[rv t2, iv n4, .unset] [(.ref t2), (.int n4)])) rfl rfl (D d26_2) _ (by rw [len_of S1 Nx1]; exact k)) ?_
  refine zcy 14 X0 hx (D d26_3) (feq c5.2.1).2 ?_
  refine zin 15 X0 hx (D d26_14) rfl ?_
  obtain ⟨T2, h2, kc2, X2, e2, E2, A2, Ex2, st2⟩ := newPE X0 hx hZ (ww hw 20 rfl) e0 (g := (mkF m 15 #[rv t2, iv n4, .unset] [(.int n4)])) rfl (D d26_15) rfl c5.2.2.2.1 (cap := 200) c5.2.2.2.2 (by decide) (by decide) (by decide) rfl
  obtain ⟨b2, g2⟩ : ∃ z, z = h0.size := ⟨_, rfl⟩
  rw [← g2] at A2 Ex2 st2
  have ne_t2_b2 : t2 ≠ b2 := Nat.ne_of_lt (Nat.lt_of_lt_of_eq lt_t2 g2.symm)
  have ne_wO_b2 : wO ≠ b2 := Nat.ne_of_lt (Nat.lt_of_lt_of_le lt_wO (Nat.le_trans O0.2.1 (Nat.le_of_eq g2.symm)))
  have ne_wT_b2 : wT ≠ b2 := Nat.ne_of_lt (Nat.lt_of_lt_of_le lt_wT (Nat.le_trans O0.2.1 (Nat.le_of_eq g2.symm)))
  have g_b2 : n0 ≤ b2 := Nat.le_trans (O0.1 ▸ O0.2.1) (Nat.le_of_eq g2.symm)
  have O2 : Old Z n0 h2 := O0.ext E2
  have sz_b2 : h0.size ≤ b2 := Nat.le_trans K0.1 (Nat.le_of_eq g2.symm)
  have K2 : Keep h0 h2 [] := K0.ext E2
  have V_b2 : Arv Z h2 b2 kc2 .byte n4 [] (.int (0 : Int32)) := Arv.new A2 c5.2.2.2.1
  have lt_b2 := A2.lt
  refine zst 17 #[rv t2, iv n4, .unset] [(.ref b2)] st2 ?_
  refine zrn 18 #[rv t2, iv n4, rv b2] X2 hx (D d26_17) rfl ?_
  refine zan 19 X2 hx (D d26_18) rfl rfl ?_
  refine zic 20 0 X2 hx (D d26_19) ?_
  refine zan 21 X2 hx (D d26_20) rfl rfl ?_
  refine zic 22 0 X2 hx (D d26_21) ?_
  refine zan 23 X2 hx (D d26_22) rfl rfl ?_
  have ft4 := (V_p.ext E2)
  obtain ⟨cl3, Ar3, -, S3, Nx3, -, -⟩ := id ft4
  refine Go.st (T' := T2) (f' := (mkF m 24 #[rv t2, iv n4, rv b2] [(.int Y2), (.int 0), (.ref b2), (.int 0), (.ref t2)])) (fun _ k => X2.arraylength hx (by rw [e2]; exact Ar3.1) (State.isArrayOf_alike hZ.alike Ar3.2.1) (g := (mkF m 23 #[rv t2, iv n4, rv b2] [(.ref t2), (.int 0), (.ref b2), (.int 0), (.ref t2)])) rfl rfl (D d26_23) _ (by rw [len_of S3 Nx3]; exact k)) ?_
  refine zin 25 X2 hx (D d26_24) rfl ?_
  refine gS 28 4 1 200 X2 N0 hx hZ (y := mq17) hown hml (ww hw 148 rfl) (ww hw 149 rfl) (ww hw 140 rfl) (gmA l Z a0 hw [] Y2 n4 h2 n0 O2 c5.2.2.1) (ww hw 150 rfl) e2 [(.int Y2), (.int n4)] [(.int 0), (.ref b2), (.int 0), (.ref t2)] (lenOf pd__II_I rfl) (D d26_25) ?_
  rintro T5 L5 M5 _ X5 uu5 ⟨rfl, Nq5, kq5⟩
  have N5 := uu5 Nq5
  refine zsk [(.int Y2), (.int 0), (.ref b2), (.int 0), (.ref t2)] ?_
  have vp7 := Arv.pad V_b2 (pad_rep [] (.int (0 : Int32)) ((xs ++ List.replicate (Y2.toNatClampNeg - xs.length) (Value.int (0 : Int32)))).length)
  obtain ⟨T8, h8, L8, X8, e8, N8, kq8, vq8, st8⟩ := cpA X5 hx hZ hown (ww hw 151 rfl) (ww hw 104 rfl) (ww hw 102 rfl) (ww hw 103 rfl) kq5 ft4 vp7 (us := (xs ++ List.replicate (Y2.toNatClampNeg - xs.length) (Value.int (0 : Int32)))) (Or.inl ⟨rfl, rfl⟩) (by decide) ln0.nn lp.nn (by show 0 + _ ≤ _; omega) c5.1 (own_mapr lp.nat) (own_padl ln0 lp) N5 g_b2 (g := (mkF m 28 #[rv t2, iv n4, rv b2] [(.int Y2), (.int 0), (.ref b2), (.int 0), (.ref t2)])) rfl (by rw [hml]; rfl) rfl (D d26_28) (by decide) (W := 0) (by show 2 * 0 + _ ≤ _; exact Nat.le_of_eq rfl) (by decide)
  rw [own_join ln0.nat lp.nat] at vq8
  have O8 : Old Z n0 h8 := O2.keep kq8 (allS g_b2 all0)
  have K8 : Keep h0 h8 [] := K2.trans kq8 (allS (Or.inr sz_b2) all0)
  refine zst 31 #[rv t2, iv n4, rv b2] [] st8 ?_
  refine zan 32 X8 hx (D d26_31) rfl rfl ?_
  refine Go.retV X8 hlk hx (t := (.array .byte)) hret rfl (Or.inr (Or.inr (Or.inr (Or.inr ⟨rfl, rfl, rfl⟩)))) (D d26_32) e8 ?_ (by decide) (by decide)
  have ft9 := (Ex2.keep kq8)
  exact ⟨b2, kc2, rfl, N8, sz_b2, K8, ft9, vq8.pad (fun i => (pad_rep xs _ _ i).symm)⟩
theorem d14_0 : decode jdk_68_method_9_code 0 = .ok (.aload_n 0, 1) := by decide +kernel
theorem d14_1 : decode jdk_68_method_9_code 1 = .ok (.getfield 15, 3) := by decide +kernel
theorem d14_4 : decode jdk_68_method_9_code 4 = .ok (.arraylength, 1) := by decide +kernel
theorem d14_5 : decode jdk_68_method_9_code 5 = .ok (.aload_n 0, 1) := by decide +kernel
theorem d14_6 : decode jdk_68_method_9_code 6 = .ok (.getfield 22, 3) := by decide +kernel
theorem d14_9 : decode jdk_68_method_9_code 9 = .ok (.ishr, 1) := by decide +kernel
theorem d14_10 : decode jdk_68_method_9_code 10 = .ok (.istore_n 2, 1) := by decide +kernel
theorem d14_11 : decode jdk_68_method_9_code 11 = .ok (.iload_n 1, 1) := by decide +kernel
theorem d14_12 : decode jdk_68_method_9_code 12 = .ok (.iload_n 2, 1) := by decide +kernel
theorem d14_13 : decode jdk_68_method_9_code 13 = .ok (.isub, 1) := by decide +kernel
theorem d14_14 : decode jdk_68_method_9_code 14 = .ok (.ifCond .le 24, 3) := by decide +kernel
theorem d14_17 : decode jdk_68_method_9_code 17 = .ok (.aload_n 0, 1) := by decide +kernel
theorem d14_18 : decode jdk_68_method_9_code 18 = .ok (.aload_n 0, 1) := by decide +kernel
theorem d14_19 : decode jdk_68_method_9_code 19 = .ok (.getfield 15, 3) := by decide +kernel
theorem d14_22 : decode jdk_68_method_9_code 22 = .ok (.aload_n 0, 1) := by decide +kernel
theorem d14_23 : decode jdk_68_method_9_code 23 = .ok (.iload_n 1, 1) := by decide +kernel
theorem d14_24 : decode jdk_68_method_9_code 24 = .ok (.invokevirtual 104, 3) := by decide +kernel
theorem pd__I_I : parseMethodDescriptor "(I)I" = some ⟨[.int], some .int⟩ := by decide +kernel
theorem d14_27 : decode jdk_68_method_9_code 27 = .ok (.aload_n 0, 1) := by decide +kernel
theorem d14_28 : decode jdk_68_method_9_code 28 = .ok (.getfield 22, 3) := by decide +kernel
theorem d14_31 : decode jdk_68_method_9_code 31 = .ok (.ishl, 1) := by decide +kernel
theorem d14_32 : decode jdk_68_method_9_code 32 = .ok (.invokestatic 108, 3) := by decide +kernel
theorem pd___BI__B : parseMethodDescriptor "([BI)[B" = some ⟨[(.array .byte), .int], some (.array .byte)⟩ := by decide +kernel
theorem d14_35 : decode jdk_68_method_9_code 35 = .ok (.putfield 15, 3) := by decide +kernel
theorem d14_38 : decode jdk_68_method_9_code 38 = .ok (.return_, 1) := by decide +kernel
set_option maxRecDepth 65536 in
set_option maxHeartbeats 40000000 in
theorem gec (l : Launch) (Z : State) (a0 : Array Value) (hw : ∀ d ∈ tables_1, d.before a0 Z = true) (ws : List Jvm.Cond) (sb : Addr) (q1 : Int32) (t2 : Addr) (k2 : ClassId) (Y2 : Int32) (c2 : Int32) (xs : List Value) (wO : Addr) (wT : Addr) (kO : ClassId) (kT : ClassId) (iC : Int32) (vF : Value) (vU : Value) (vS : Value) (h0 : Heap) (n0 : Nat) (O0 : Old Z n0 h0) (lc : Ln c2 xs) (bd : Bd c2 Y2) (hbb : Cb Y2 q1) (g_sb : n0 ≤ sb) (g_t2 : n0 ≤ t2) (E_sb : Exa Z h0 sb "java/lang/StringBuilder") (F_sb_coder : Fld Z h0 sb "java/lang/AbstractStringBuilder" "coder" "B" (.int 0)) (F_sb_value : Fld Z h0 sb "java/lang/AbstractStringBuilder" "value" "[B" (.ref t2)) (F_sb_count : Fld Z h0 sb "java/lang/AbstractStringBuilder" "count" "I" (.int c2)) (E_t2 : Exa Z h0 t2 "[B") (V_t2 : Arv Z h0 t2 k2 .byte Y2 xs (.int 0)) (WW : World1 Z wO wT kO kT iC vF vU vS) :
    Con l Z mq21 jdk_68_method_9_code 3 none ws ({ frames := 3, cells := 1, slots := 200, locals := 48 } : Room) #[(.ref sb), (.int q1)] h0 (fun v h L => v = none ∧ Fr n0 L ∧ Keep h0 h [sb] ∧ Exa Z h sb "java/lang/StringBuilder" ∧ Fld Z h sb "java/lang/AbstractStringBuilder" "coder" "B" (.int 0) ∧ Fld Z h sb "java/lang/AbstractStringBuilder" "count" "I" (.int c2) ∧ ∃ (t : Addr) (kt : ClassId) (N : Int32), (t = t2 ∨ h0.size ≤ t) ∧ Fld Z h sb "java/lang/AbstractStringBuilder" "value" "[B" (.ref t) ∧ Exa Z h t "[B" ∧ Arv Z h t kt .byte N xs (.int 0) ∧ q1.toInt ≤ N.toInt ∧ Y2.toInt ≤ N.toInt ∧ N.toInt ≤ 200) := by
  refine own_body (plainFor_of_name pn_java_lang_AbstractStringBuilder) ?_
  intro p e s m below meth c s₁ hx hby hml hZ hown hnm hlk hret X0 e0
  have N0 := Fr.nil n0
  have D := @hb _ _ hby
  have K0 : Keep h0 h0 [sb] := Keep.refl _ _
  refine Go.st (T' := s₁) (f' := (mkF m 0 #[rv sb, iv q1, .unset] [])) (fun _ k => castTop (by first | (simp [entryFrame, mkF, argsToLocals, Value.category]; done) | rfl) k) ?_
  have ⟨S_iC, nz_iC, S_vF, r_vF, S_vU, r_vU, S_vS, r_vS, S_wO, E_wO, S_wT, E_wT, V_wO, V_wT⟩ := WW
  have lt_wO := E_wO.lt
  have lt_wT := E_wT.lt
  have lt_sb := E_sb.lt
  have ne_wO_sb : wO ≠ sb := O0.ne lt_wO g_sb
  have ne_wT_sb : wT ≠ sb := O0.ne lt_wT g_sb
  have lt_t2 := V_t2.lt
  have ne_wO_t2 : wO ≠ t2 := O0.ne lt_wO g_t2
  have ne_wT_t2 : wT ≠ t2 := O0.ne lt_wT g_t2
  have nt_sb_t2 : sb ≠ t2 := Exa.neArv E_sb V_t2 (ww hw 38 rfl)
  refine zan 1 X0 hx (D d14_0) rfl rfl ?_
  refine zgf 4 X0 hx hZ hown (host := "") (Or.inl (ww hw 51 rfl)) Via.refl e0 F_sb_value (D d14_1) fun T1 X1 e1 => ?_
  obtain ⟨cl2, Ar2, -, S2, Nx2, -, -⟩ := id V_t2
  refine Go.st (T' := T1) (f' := (mkF m 5 #[rv sb, iv q1, .unset] [(.int Y2)])) (fun _ k => X1.arraylength hx (by rw [e1]; exact Ar2.1) (State.isArrayOf_alike hZ.alike Ar2.2.1) (g := (mkF m 4 #[rv sb, iv q1, .unset] [(.ref t2)])) rfl rfl (D d14_4) _ (by rw [len_of S2 Nx2]; exact k)) ?_
  refine zan 6 X1 hx (D d14_5) rfl rfl ?_
  refine zgf 9 X1 hx hZ hown (host := "") (Or.inl (ww hw 53 rfl)) Via.refl e1 F_sb_coder (D d14_6) fun T3 X3 e3 => ?_
  refine Go.st (f' := (mkF m 10 #[rv sb, iv q1, .unset] [(.int (Y2 >>> ((0 : Int32) &&& 31)))])) (fun _ k => XS.ishr X3.here hx rfl (D d14_9) rfl k) ?_
  rw [own_ishr0 Y2]
  refine zsn 11 #[rv sb, iv q1, iv Y2] X3 hx (D d14_10) ?_
  refine zin 12 X3 hx (D d14_11) rfl ?_
  refine zin 13 X3 hx (D d14_12) rfl ?_
  refine zsb 14 X3 hx (D d14_13) ?_
  by_cases cd4 : (0 : Int32) < (q1 - Y2)
  · refine zfn 17 X3 hx (D d14_14) ((if0 _ _).trans (tlt cd4).2.2.2) ?_
    refine zan 18 X3 hx (D d14_17) rfl rfl ?_
    refine zan 19 X3 hx (D d14_18) rfl rfl ?_
    refine zgf 22 X3 hx hZ hown (host := "") (Or.inl (ww hw 51 rfl)) Via.refl e3 F_sb_value (D d14_19) fun T5 X5 e5 => ?_
    refine zan 23 X5 hx (D d14_22) rfl rfl ?_
    refine zin 24 X5 hx (D d14_23) rfl ?_
    obtain ⟨cq6, q6, q6'⟩ := E_sb.cell
    obtain ⟨_, _, ⟨T6, L6, kk6, nn6⟩, -, X6, ⟨Lc6, hQ6, lq6, yq6, zz6⟩, st6⟩ := X5.privateBack hx (y := mq19) hown (mvT hZ (ww hw 129 rfl)) (mvT hZ (ww hw 130 rfl)) (own_selp (mvT hZ (ww hw 132 rfl)) (Cond.privateMethod_at (mvP hZ (ww hw 131 rfl) (args := #[]))) (mvT hZ (ww hw 130 rfl)) (by decide)) (Cond.privateMethod_at (mvP hZ (ww hw 131 rfl) (args := #[]))) (mvT hZ (ww hw 133 rfl)) (by decide) (own_back (W := 2) (gnc l Z a0 hw [] sb q1 t2 k2 Y2 xs wO wT kO kT iC vF vU vS h0 n0 O0 hbb cd4 E_sb F_sb_coder F_sb_value V_t2 WW) hZ (ww hw 133 rfl) (ww hw 47 rfl) (by decide) (by decide)) (g := (mkF m 24 #[rv sb, iv q1, iv Y2] [(.int q1), (.ref sb), (.ref t2), (.ref sb)])) rfl (by rw [hml]; rfl) (Steps.refl _) (a := sb) (by rw [e5]; exact q6) q6' (argsL := [(.int q1)]) (rest := [(.ref t2), (.ref sb)]) (lenOf pd__I_I rfl) rfl (by show 2 * 0 + _ ≤ _; exact Nat.le_of_eq rfl) (D d14_24) (fun _ _ => ⟨rfl, e5, (by decide : 0 + 0 ≤ _), (by decide : 0 + 0 ≤ _)⟩)
    dsimp only [Pt.U, Pt.locs, Pt.cells, Pt.slots] at X6 lq6 yq6 zz6 st6 hQ6
    subst lq6 yq6 zz6
    obtain ⟨nc6, rfl, Nq6, kq6, ra6, rb6, rc6⟩ := hQ6
    have N6 := Fr.app N0 Nq6
    refine Go.tr (f' := (mkF m 27 #[rv sb, iv q1, iv Y2] [(.int nc6), (.ref t2), (.ref sb)])) st6 ?_
    refine zan 28 X6 hx (D d14_27) rfl rfl ?_
    refine zgf 31 X6 hx hZ hown (host := "") (Or.inl (ww hw 53 rfl)) Via.refl kq6 F_sb_coder (D d14_28) fun T7 X7 e7 => ?_
    refine Go.st (f' := (mkF m 32 #[rv sb, iv q1, iv Y2] [(.int (nc6 <<< ((0 : Int32) &&& 31))), (.ref t2), (.ref sb)])) (fun _ k => XS.ishl X7.here hx rfl (D d14_31) rfl k) ?_
    rw [own_ishl0 nc6]
    refine gS 35 1 1 200 X7 N6 hx hZ (y := mq20) hown hml (ww hw 144 rfl) (ww hw 145 rfl) (ww hw 146 rfl) (gco l Z a0 hw [] t2 k2 Y2 c2 xs nc6 wO wT kO kT iC vF vU vS h0 n0 O0 lc bd ⟨rb6, rc6⟩ E_t2 V_t2 WW) (ww hw 147 rfl) e7 [(.ref t2), (.int nc6)] [(.ref sb)] (lenOf pd___BI__B rfl) (D d14_32) ?_
    rintro T8 L8 M8 _ X8 uu8 ⟨b8, kb8, rfl, Nq8, zq8, kq8, eq8, vq8⟩
    have N8 := uu8 Nq8
    have ne_sb_b8 : sb ≠ b8 := Nat.ne_of_lt (Nat.lt_of_lt_of_le lt_sb zq8)
    have ne_t2_b8 : t2 ≠ b8 := Nat.ne_of_lt (Nat.lt_of_lt_of_le lt_t2 zq8)
    have ne_wO_b8 : wO ≠ b8 := Nat.ne_of_lt (Nat.lt_of_lt_of_le lt_wO (Nat.le_trans O0.2.1 zq8))
    have ne_wT_b8 : wT ≠ b8 := Nat.ne_of_lt (Nat.lt_of_lt_of_le lt_wT (Nat.le_trans O0.2.1 zq8))
    have g_b8 : n0 ≤ b8 := Nat.le_trans (O0.1 ▸ O0.2.1) zq8
    have sz_b8 : h0.size ≤ b8 := Nat.le_trans K0.1 zq8
    have O8 : Old Z n0 T8.heap := O0.keep kq8 all0
    have K8 : Keep h0 T8.heap [sb] := K0.trans kq8 all0
    have lt_b8 := vq8.lt
    refine zsk [(.ref b8), (.ref sb)] ?_
    have ft9 := (E_sb.keep kq8)
    have ft10 := (F_sb_value.keep kq8 nin0)
    obtain ⟨T11, h11, X11, e11, W11, st11⟩ := putF X8 hx hZ hown (host := "") (Or.inl (ww hw 51 rfl)) Via.refl rfl ft10 ft9 (Or.inl (ww hw 52 rfl)) (ww hw 38 rfl) (ty := (.array .byte)) (by decide) rfl rfl (g := (mkF m 35 #[rv sb, iv q1, iv Y2] [(.ref b8), (.ref sb)])) rfl rfl (D d14_35)
    have N11 := Fr.snoc X11 N8 g_sb
    have O11 : Old Z n0 h11 := O8.wr W11 g_sb
    have K11 : Keep h0 h11 [sb] := K8.wr W11 (Or.inl (List.mem_of_getElem? (i := 0) rfl))
    have Fw11 := ft10.same W11
    refine zst 38 #[rv sb, iv q1, iv Y2] [] st11 ?_
    refine Go.ret0 X11 hlk hx hret (D d14_38) e11 ?_ (by decide) (by decide)
    have ft12 := (ft9.wr W11)
    have ft13 := ((F_sb_coder.keep kq8 nin0).other W11 (Or.inr (slot_ne (Or.inl (ww hw 54 rfl)) (Or.inl (ww hw 52 rfl)) (by decide) (t := .byte) (t' := (.array .byte)) (by decide) (by decide))))
    have ft14 := ((F_sb_count.keep kq8 nin0).other W11 (Or.inr (slot_ne (Or.inl (ww hw 79 rfl)) (Or.inl (ww hw 52 rfl)) (by decide) (t := .int) (t' := (.array .byte)) (by decide) (by decide))))
    have ft15 := (eq8.wr W11)
    have ft16 := (vq8.other W11 (Ne.symm ne_sb_b8))
    exact ⟨rfl, N11, K11, ft12, ft13, ft14, b8, kb8, nc6, Or.inr sz_b8, Fw11, ft15, ft16, ra6, Int.le_of_lt (And.intro rb6 rc6).1, (And.intro rb6 rc6).2⟩
  · refine zfy 38 X3 hx (D d14_14) ((if0 _ _).trans (flt cd4).2.2.2) ?_
    refine Go.ret0 X3 hlk hx hret (D d14_38) e3 ?_ (by decide) (by decide)
    exact ⟨rfl, N0, K0, E_sb, F_sb_coder, F_sb_count, t2, k2, Y2, Or.inl rfl, F_sb_value, E_t2, V_t2, own_ng hbb cd4, Int.le_refl _, bd.2.2⟩
theorem d16_0 : decode jdk_68_method_71_code 0 = .ok (.getstatic 18, 3) := by decide +kernel
theorem d16_3 : decode jdk_68_method_71_code 3 = .ok (.ifCond .eq 18, 3) := by decide +kernel
theorem d16_6 : decode jdk_68_method_71_code 6 = .ok (.aload_n 0, 1) := by decide +kernel
theorem d16_7 : decode jdk_68_method_71_code 7 = .ok (.getfield 22, 3) := by decide +kernel
theorem d16_10 : decode jdk_68_method_71_code 10 = .ok (.aload_n 1, 1) := by decide +kernel
theorem d16_11 : decode jdk_68_method_71_code 11 = .ok (.invokevirtual 40, 3) := by decide +kernel
theorem d16_14 : decode jdk_68_method_71_code 14 = .ok (.if_icmp .eq 7, 3) := by decide +kernel
theorem d16_21 : decode jdk_68_method_71_code 21 = .ok (.return_, 1) := by decide +kernel
set_option maxRecDepth 65536 in
set_option maxHeartbeats 40000000 in
theorem gif (l : Launch) (Z : State) (a0 : Array Value) (hw : ∀ d ∈ tables_1, d.before a0 Z = true) (ws : List Jvm.Cond) (sb : Addr) (s1 : Addr) (wO : Addr) (wT : Addr) (kO : ClassId) (kT : ClassId) (iC : Int32) (vF : Value) (vU : Value) (vS : Value) (h0 : Heap) (n0 : Nat) (O0 : Old Z n0 h0) (E_sb : Exa Z h0 sb "java/lang/StringBuilder") (F_sb_coder : Fld Z h0 sb "java/lang/AbstractStringBuilder" "coder" "B" (.int 0)) (E_s1 : Exa Z h0 s1 "java/lang/String") (F_s1_coder : Fld Z h0 s1 "java/lang/String" "coder" "B" (.int 0)) (WW : World1 Z wO wT kO kT iC vF vU vS) :
    Con l Z mq22 jdk_68_method_71_code 2 none ws ({ frames := 1, cells := 0, slots := 0, locals := 13 } : Room) #[(.ref sb), (.ref s1)] h0 (fun v h L => v = none ∧ Fr n0 L ∧ h = h0) := by
  refine own_body (plainFor_of_name pn_java_lang_AbstractStringBuilder) ?_
  intro p e s m below meth c s₁ hx hby hml hZ hown hnm hlk hret X0 e0
  have N0 := Fr.nil n0
  have D := @hb _ _ hby
  refine Go.st (T' := s₁) (f' := (mkF m 0 #[rv sb, rv s1] [])) (fun _ k => castTop (by first | (simp [entryFrame, mkF, argsToLocals, Value.category]; done) | rfl) k) ?_
  have ⟨S_iC, nz_iC, S_vF, r_vF, S_vU, r_vU, S_vS, r_vS, S_wO, E_wO, S_wT, E_wT, V_wO, V_wT⟩ := WW
  have lt_wO := E_wO.lt
  have lt_wT := E_wT.lt
  have lt_sb := E_sb.lt
  have lt_s1 := E_s1.lt
  obtain ⟨T1, X1, e1, st1⟩ := getS2 X0 hx hZ hown (host := "") (Or.inl (ww hw 50 rfl)) Via.refl e0 (S_iC.ext O0.2) (g := (mkF m 0 #[rv sb, rv s1] [])) rfl (D d16_0)
  refine zst 3 #[rv sb, rv s1] [(.int iC)] st1 ?_
  refine zfn 6 X1 hx (D d16_3) ((if0 _ _).trans (feq nz_iC).1) ?_
  refine zan 7 X1 hx (D d16_6) rfl rfl ?_
  refine zgf 10 X1 hx hZ hown (host := "") (Or.inl (ww hw 53 rfl)) Via.refl e1 F_sb_coder (D d16_7) fun T2 X2 e2 => ?_
  refine zan 11 X2 hx (D d16_10) rfl rfl ?_
  refine gV 14 1 0 0 X2 N0 hx hZ (y := mq9) hown hml (ww hw 95 rfl) (ww hw 74 rfl) (ww hw 76 rfl) (ww hw 75 rfl) (cod l Z a0 hw [] s1 wO wT kO kT iC vF vU vS h0 n0 O0 E_s1 F_s1_coder WW) (ww hw 77 rfl) (ww hw 3 rfl) e2 E_s1 [] [(.int 0)] (lenOf pd___B rfl) (D d16_11) ?_
  rintro T3 L3 M3 _ X3 uu3 ⟨rfl, Nq3, kq3⟩
  have N3 := uu3 Nq3
  refine zsk [(.int 0), (.int 0)] ?_
  refine zcy 21 X3 hx (D d16_14) (by decide) ?_
  refine Go.ret0 X3 hlk hx hret (D d16_21) kq3 ?_ (by decide) (by decide)
  exact ⟨rfl, N3, rfl⟩
theorem d21_0 : decode jdk_68_method_68_code 0 = .ok (.getstatic 18, 3) := by decide +kernel
theorem d21_3 : decode jdk_68_method_68_code 3 = .ok (.ifCond .eq 14, 3) := by decide +kernel
theorem d21_6 : decode jdk_68_method_68_code 6 = .ok (.aload_n 0, 1) := by decide +kernel
theorem d21_7 : decode jdk_68_method_68_code 7 = .ok (.getfield 22, 3) := by decide +kernel
theorem d21_10 : decode jdk_68_method_68_code 10 = .ok (.ifCond .ne 7, 3) := by decide +kernel
theorem d21_13 : decode jdk_68_method_68_code 13 = .ok (.iconst 1, 1) := by decide +kernel
theorem d21_14 : decode jdk_68_method_68_code 14 = .ok (.goto 4, 3) := by decide +kernel
theorem d21_18 : decode jdk_68_method_68_code 18 = .ok (.ireturn, 1) := by decide +kernel
set_option maxRecDepth 65536 in
set_option maxHeartbeats 40000000 in
theorem gla (l : Launch) (Z : State) (a0 : Array Value) (hw : ∀ d ∈ tables_1, d.before a0 Z = true) (ws : List Jvm.Cond) (sb : Addr) (wO : Addr) (wT : Addr) (kO : ClassId) (kT : ClassId) (iC : Int32) (vF : Value) (vU : Value) (vS : Value) (h0 : Heap) (n0 : Nat) (O0 : Old Z n0 h0) (E_sb : Exa Z h0 sb "java/lang/StringBuilder") (F_sb_coder : Fld Z h0 sb "java/lang/AbstractStringBuilder" "coder" "B" (.int 0)) (WW : World1 Z wO wT kO kT iC vF vU vS) :
    Con l Z mq23 jdk_68_method_68_code 1 (some .boolean) ws ({ frames := 0, cells := 0, slots := 0, locals := 0 } : Room) #[(.ref sb)] h0 (fun v h L => v = some (.int 1) ∧ Fr n0 L ∧ h = h0) := by
  refine own_body (plainFor_of_name pn_java_lang_AbstractStringBuilder) ?_
  intro p e s m below meth c s₁ hx hby hml hZ hown hnm hlk hret X0 e0
  have N0 := Fr.nil n0
  have D := @hb _ _ hby
  refine Go.st (T' := s₁) (f' := (mkF m 0 #[rv sb] [])) (fun _ k => castTop (by first | (simp [entryFrame, mkF, argsToLocals, Value.category]; done) | rfl) k) ?_
  have ⟨S_iC, nz_iC, S_vF, r_vF, S_vU, r_vU, S_vS, r_vS, S_wO, E_wO, S_wT, E_wT, V_wO, V_wT⟩ := WW
  have lt_wO := E_wO.lt
  have lt_wT := E_wT.lt
  have lt_sb := E_sb.lt
  obtain ⟨T1, X1, e1, st1⟩ := getS2 X0 hx hZ hown (host := "") (Or.inl (ww hw 50 rfl)) Via.refl e0 (S_iC.ext O0.2) (g := (mkF m 0 #[rv sb] [])) rfl (D d21_0)
  refine zst 3 #[rv sb] [(.int iC)] st1 ?_
  refine zfn 6 X1 hx (D d21_3) ((if0 _ _).trans (feq nz_iC).1) ?_
  refine zan 7 X1 hx (D d21_6) rfl rfl ?_
  refine zgf 10 X1 hx hZ hown (host := "") (Or.inl (ww hw 53 rfl)) Via.refl e1 F_sb_coder (D d21_7) fun T2 X2 e2 => ?_
  refine zfn 13 X2 hx (D d21_10) (by decide) ?_
  refine zic 14 1 X2 hx (D d21_13) ?_
  refine zgo 18 X2 hx (D d21_14) ?_
  refine Go.retB X2 hlk hx (t := .boolean) hret (by simp) (D d21_18) e2 ?_ (by decide) (by decide)
  exact ⟨rfl, N0, rfl⟩
theorem d17_0 : decode jdk_42_method_147_code 0 = .ok (.aload_n 0, 1) := by decide +kernel
theorem d17_1 : decode jdk_42_method_147_code 1 = .ok (.invokevirtual 335, 3) := by decide +kernel
theorem d17_4 : decode jdk_42_method_147_code 4 = .ok (.iload_n 3, 1) := by decide +kernel
theorem d17_5 : decode jdk_42_method_147_code 5 = .ok (.if_icmp .ne 23, 3) := by decide +kernel
theorem d17_8 : decode jdk_42_method_147_code 8 = .ok (.aload_n 0, 1) := by decide +kernel
theorem d17_9 : decode jdk_42_method_147_code 9 = .ok (.getfield 9, 3) := by decide +kernel
theorem d17_12 : decode jdk_42_method_147_code 12 = .ok (.iconst 0, 1) := by decide +kernel
theorem d17_13 : decode jdk_42_method_147_code 13 = .ok (.aload_n 1, 1) := by decide +kernel
theorem d17_14 : decode jdk_42_method_147_code 14 = .ok (.iload_n 2, 1) := by decide +kernel
theorem d17_15 : decode jdk_42_method_147_code 15 = .ok (.iload_n 3, 1) := by decide +kernel
theorem d17_16 : decode jdk_42_method_147_code 16 = .ok (.ishl, 1) := by decide +kernel
theorem d17_17 : decode jdk_42_method_147_code 17 = .ok (.aload_n 0, 1) := by decide +kernel
theorem d17_18 : decode jdk_42_method_147_code 18 = .ok (.getfield 9, 3) := by decide +kernel
theorem d17_21 : decode jdk_42_method_147_code 21 = .ok (.arraylength, 1) := by decide +kernel
theorem d17_22 : decode jdk_42_method_147_code 22 = .ok (.invokestatic 212, 3) := by decide +kernel
theorem d17_25 : decode jdk_42_method_147_code 25 = .ok (.goto 18, 3) := by decide +kernel
theorem d17_43 : decode jdk_42_method_147_code 43 = .ok (.return_, 1) := by decide +kernel
set_option maxRecDepth 65536 in
set_option maxHeartbeats 40000000 in
theorem ggb (l : Launch) (Z : State) (a0 : Array Value) (hw : ∀ d ∈ tables_1, d.before a0 Z = true) (ws : List Jvm.Cond) (s1 : Addr) (t1 : Addr) (k1 : ClassId) (n : Int32) (fs : List Value) (t2 : Addr) (k2 : ClassId) (Y2 : Int32) (c2 : Int32) (xs : List Value) (wO : Addr) (wT : Addr) (kO : ClassId) (kT : ClassId) (iC : Int32) (vF : Value) (vU : Value) (vS : Value) (h0 : Heap) (n0 : Nat) (O0 : Old Z n0 h0) (lc : Ln c2 xs) (ln : Ln n fs) (fit : c2.toInt + n.toInt ≤ Y2.toInt) (g_t2 : n0 ≤ t2) (E_s1 : Exa Z h0 s1 "java/lang/String") (F_s1_coder : Fld Z h0 s1 "java/lang/String" "coder" "B" (.int 0)) (F_s1_value : Fld Z h0 s1 "java/lang/String" "value" "[B" (.ref t1)) (V_t1 : Arv Z h0 t1 k1 .byte n fs (.int 0)) (E_t2 : Exa Z h0 t2 "[B") (V_t2 : Arv Z h0 t2 k2 .byte Y2 xs (.int 0)) (WW : World1 Z wO wT kO kT iC vF vU vS) :
    Con l Z mq24 jdk_42_method_147_code 4 none ws ({ frames := 1, cells := 0, slots := 0, locals := 20 } : Room) #[(.ref s1), (.ref t2), (.int c2), (.int 0)] h0 (fun v h L => v = none ∧ Fr n0 L ∧ Keep h0 h [t2] ∧ Arv Z h t2 k2 .byte Y2 (xs ++ fs) (.int 0)) := by
  refine own_body (plainFor_of_name pn_java_lang_String) ?_
  intro p e s m below meth c s₁ hx hby hml hZ hown hnm hlk hret X0 e0
  have N0 := Fr.nil n0
  have D := @hb _ _ hby
  have K0 : Keep h0 h0 [t2] := Keep.refl _ _
  refine Go.st (T' := s₁) (f' := (mkF m 0 #[rv s1, rv t2, iv c2, iv 0] [])) (fun _ k => castTop (by first | (simp [entryFrame, mkF, argsToLocals, Value.category]; done) | rfl) k) ?_
  have ⟨S_iC, nz_iC, S_vF, r_vF, S_vU, r_vU, S_vS, r_vS, S_wO, E_wO, S_wT, E_wT, V_wO, V_wT⟩ := WW
  have lt_wO := E_wO.lt
  have lt_wT := E_wT.lt
  have lt_s1 := E_s1.lt
  have lt_t1 := V_t1.lt
  have lt_t2 := V_t2.lt
  have ne_wO_t2 : wO ≠ t2 := O0.ne lt_wO g_t2
  have ne_wT_t2 : wT ≠ t2 := O0.ne lt_wT g_t2
  refine zan 1 X0 hx (D d17_0) rfl rfl ?_
  refine gV 4 0 0 0 X0 N0 hx hZ (y := mq9) hown hml (ww hw 73 rfl) (ww hw 74 rfl) (ww hw 76 rfl) (ww hw 75 rfl) (cod l Z a0 hw [] s1 wO wT kO kT iC vF vU vS h0 n0 O0 E_s1 F_s1_coder WW) (ww hw 77 rfl) (ww hw 3 rfl) e0 E_s1 [] [] (lenOf pd___B rfl) (D d17_1) ?_
  rintro T1 L1 M1 _ X1 uu1 ⟨rfl, Nq1, kq1⟩
  have N1 := uu1 Nq1
  refine zsk [(.int 0)] ?_
  refine zin 5 X1 hx (D d17_4) rfl ?_
  refine zcn 8 X1 hx (D d17_5) (by decide) ?_
  refine zan 9 X1 hx (D d17_8) rfl rfl ?_
  refine zgf 12 X1 hx hZ hown (host := "") (Or.inl (ww hw 29 rfl)) Via.refl kq1 F_s1_value (D d17_9) fun T2 X2 e2 => ?_
  refine zic 13 0 X2 hx (D d17_12) ?_
  refine zan 14 X2 hx (D d17_13) rfl rfl ?_
  refine zin 15 X2 hx (D d17_14) rfl ?_
  refine zin 16 X2 hx (D d17_15) rfl ?_
  refine Go.st (f' := (mkF m 17 #[rv s1, rv t2, iv c2, iv 0] [(.int (c2 <<< ((0 : Int32) &&& 31))), (.ref t2), (.int 0), (.ref t1)])) (fun _ k => XS.ishl X2.here hx rfl (D d17_16) rfl k) ?_
  rw [own_ishl0 c2]
  refine zan 18 X2 hx (D d17_17) rfl rfl ?_
  refine zgf 21 X2 hx hZ hown (host := "") (Or.inl (ww hw 29 rfl)) Via.refl e2 F_s1_value (D d17_18) fun T3 X3 e3 => ?_
  obtain ⟨cl4, Ar4, -, S4, Nx4, -, -⟩ := id V_t1
  refine Go.st (T' := T3) (f' := (mkF m 22 #[rv s1, rv t2, iv c2, iv 0] [(.int n), (.int c2), (.ref t2), (.int 0), (.ref t1)])) (fun _ k => X3.arraylength hx (by rw [e3]; exact Ar4.1) (State.isArrayOf_alike hZ.alike Ar4.2.1) (g := (mkF m 21 #[rv s1, rv t2, iv c2, iv 0] [(.ref t1), (.int c2), (.ref t2), (.int 0), (.ref t1)])) rfl rfl (D d17_21) _ (by rw [len_of S4 Nx4]; exact k)) ?_
  have vp6 := Arv.pad V_t2 (pad_rep xs (.int (0 : Int32)) (fs).length)
  obtain ⟨T7, h7, L7, X7, e7, N7, kq7, vq7, st7⟩ := cpA X3 hx hZ hown (ww hw 101 rfl) (ww hw 104 rfl) (ww hw 102 rfl) (ww hw 103 rfl) e3 V_t1 vp6 (us := fs) (Or.inl ⟨rfl, rfl⟩) (by decide) lc.nn ln.nn (by rw [ln.nat]; exact Nat.le_of_eq (by show 0 + _ = _; omega)) (own_fit lc ln fit) (own_mapr ln.nat) (own_padl lc ln) N1 g_t2 (g := (mkF m 22 #[rv s1, rv t2, iv c2, iv 0] [(.int n), (.int c2), (.ref t2), (.int 0), (.ref t1)])) rfl (by rw [hml]; rfl) rfl (D d17_22) (by decide) (W := 0) (by show 2 * 0 + _ ≤ _; exact Nat.le_of_eq rfl) (by decide)
  rw [own_join lc.nat ln.nat] at vq7
  have O7 : Old Z n0 h7 := O0.keep kq7 (allS g_t2 all0)
  have K7 : Keep h0 h7 [t2] := K0.trans kq7 (allS (Or.inl (List.mem_of_getElem? (i := 0) rfl)) all0)
  refine zst 25 #[rv s1, rv t2, iv c2, iv 0] [] st7 ?_
  refine zgo 43 X7 hx (D d17_25) ?_
  refine Go.ret0 X7 hlk hx hret (D d17_43) e7 ?_ (by decide) (by decide)
  exact ⟨rfl, N7, K7, vq7⟩
theorem d15_0 : decode jdk_68_method_73_code 0 = .ok (.aload_n 0, 1) := by decide +kernel
theorem d15_1 : decode jdk_68_method_73_code 1 = .ok (.aload_n 2, 1) := by decide +kernel
theorem d15_2 : decode jdk_68_method_73_code 2 = .ok (.invokevirtual 397, 3) := by decide +kernel
theorem pd__Ljava_lang_String__V : parseMethodDescriptor "(Ljava/lang/String;)V" = some ⟨[(.object "java/lang/String")], none⟩ := by decide +kernel
theorem d15_5 : decode jdk_68_method_73_code 5 = .ok (.aload_n 2, 1) := by decide +kernel
theorem d15_6 : decode jdk_68_method_73_code 6 = .ok (.aload_n 0, 1) := by decide +kernel
theorem d15_7 : decode jdk_68_method_73_code 7 = .ok (.getfield 15, 3) := by decide +kernel
theorem d15_10 : decode jdk_68_method_73_code 10 = .ok (.iload_n 1, 1) := by decide +kernel
theorem d15_11 : decode jdk_68_method_73_code 11 = .ok (.aload_n 0, 1) := by decide +kernel
theorem d15_12 : decode jdk_68_method_73_code 12 = .ok (.getfield 22, 3) := by decide +kernel
theorem d15_15 : decode jdk_68_method_73_code 15 = .ok (.invokevirtual 399, 3) := by decide +kernel
theorem pd___BIB_V : parseMethodDescriptor "([BIB)V" = some ⟨[(.array .byte), .int, .byte], none⟩ := by decide +kernel
theorem d15_18 : decode jdk_68_method_73_code 18 = .ok (.return_, 1) := by decide +kernel
set_option maxRecDepth 65536 in
set_option maxHeartbeats 40000000 in
theorem gps (l : Launch) (Z : State) (a0 : Array Value) (hw : ∀ d ∈ tables_1, d.before a0 Z = true) (ws : List Jvm.Cond) (sb : Addr) (s1 : Addr) (t1 : Addr) (k1 : ClassId) (n : Int32) (fs : List Value) (t2 : Addr) (k2 : ClassId) (Y2 : Int32) (c2 : Int32) (xs : List Value) (wO : Addr) (wT : Addr) (kO : ClassId) (kT : ClassId) (iC : Int32) (vF : Value) (vU : Value) (vS : Value) (h0 : Heap) (n0 : Nat) (O0 : Old Z n0 h0) (lc : Ln c2 xs) (ln : Ln n fs) (fit : c2.toInt + n.toInt ≤ Y2.toInt) (g_t2 : n0 ≤ t2) (E_sb : Exa Z h0 sb "java/lang/StringBuilder") (F_sb_coder : Fld Z h0 sb "java/lang/AbstractStringBuilder" "coder" "B" (.int 0)) (F_sb_value : Fld Z h0 sb "java/lang/AbstractStringBuilder" "value" "[B" (.ref t2)) (E_s1 : Exa Z h0 s1 "java/lang/String") (F_s1_coder : Fld Z h0 s1 "java/lang/String" "coder" "B" (.int 0)) (F_s1_value : Fld Z h0 s1 "java/lang/String" "value" "[B" (.ref t1)) (V_t1 : Arv Z h0 t1 k1 .byte n fs (.int 0)) (E_t2 : Exa Z h0 t2 "[B") (V_t2 : Arv Z h0 t2 k2 .byte Y2 xs (.int 0)) (WW : World1 Z wO wT kO kT iC vF vU vS) :
    Con l Z mq25 jdk_68_method_73_code 3 none ws ({ frames := 2, cells := 0, slots := 0, locals := 35 } : Room) #[(.ref sb), (.int c2), (.ref s1)] h0 (fun v h L => v = none ∧ Fr n0 L ∧ Keep h0 h [t2] ∧ Arv Z h t2 k2 .byte Y2 (xs ++ fs) (.int 0)) := by
  refine own_body (plainFor_of_name pn_java_lang_AbstractStringBuilder) ?_
  intro p e s m below meth c s₁ hx hby hml hZ hown hnm hlk hret X0 e0
  have N0 := Fr.nil n0
  have D := @hb _ _ hby
  have K0 : Keep h0 h0 [t2] := Keep.refl _ _
  refine Go.st (T' := s₁) (f' := (mkF m 0 #[rv sb, iv c2, rv s1] [])) (fun _ k => castTop (by first | (simp [entryFrame, mkF, argsToLocals, Value.category]; done) | rfl) k) ?_
  have ⟨S_iC, nz_iC, S_vF, r_vF, S_vU, r_vU, S_vS, r_vS, S_wO, E_wO, S_wT, E_wT, V_wO, V_wT⟩ := WW
  have lt_wO := E_wO.lt
  have lt_wT := E_wT.lt
  have lt_sb := E_sb.lt
  have lt_s1 := E_s1.lt
  have lt_t1 := V_t1.lt
  have lt_t2 := V_t2.lt
  have ne_wO_t2 : wO ≠ t2 := O0.ne lt_wO g_t2
  have ne_wT_t2 : wT ≠ t2 := O0.ne lt_wT g_t2
  have nt_sb_t2 : sb ≠ t2 := Exa.neArv E_sb V_t2 (ww hw 38 rfl)
  have nt_s1_t2 : s1 ≠ t2 := Exa.neArv E_s1 V_t2 (ww hw 2 rfl)
  refine zan 1 X0 hx (D d15_0) rfl rfl ?_
  refine zan 2 X0 hx (D d15_1) rfl rfl ?_
  obtain ⟨cq1, q1, q1'⟩ := E_sb.cell
  obtain ⟨_, _, ⟨T1, L1, kk1, nn1⟩, -, X1, ⟨Lc1, hQ1, lq1, yq1, zz1⟩, st1⟩ := X0.privateBack hx (y := mq22) hown (mvT hZ (ww hw 90 rfl)) (mvT hZ (ww hw 91 rfl)) (own_selp (mvT hZ (ww hw 93 rfl)) (Cond.privateMethod_at (mvP hZ (ww hw 92 rfl) (args := #[]))) (mvT hZ (ww hw 91 rfl)) (by decide)) (Cond.privateMethod_at (mvP hZ (ww hw 92 rfl) (args := #[]))) (mvT hZ (ww hw 94 rfl)) (by decide) (own_back (W := 0) (gif l Z a0 hw [] sb s1 wO wT kO kT iC vF vU vS h0 n0 O0 E_sb F_sb_coder E_s1 F_s1_coder WW) hZ (ww hw 94 rfl) (ww hw 47 rfl) (by decide) (by decide)) (g := (mkF m 2 #[rv sb, iv c2, rv s1] [(.ref s1), (.ref sb)])) rfl (by rw [hml]; rfl) (Steps.refl _) (a := sb) (by rw [e0]; exact q1) q1' (argsL := [(.ref s1)]) (rest := []) (lenOf pd__Ljava_lang_String__V rfl) rfl (by show 2 * 0 + _ ≤ _; exact Nat.le_of_eq rfl) (D d15_2) (fun _ _ => ⟨rfl, e0, (by decide : 0 + 0 ≤ _), (by decide : 0 + 0 ≤ _)⟩)
  dsimp only [Pt.U, Pt.locs, Pt.cells, Pt.slots] at X1 lq1 yq1 zz1 st1 hQ1
  subst lq1 yq1 zz1
  obtain ⟨rfl, Nq1, kq1⟩ := hQ1
  have N1 := Fr.app N0 Nq1
  refine Go.tr (f' := (mkF m 5 #[rv sb, iv c2, rv s1] [])) st1 ?_
  refine zan 6 X1 hx (D d15_5) rfl rfl ?_
  refine zan 7 X1 hx (D d15_6) rfl rfl ?_
  refine zgf 10 X1 hx hZ hown (host := "") (Or.inl (ww hw 51 rfl)) Via.refl kq1 F_sb_value (D d15_7) fun T2 X2 e2 => ?_
  refine zin 11 X2 hx (D d15_10) rfl ?_
  refine zan 12 X2 hx (D d15_11) rfl rfl ?_
  refine zgf 15 X2 hx hZ hown (host := "") (Or.inl (ww hw 53 rfl)) Via.refl e2 F_sb_coder (D d15_12) fun T3 X3 e3 => ?_
  refine gV 18 0 0 0 X3 N1 hx hZ (y := mq24) hown hml (ww hw 96 rfl) (ww hw 97 rfl) (ww hw 99 rfl) (ww hw 98 rfl) (ggb l Z a0 hw [] s1 t1 k1 n fs t2 k2 Y2 c2 xs wO wT kO kT iC vF vU vS h0 n0 O0 lc ln fit g_t2 E_s1 F_s1_coder F_s1_value V_t1 E_t2 V_t2 WW) (ww hw 100 rfl) (ww hw 3 rfl) e3 E_s1 [(.ref t2), (.int c2), (.int 0)] [] (lenOf pd___BIB_V rfl) (D d15_15) ?_
  rintro T4 L4 M4 _ X4 uu4 ⟨rfl, Nq4, kq4, vq4⟩
  have N4 := uu4 Nq4
  have O4 : Old Z n0 T4.heap := O0.keep kq4 (allS g_t2 all0)
  have K4 : Keep h0 T4.heap [t2] := K0.trans kq4 (allS (Or.inl (List.mem_of_getElem? (i := 0) rfl)) all0)
  refine zsk [] ?_
  refine Go.ret0 X4 hlk hx hret (D d15_18) rfl ?_ (by decide) (by decide)
  exact ⟨rfl, N4, K4, vq4⟩
theorem own_ft {c n N : Int32} {xs fs : List Value} (a : Ln c xs) (b : Ln n fs) (h : xs.length + fs.length ≤ 100) (d : Bd c N) {M : Int32} (r : (c + n).toInt ≤ M.toInt) : c.toInt + n.toInt ≤ M.toInt := by
  have := (own_cb a b h d).2; omega
theorem own_bn {c n N : Int32} {xs fs : List Value} (a : Ln c xs) (b : Ln n fs) (h : xs.length + fs.length ≤ 100) {M : Int32} (r : (c + n).toInt ≤ M.toInt) (t : M.toInt ≤ 200) : Bd (c + n) M := ⟨(a.app b (by omega)).1, r, t⟩
theorem own_la {c n : Int32} {xs fs : List Value} (a : Ln c xs) (b : Ln n fs) (h : xs.length + fs.length ≤ 100) : Ln (c + n) (xs ++ fs) := a.app b (by omega)
theorem d11_0 : decode jdk_68_method_22_code 0 = .ok (.aload_n 1, 1) := by decide +kernel
theorem d11_1 : decode jdk_68_method_22_code 1 = .ok (.ifnonnull 8, 3) := by decide +kernel
theorem d11_9 : decode jdk_68_method_22_code 9 = .ok (.aload_n 1, 1) := by decide +kernel
theorem d11_10 : decode jdk_68_method_22_code 10 = .ok (.invokevirtual 32, 3) := by decide +kernel
theorem pd___I : parseMethodDescriptor "()I" = some ⟨[], some .int⟩ := by decide +kernel
theorem d11_13 : decode jdk_68_method_22_code 13 = .ok (.istore_n 2, 1) := by decide +kernel
theorem d11_14 : decode jdk_68_method_22_code 14 = .ok (.aload_n 0, 1) := by decide +kernel
theorem d11_15 : decode jdk_68_method_22_code 15 = .ok (.aload_n 0, 1) := by decide +kernel
theorem d11_16 : decode jdk_68_method_22_code 16 = .ok (.getfield 79, 3) := by decide +kernel
theorem d11_19 : decode jdk_68_method_22_code 19 = .ok (.iload_n 2, 1) := by decide +kernel
theorem d11_20 : decode jdk_68_method_22_code 20 = .ok (.iadd, 1) := by decide +kernel
theorem d11_21 : decode jdk_68_method_22_code 21 = .ok (.invokevirtual 100, 3) := by decide +kernel
theorem pd__I_V : parseMethodDescriptor "(I)V" = some ⟨[.int], none⟩ := by decide +kernel
theorem d11_24 : decode jdk_68_method_22_code 24 = .ok (.aload_n 0, 1) := by decide +kernel
theorem d11_25 : decode jdk_68_method_22_code 25 = .ok (.aload_n 0, 1) := by decide +kernel
theorem d11_26 : decode jdk_68_method_22_code 26 = .ok (.getfield 79, 3) := by decide +kernel
theorem d11_29 : decode jdk_68_method_22_code 29 = .ok (.aload_n 1, 1) := by decide +kernel
theorem d11_30 : decode jdk_68_method_22_code 30 = .ok (.invokevirtual 208, 3) := by decide +kernel
theorem pd__ILjava_lang_String__V : parseMethodDescriptor "(ILjava/lang/String;)V" = some ⟨[.int, (.object "java/lang/String")], none⟩ := by decide +kernel
theorem d11_33 : decode jdk_68_method_22_code 33 = .ok (.aload_n 0, 1) := by decide +kernel
theorem d11_34 : decode jdk_68_method_22_code 34 = .ok (.dup, 1) := by decide +kernel
theorem d11_35 : decode jdk_68_method_22_code 35 = .ok (.getfield 79, 3) := by decide +kernel
theorem d11_38 : decode jdk_68_method_22_code 38 = .ok (.iload_n 2, 1) := by decide +kernel
theorem d11_39 : decode jdk_68_method_22_code 39 = .ok (.iadd, 1) := by decide +kernel
theorem d11_40 : decode jdk_68_method_22_code 40 = .ok (.putfield 79, 3) := by decide +kernel
theorem d11_43 : decode jdk_68_method_22_code 43 = .ok (.aload_n 0, 1) := by decide +kernel
theorem d11_44 : decode jdk_68_method_22_code 44 = .ok (.areturn, 1) := by decide +kernel
set_option maxRecDepth 65536 in
set_option maxHeartbeats 40000000 in
theorem gas (l : Launch) (Z : State) (a0 : Array Value) (hw : ∀ d ∈ tables_1, d.before a0 Z = true) (ws : List Jvm.Cond) (sb : Addr) (s1 : Addr) (t1 : Addr) (k1 : ClassId) (n : Int32) (fs : List Value) (t2 : Addr) (k2 : ClassId) (Y2 : Int32) (c2 : Int32) (xs : List Value) (wO : Addr) (wT : Addr) (kO : ClassId) (kT : ClassId) (iC : Int32) (vF : Value) (vU : Value) (vS : Value) (h0 : Heap) (n0 : Nat) (O0 : Old Z n0 h0) (lc : Ln c2 xs) (bd : Bd c2 Y2) (ln : Ln n fs) (cap : xs.length + fs.length ≤ 100) (g_sb : n0 ≤ sb) (g_t2 : n0 ≤ t2) (E_sb : Exa Z h0 sb "java/lang/StringBuilder") (F_sb_coder : Fld Z h0 sb "java/lang/AbstractStringBuilder" "coder" "B" (.int 0)) (F_sb_value : Fld Z h0 sb "java/lang/AbstractStringBuilder" "value" "[B" (.ref t2)) (F_sb_count : Fld Z h0 sb "java/lang/AbstractStringBuilder" "count" "I" (.int c2)) (E_s1 : Exa Z h0 s1 "java/lang/String") (F_s1_coder : Fld Z h0 s1 "java/lang/String" "coder" "B" (.int 0)) (F_s1_value : Fld Z h0 s1 "java/lang/String" "value" "[B" (.ref t1)) (V_t1 : Arv Z h0 t1 k1 .byte n fs (.int 0)) (E_t2 : Exa Z h0 t2 "[B") (V_t2 : Arv Z h0 t2 k2 .byte Y2 xs (.int 0)) (WW : World1 Z wO wT kO kT iC vF vU vS) :
    Con l Z mq26 jdk_68_method_22_code 3 (some (.object "java/lang/AbstractStringBuilder")) ws ({ frames := 4, cells := 1, slots := 200, locals := 62 } : Room) #[(.ref sb), (.ref s1)] h0 (fun v h L => v = some (.ref sb) ∧ Fr n0 L ∧ Keep h0 h [sb, t2] ∧ Exa Z h sb "java/lang/StringBuilder" ∧ Fld Z h sb "java/lang/AbstractStringBuilder" "coder" "B" (.int 0) ∧ Fld Z h sb "java/lang/AbstractStringBuilder" "count" "I" (.int (c2 + n)) ∧ ∃ (t : Addr) (kt : ClassId) (N : Int32), (t = t2 ∨ h0.size ≤ t) ∧ Fld Z h sb "java/lang/AbstractStringBuilder" "value" "[B" (.ref t) ∧ Exa Z h t "[B" ∧ Arv Z h t kt .byte N (xs ++ fs) (.int 0) ∧ Bd (c2 + n) N) := by
  refine own_body (plainFor_of_name pn_java_lang_AbstractStringBuilder) ?_
  intro p e s m below meth c s₁ hx hby hml hZ hown hnm hlk hret X0 e0
  have N0 := Fr.nil n0
  have D := @hb _ _ hby
  have K0 : Keep h0 h0 [sb, t2] := Keep.refl _ _
  refine Go.st (T' := s₁) (f' := (mkF m 0 #[rv sb, rv s1, .unset] [])) (fun _ k => castTop (by first | (simp [entryFrame, mkF, argsToLocals, Value.category]; done) | rfl) k) ?_
  have ⟨S_iC, nz_iC, S_vF, r_vF, S_vU, r_vU, S_vS, r_vS, S_wO, E_wO, S_wT, E_wT, V_wO, V_wT⟩ := WW
  have lt_wO := E_wO.lt
  have lt_wT := E_wT.lt
  have lt_sb := E_sb.lt
  have ne_wO_sb : wO ≠ sb := O0.ne lt_wO g_sb
  have ne_wT_sb : wT ≠ sb := O0.ne lt_wT g_sb
  have lt_s1 := E_s1.lt
  have lt_t1 := V_t1.lt
  have lt_t2 := V_t2.lt
  have ne_wO_t2 : wO ≠ t2 := O0.ne lt_wO g_t2
  have ne_wT_t2 : wT ≠ t2 := O0.ne lt_wT g_t2
  have nt_sb_t2 : sb ≠ t2 := Exa.neArv E_sb V_t2 (ww hw 38 rfl)
  have nt_s1_t2 : s1 ≠ t2 := Exa.neArv E_s1 V_t2 (ww hw 2 rfl)
  have nt_sb_t1 : sb ≠ t1 := Exa.neArv E_sb V_t1 (ww hw 38 rfl)
  have nt_s1_t1 : s1 ≠ t1 := Exa.neArv E_s1 V_t1 (ww hw 2 rfl)
  have ne_sb_s1 := Exa.ne E_sb E_s1 (by decide)
  refine zan 1 X0 hx (D d11_0) rfl rfl ?_
  refine Go.st (f' := (mkF m 9 #[rv sb, rv s1, .unset] [])) (fun _ k => XS.ifnonnullYes X0.here hx rfl (pc0 := 1) (pc' := 9) rfl (D d11_1) rfl (by decide) (by decide) k) ?_
  refine zan 10 X0 hx (D d11_9) rfl rfl ?_
  refine gV 13 0 0 0 X0 N0 hx hZ (y := mq11) hown hml (ww hw 68 rfl) (ww hw 69 rfl) (ww hw 71 rfl) (ww hw 70 rfl) (slen l Z a0 hw [] s1 t1 k1 n fs wO wT kO kT iC vF vU vS h0 n0 O0 E_s1 F_s1_coder F_s1_value V_t1 WW) (ww hw 72 rfl) (ww hw 3 rfl) e0 E_s1 [] [] (lenOf pd___I rfl) (D d11_10) ?_
  rintro T1 L1 M1 _ X1 uu1 ⟨rfl, Nq1, kq1⟩
  have N1 := uu1 Nq1
  refine zsk [(.int n)] ?_
  refine zsn 14 #[rv sb, rv s1, iv n] X1 hx (D d11_13) ?_
  refine zan 15 X1 hx (D d11_14) rfl rfl ?_
  refine zan 16 X1 hx (D d11_15) rfl rfl ?_
  refine zgf 19 X1 hx hZ hown (host := "") (Or.inl (ww hw 78 rfl)) Via.refl kq1 F_sb_count (D d11_16) fun T2 X2 e2 => ?_
  refine zin 20 X2 hx (D d11_19) rfl ?_
  refine zad 21 X2 hx (D d11_20) ?_
  obtain ⟨cq3, q3, q3'⟩ := E_sb.cell
  obtain ⟨_, _, ⟨T3, L3, kk3, nn3⟩, -, X3, ⟨Lc3, hQ3, lq3, yq3, zz3⟩, st3⟩ := X2.privateBack hx (y := mq21) hown (mvT hZ (ww hw 80 rfl)) (mvT hZ (ww hw 81 rfl)) (own_selp (mvT hZ (ww hw 83 rfl)) (Cond.privateMethod_at (mvP hZ (ww hw 82 rfl) (args := #[]))) (mvT hZ (ww hw 81 rfl)) (by decide)) (Cond.privateMethod_at (mvP hZ (ww hw 82 rfl) (args := #[]))) (mvT hZ (ww hw 84 rfl)) (by decide) (own_back (W := 0) (gec l Z a0 hw [] sb (c2 + n) t2 k2 Y2 c2 xs wO wT kO kT iC vF vU vS h0 n0 O0 lc bd (own_cb lc ln cap bd).1 g_sb g_t2 E_sb F_sb_coder F_sb_value F_sb_count E_t2 V_t2 WW) hZ (ww hw 84 rfl) (ww hw 47 rfl) (by decide) (by decide)) (g := (mkF m 21 #[rv sb, rv s1, iv n] [(.int (c2 + n)), (.ref sb)])) rfl (by rw [hml]; rfl) (Steps.refl _) (a := sb) (by rw [e2]; exact q3) q3' (argsL := [(.int (c2 + n))]) (rest := []) (lenOf pd__I_V rfl) rfl (by show 2 * 0 + _ ≤ _; exact Nat.le_of_eq rfl) (D d11_21) (fun _ _ => ⟨rfl, e2, (by decide : 0 + 1 ≤ _), (by decide : 0 + 200 ≤ _)⟩)
  dsimp only [Pt.U, Pt.locs, Pt.cells, Pt.slots] at X3 lq3 yq3 zz3 st3 hQ3
  subst lq3 yq3 zz3
  obtain ⟨rfl, Nq3, kq3, eq3, cq3, nq3, tt3, kt3, NN3, dz3, fq3, xq3, vq3, ra3, rb3, rc3⟩ := hQ3
  have N3 := Fr.app N1 Nq3
  have ne_sb_tt3 : sb ≠ tt3 := own_dn dz3 nt_sb_t2 lt_sb
  have ne_s1_tt3 : s1 ≠ tt3 := own_dn dz3 nt_s1_t2 lt_s1
  have ne_wO_tt3 : wO ≠ tt3 := own_dn dz3 ne_wO_t2 (Nat.lt_of_lt_of_le lt_wO O0.2.1)
  have ne_wT_tt3 : wT ≠ tt3 := own_dn dz3 ne_wT_t2 (Nat.lt_of_lt_of_le lt_wT O0.2.1)
  have g_tt3 : n0 ≤ tt3 := own_dt dz3 g_t2 (O0.1 ▸ O0.2.1)
  have ik_tt3 : tt3 ∈ [sb, t2] ∨ h0.size ≤ tt3 := own_ik dz3 K0.1
  have dy_tt3 := own_dz dz3 K0.1
  have O3 : Old Z n0 T3.heap := O0.keep kq3 (allS g_sb all0)
  have K3 : Keep h0 T3.heap [sb, t2] := K0.trans kq3 (allS (Or.inl (List.mem_of_getElem? (i := 0) rfl)) all0)
  have lt_tt3 := vq3.lt
  refine Go.tr (f' := (mkF m 24 #[rv sb, rv s1, iv n] [])) st3 ?_
  refine zan 25 X3 hx (D d11_24) rfl rfl ?_
  refine zan 26 X3 hx (D d11_25) rfl rfl ?_
  refine zgf 29 X3 hx hZ hown (host := "") (Or.inl (ww hw 78 rfl)) Via.refl rfl nq3 (D d11_26) fun T4 X4 e4 => ?_
  refine zan 30 X4 hx (D d11_29) rfl rfl ?_
  have ft6 := (E_s1.keep kq3)
  have ft7 := (F_s1_coder.keep kq3 (ninS (Ne.symm ne_sb_s1) nin0))
  have ft8 := (F_s1_value.keep kq3 (ninS (Ne.symm ne_sb_s1) nin0))
  have ft9 := (V_t1.keep kq3 (ninS (Ne.symm nt_sb_t1) nin0))
  obtain ⟨cq5, q5, q5'⟩ := eq3.cell
  obtain ⟨_, _, ⟨T5, L5, kk5, nn5⟩, -, X5, ⟨Lc5, hQ5, lq5, yq5, zz5⟩, st5⟩ := X4.privateBack hx (y := mq25) hown (mvT hZ (ww hw 85 rfl)) (mvT hZ (ww hw 86 rfl)) (own_selp (mvT hZ (ww hw 88 rfl)) (Cond.privateMethod_at (mvP hZ (ww hw 87 rfl) (args := #[]))) (mvT hZ (ww hw 86 rfl)) (by decide)) (Cond.privateMethod_at (mvP hZ (ww hw 87 rfl) (args := #[]))) (mvT hZ (ww hw 89 rfl)) (by decide) (own_back (W := 0) (gps l Z a0 hw [] sb s1 t1 k1 n fs tt3 kt3 NN3 c2 xs wO wT kO kT iC vF vU vS T3.heap n0 O3 lc ln (own_ft lc ln cap bd ra3) g_tt3 eq3 cq3 fq3 ft6 ft7 ft8 ft9 xq3 vq3 WW) hZ (ww hw 89 rfl) (ww hw 47 rfl) (by decide) (by decide)) (g := (mkF m 30 #[rv sb, rv s1, iv n] [(.ref s1), (.int c2), (.ref sb)])) rfl (by rw [hml]; rfl) (Steps.refl _) (a := sb) (by rw [e4]; exact q5) q5' (argsL := [(.int c2), (.ref s1)]) (rest := []) (lenOf pd__ILjava_lang_String__V rfl) rfl (by show 2 * 0 + _ ≤ _; exact Nat.le_of_eq rfl) (D d11_30) (fun _ _ => ⟨rfl, e4, (by decide : 1 + 0 ≤ _), (by decide : 200 + 0 ≤ _)⟩)
  dsimp only [Pt.U, Pt.locs, Pt.cells, Pt.slots] at X5 lq5 yq5 zz5 st5 hQ5
  subst lq5 yq5 zz5
  obtain ⟨rfl, Nq5, kq5, vq5⟩ := hQ5
  have N5 := Fr.app N3 Nq5
  have O5 : Old Z n0 T5.heap := O3.keep kq5 (allS g_tt3 all0)
  have K5 : Keep h0 T5.heap [sb, t2] := K3.trans kq5 (allS ik_tt3 all0)
  refine Go.tr (f' := (mkF m 33 #[rv sb, rv s1, iv n] [])) st5 ?_
  refine zan 34 X5 hx (D d11_33) rfl rfl ?_
  refine Go.st (f' := (mkF m 35 #[rv sb, rv s1, iv n] [(.ref sb), (.ref sb)])) (fun _ k => XS.dup X5.here hx rfl (D d11_34) rfl rfl k) ?_
  have ft10 := (nq3.keep kq5 (ninS ne_sb_tt3 nin0))
  refine zgf 38 X5 hx hZ hown (host := "") (Or.inl (ww hw 78 rfl)) Via.refl rfl ft10 (D d11_35) fun T11 X11 e11 => ?_
  refine zin 39 X11 hx (D d11_38) rfl ?_
  refine zad 40 X11 hx (D d11_39) ?_
  have ft12 := (eq3.keep kq5)
  obtain ⟨T13, h13, X13, e13, W13, st13⟩ := putF X11 hx hZ hown (host := "") (Or.inl (ww hw 78 rfl)) Via.refl e11 ft10 ft12 (Or.inl (ww hw 79 rfl)) (ww hw 38 rfl) (ty := .int) (by decide) rfl rfl (g := (mkF m 40 #[rv sb, rv s1, iv n] [(.int (c2 + n)), (.ref sb)])) rfl rfl (D d11_40)
  have N13 := Fr.snoc X13 N5 g_sb
  have O13 : Old Z n0 h13 := O5.wr W13 g_sb
  have K13 : Keep h0 h13 [sb, t2] := K5.wr W13 (Or.inl (List.mem_of_getElem? (i := 0) rfl))
  have Fw13 := ft10.same W13
  refine zst 43 #[rv sb, rv s1, iv n] [] st13 ?_
  refine zan 44 X13 hx (D d11_43) rfl rfl ?_
  refine Go.retV X13 hlk hx (t := (.object "java/lang/AbstractStringBuilder")) hret rfl (Or.inr (Or.inr (Or.inr (Or.inr ⟨rfl, rfl, rfl⟩)))) (D d11_44) e13 ?_ (by decide) (by decide)
  have ft14 := (ft12.wr W13)
  have ft15 := ((cq3.keep kq5 (ninS ne_sb_tt3 nin0)).other W13 (Or.inr (slot_ne (Or.inl (ww hw 54 rfl)) (Or.inl (ww hw 79 rfl)) (by decide) (t := .byte) (t' := .int) (by decide) (by decide))))
  have ft16 := ((fq3.keep kq5 (ninS ne_sb_tt3 nin0)).other W13 (Or.inr (slot_ne (Or.inl (ww hw 52 rfl)) (Or.inl (ww hw 79 rfl)) (by decide) (t := (.array .byte)) (t' := .int) (by decide) (by decide))))
  have ft17 := ((xq3.keep kq5).wr W13)
  have ft18 := (vq5.other W13 (Ne.symm ne_sb_tt3))
  exact ⟨rfl, N13, K13, ft14, ft15, Fw13, tt3, kt3, NN3, dy_tt3, ft16, ft17, ft18, own_bn (N := Y2) lc ln cap ra3 rc3⟩
theorem pn_java_lang_StringBuilder : plainName "java/lang/StringBuilder" = true := by first | (simp [plainName, overriddenIn]; done) | decide +kernel
theorem d10_0 : decode jdk_67_method_7_code 0 = .ok (.aload_n 0, 1) := by decide +kernel
theorem d10_1 : decode jdk_67_method_7_code 1 = .ok (.aload_n 1, 1) := by decide +kernel
theorem d10_2 : decode jdk_67_method_7_code 2 = .ok (.invokespecial 29, 3) := by decide +kernel
theorem pd__Ljava_lang_String__Ljava_lang_AbstractStringBuilder_ : parseMethodDescriptor "(Ljava/lang/String;)Ljava/lang/AbstractStringBuilder;" = some ⟨[(.object "java/lang/String")], some (.object "java/lang/AbstractStringBuilder")⟩ := by decide +kernel
theorem d10_5 : decode jdk_67_method_7_code 5 = .ok (.pop, 1) := by decide +kernel
theorem d10_6 : decode jdk_67_method_7_code 6 = .ok (.aload_n 0, 1) := by decide +kernel
theorem d10_7 : decode jdk_67_method_7_code 7 = .ok (.areturn, 1) := by decide +kernel
set_option maxRecDepth 65536 in
set_option maxHeartbeats 40000000 in
theorem gbs (l : Launch) (Z : State) (a0 : Array Value) (hw : ∀ d ∈ tables_1, d.before a0 Z = true) (ws : List Jvm.Cond) (sb : Addr) (s1 : Addr) (t1 : Addr) (k1 : ClassId) (n : Int32) (fs : List Value) (t2 : Addr) (k2 : ClassId) (Y2 : Int32) (c2 : Int32) (xs : List Value) (wO : Addr) (wT : Addr) (kO : ClassId) (kT : ClassId) (iC : Int32) (vF : Value) (vU : Value) (vS : Value) (h0 : Heap) (n0 : Nat) (O0 : Old Z n0 h0) (lc : Ln c2 xs) (bd : Bd c2 Y2) (ln : Ln n fs) (cap : xs.length + fs.length ≤ 100) (g_sb : n0 ≤ sb) (g_t2 : n0 ≤ t2) (E_sb : Exa Z h0 sb "java/lang/StringBuilder") (F_sb_coder : Fld Z h0 sb "java/lang/AbstractStringBuilder" "coder" "B" (.int 0)) (F_sb_value : Fld Z h0 sb "java/lang/AbstractStringBuilder" "value" "[B" (.ref t2)) (F_sb_count : Fld Z h0 sb "java/lang/AbstractStringBuilder" "count" "I" (.int c2)) (E_s1 : Exa Z h0 s1 "java/lang/String") (F_s1_coder : Fld Z h0 s1 "java/lang/String" "coder" "B" (.int 0)) (F_s1_value : Fld Z h0 s1 "java/lang/String" "value" "[B" (.ref t1)) (V_t1 : Arv Z h0 t1 k1 .byte n fs (.int 0)) (E_t2 : Exa Z h0 t2 "[B") (V_t2 : Arv Z h0 t2 k2 .byte Y2 xs (.int 0)) (WW : World1 Z wO wT kO kT iC vF vU vS) :
    Con l Z mq27 jdk_67_method_7_code 2 (some (.object "java/lang/StringBuilder")) ws ({ frames := 5, cells := 1, slots := 200, locals := 76 } : Room) #[(.ref sb), (.ref s1)] h0 (fun v h L => v = some (.ref sb) ∧ Fr n0 L ∧ Keep h0 h [sb, t2] ∧ Exa Z h sb "java/lang/StringBuilder" ∧ Fld Z h sb "java/lang/AbstractStringBuilder" "coder" "B" (.int 0) ∧ Fld Z h sb "java/lang/AbstractStringBuilder" "count" "I" (.int (c2 + n)) ∧ ∃ (t : Addr) (kt : ClassId) (N : Int32), (t = t2 ∨ h0.size ≤ t) ∧ Fld Z h sb "java/lang/AbstractStringBuilder" "value" "[B" (.ref t) ∧ Exa Z h t "[B" ∧ Arv Z h t kt .byte N (xs ++ fs) (.int 0) ∧ Bd (c2 + n) N) := by
  refine own_body (plainFor_of_name pn_java_lang_StringBuilder) ?_
  intro p e s m below meth c s₁ hx hby hml hZ hown hnm hlk hret X0 e0
  have N0 := Fr.nil n0
  have D := @hb _ _ hby
  have K0 : Keep h0 h0 [sb, t2] := Keep.refl _ _
  refine Go.st (T' := s₁) (f' := (mkF m 0 #[rv sb, rv s1] [])) (fun _ k => castTop (by first | (simp [entryFrame, mkF, argsToLocals, Value.category]; done) | rfl) k) ?_
  have ⟨S_iC, nz_iC, S_vF, r_vF, S_vU, r_vU, S_vS, r_vS, S_wO, E_wO, S_wT, E_wT, V_wO, V_wT⟩ := WW
  have lt_wO := E_wO.lt
  have lt_wT := E_wT.lt
  have lt_sb := E_sb.lt
  have ne_wO_sb : wO ≠ sb := O0.ne lt_wO g_sb
  have ne_wT_sb : wT ≠ sb := O0.ne lt_wT g_sb
  have lt_s1 := E_s1.lt
  have lt_t1 := V_t1.lt
  have lt_t2 := V_t2.lt
  have ne_wO_t2 : wO ≠ t2 := O0.ne lt_wO g_t2
  have ne_wT_t2 : wT ≠ t2 := O0.ne lt_wT g_t2
  have nt_sb_t2 : sb ≠ t2 := Exa.neArv E_sb V_t2 (ww hw 38 rfl)
  have nt_s1_t2 : s1 ≠ t2 := Exa.neArv E_s1 V_t2 (ww hw 2 rfl)
  have nt_sb_t1 : sb ≠ t1 := Exa.neArv E_sb V_t1 (ww hw 38 rfl)
  have nt_s1_t1 : s1 ≠ t1 := Exa.neArv E_s1 V_t1 (ww hw 2 rfl)
  have ne_sb_s1 := Exa.ne E_sb E_s1 (by decide)
  refine zan 1 X0 hx (D d10_0) rfl rfl ?_
  refine zan 2 X0 hx (D d10_1) rfl rfl ?_
  obtain ⟨_, _, ⟨T1, L1, kk1, nn1⟩, -, X1, ⟨Lc1, hQ1, lq1, yq1, zz1⟩, st1⟩ := superBack X0 hx hZ (y := mq26) hown (ww hw 63 rfl) (own_same (ww hw 83 rfl) (ww hw 64 rfl) rfl (by decide)) (ww hw 64 rfl) (ww hw 65 rfl) (by decide) (own_back (W := 0) (gas l Z a0 hw [] sb s1 t1 k1 n fs t2 k2 Y2 c2 xs wO wT kO kT iC vF vU vS h0 n0 O0 lc bd ln cap g_sb g_t2 E_sb F_sb_coder F_sb_value F_sb_count E_s1 F_s1_coder F_s1_value V_t1 E_t2 V_t2 WW) hZ (ww hw 67 rfl) (ww hw 47 rfl) (by decide) (by decide)) e0 (Ins.self E_sb) (g := (mkF m 2 #[rv sb, rv s1] [(.ref s1), (.ref sb)])) rfl (by rw [hml]; rfl) (ww hw 67 rfl) (argsL := [(.ref s1)]) (rest := []) (lenOf pd__Ljava_lang_String__Ljava_lang_AbstractStringBuilder_ rfl) rfl (by show 2 * 0 + _ ≤ _; exact Nat.le_of_eq rfl) (D d10_2) (fun _ _ => ⟨rfl, e0, (by decide : 0 + 1 ≤ _), (by decide : 0 + 200 ≤ _)⟩)
  dsimp only [Pt.U, Pt.locs, Pt.cells, Pt.slots] at X1 lq1 yq1 zz1 st1 hQ1
  subst lq1 yq1 zz1
  obtain ⟨rfl, Nq1, kq1, eq1, cq1, nq1, tt1, kt1, NN1, dz1, fq1, xq1, vq1, bd1⟩ := hQ1
  have N1 := Fr.app N0 Nq1
  have ne_sb_tt1 : sb ≠ tt1 := own_dn dz1 nt_sb_t2 lt_sb
  have ne_s1_tt1 : s1 ≠ tt1 := own_dn dz1 nt_s1_t2 lt_s1
  have ne_wO_tt1 : wO ≠ tt1 := own_dn dz1 ne_wO_t2 (Nat.lt_of_lt_of_le lt_wO O0.2.1)
  have ne_wT_tt1 : wT ≠ tt1 := own_dn dz1 ne_wT_t2 (Nat.lt_of_lt_of_le lt_wT O0.2.1)
  have g_tt1 : n0 ≤ tt1 := own_dt dz1 g_t2 (O0.1 ▸ O0.2.1)
  have ik_tt1 : tt1 ∈ [sb, t2] ∨ h0.size ≤ tt1 := own_ik dz1 K0.1
  have dy_tt1 := own_dz dz1 K0.1
  have O1 : Old Z n0 T1.heap := O0.keep kq1 (allS g_sb (allS g_t2 all0))
  have K1 : Keep h0 T1.heap [sb, t2] := K0.trans kq1 (allS (Or.inl (List.mem_of_getElem? (i := 0) rfl)) (allS (Or.inl (List.mem_of_getElem? (i := 1) rfl)) all0))
  have lt_tt1 := vq1.lt
  have ln1 := own_la lc ln cap
  refine Go.tr (f' := (mkF m 5 #[rv sb, rv s1] [(.ref sb)])) st1 ?_
  refine Go.st (f' := (mkF m 6 #[rv sb, rv s1] [])) (fun _ k => XS.pop X1.here hx rfl (D d10_5) rfl rfl k) ?_
  refine zan 7 X1 hx (D d10_6) rfl rfl ?_
  refine Go.retV X1 hlk hx (t := (.object "java/lang/StringBuilder")) hret rfl (Or.inr (Or.inr (Or.inr (Or.inr ⟨rfl, rfl, rfl⟩)))) (D d10_7) rfl ?_ (by decide) (by decide)
  exact ⟨rfl, N1, K1, eq1, cq1, nq1, tt1, kt1, NN1, dy_tt1, fq1, xq1, vq1, bd1⟩
/-- es with v at place k -/
def lput (es : List Value) (k : Nat) (v d : Value) : List Value := (es ++ List.replicate (k + 1) d).set k v
theorem lput_len (es : List Value) (k : Nat) (d : Value) : k < (es ++ List.replicate (k + 1) d).length := by rw [List.length_append, List.length_replicate]; omega
theorem lput_getD (es : List Value) (k : Nat) (v d : Value) (i : Nat) : (lput es k v d).getD i d = if i = k then v else es.getD i d := by
  unfold lput
  by_cases h : i = k
  · subst h; rw [if_pos rfl]
    simp only [List.getD_eq_getElem?_getD]
    rw [List.getElem?_set_self (lput_len es i d)]; rfl
  · rw [if_neg h, ← pad_rep es d (k + 1) i]
    simp only [List.getD_eq_getElem?_getD]
    rw [List.getElem?_set_ne (fun q => h q.symm)]
/-- a number without its sign; its digits; its text -/
def nAbs (x : Int32) : Nat := x.toInt.natAbs
def dgv (n j : Nat) : Value := .int (Int32.ofNat (48 + n / 10 ^ j % 10))
def dgs (n : Nat) : Nat := Jvm.Free.SBG.digits n
theorem dgs_d (n : Nat) : dgs n = Jvm.Free.SBG.digits n := rfl
def dsL (x : Int32) : List Value := (if x < 0 then [Value.int (45 : Int32)] else []) ++ (List.range (dgs (nAbs x))).map (fun i => dgv (nAbs x) (dgs (nAbs x) - 1 - i))
theorem dsL_len (x : Int32) : (dsL x).length = dgs (nAbs x) + (if x < 0 then 1 else 0) := by
  unfold dsL; rw [List.length_append, List.length_map, List.length_range]; split <;> simp <;> omega
theorem nAbs_le (x : Int32) : nAbs x ≤ 2 ^ 31 := by have r := rng32 x; unfold nAbs; omega
theorem dgk1 {n : Nat} (h : n < 10) : dgs n = 1 := by
  rw [dgs_d]; unfold Jvm.Free.SBG.digits
  rw [if_pos h]
theorem dgk2 {n : Nat} (l : 10 ≤ n) (h : n < 100) : dgs n = 2 := by
  rw [dgs_d]; unfold Jvm.Free.SBG.digits
  rw [if_neg (by omega), if_pos h]
theorem dgk3 {n : Nat} (l : 100 ≤ n) (h : n < 1000) : dgs n = 3 := by
  rw [dgs_d]; unfold Jvm.Free.SBG.digits
  rw [if_neg (by omega), if_neg (by omega), if_pos h]
theorem dgk4 {n : Nat} (l : 1000 ≤ n) (h : n < 10000) : dgs n = 4 := by
  rw [dgs_d]; unfold Jvm.Free.SBG.digits
  rw [if_neg (by omega), if_neg (by omega), if_neg (by omega), if_pos h]
theorem dgk5 {n : Nat} (l : 10000 ≤ n) (h : n < 100000) : dgs n = 5 := by
  rw [dgs_d]; unfold Jvm.Free.SBG.digits
  rw [if_neg (by omega), if_neg (by omega), if_neg (by omega), if_neg (by omega), if_pos h]
theorem dgk6 {n : Nat} (l : 100000 ≤ n) (h : n < 1000000) : dgs n = 6 := by
  rw [dgs_d]; unfold Jvm.Free.SBG.digits
  rw [if_neg (by omega), if_neg (by omega), if_neg (by omega), if_neg (by omega), if_neg (by omega), if_pos h]
theorem dgk7 {n : Nat} (l : 1000000 ≤ n) (h : n < 10000000) : dgs n = 7 := by
  rw [dgs_d]; unfold Jvm.Free.SBG.digits
  rw [if_neg (by omega), if_neg (by omega), if_neg (by omega), if_neg (by omega), if_neg (by omega), if_neg (by omega), if_pos h]
theorem dgk8 {n : Nat} (l : 10000000 ≤ n) (h : n < 100000000) : dgs n = 8 := by
  rw [dgs_d]; unfold Jvm.Free.SBG.digits
  rw [if_neg (by omega), if_neg (by omega), if_neg (by omega), if_neg (by omega), if_neg (by omega), if_neg (by omega), if_neg (by omega), if_pos h]
theorem dgk9 {n : Nat} (l : 100000000 ≤ n) (h : n < 1000000000) : dgs n = 9 := by
  rw [dgs_d]; unfold Jvm.Free.SBG.digits
  rw [if_neg (by omega), if_neg (by omega), if_neg (by omega), if_neg (by omega), if_neg (by omega), if_neg (by omega), if_neg (by omega), if_neg (by omega), if_pos h]
theorem dgk10 {n : Nat} (l : 1000000000 ≤ n) : dgs n = 10 := by
  rw [dgs_d]; unfold Jvm.Free.SBG.digits
  rw [if_neg (by omega), if_neg (by omega), if_neg (by omega), if_neg (by omega), if_neg (by omega), if_neg (by omega), if_neg (by omega), if_neg (by omega), if_neg (by omega)]
theorem dgs_of {n k : Nat} (h1 : 1 ≤ k) (h10 : k ≤ 10) (lo : k = 1 ∨ 10 ^ (k - 1) ≤ n) (hi : k = 10 ∨ n < 10 ^ k) : dgs n = k := by
  have c : k = 1 ∨ k = 2 ∨ k = 3 ∨ k = 4 ∨ k = 5 ∨ k = 6 ∨ k = 7 ∨ k = 8 ∨ k = 9 ∨ k = 10 := by omega
  rcases c with rfl | rfl | rfl | rfl | rfl | rfl | rfl | rfl | rfl | rfl
  · exact dgk1 (hi.elim (fun h => absurd h (by decide)) (fun h => by rw [show (10 : Nat) ^ 1 = 10 from by decide] at h; exact h))
  · exact dgk2 (lo.elim (fun h => absurd h (by decide)) (fun h => by rw [show (10 : Nat) ^ (2 - 1) = 10 from by decide] at h; exact h)) (hi.elim (fun h => absurd h (by decide)) (fun h => by rw [show (10 : Nat) ^ 2 = 100 from by decide] at h; exact h))
  · exact dgk3 (lo.elim (fun h => absurd h (by decide)) (fun h => by rw [show (10 : Nat) ^ (3 - 1) = 100 from by decide] at h; exact h)) (hi.elim (fun h => absurd h (by decide)) (fun h => by rw [show (10 : Nat) ^ 3 = 1000 from by decide] at h; exact h))
  · exact dgk4 (lo.elim (fun h => absurd h (by decide)) (fun h => by rw [show (10 : Nat) ^ (4 - 1) = 1000 from by decide] at h; exact h)) (hi.elim (fun h => absurd h (by decide)) (fun h => by rw [show (10 : Nat) ^ 4 = 10000 from by decide] at h; exact h))
  · exact dgk5 (lo.elim (fun h => absurd h (by decide)) (fun h => by rw [show (10 : Nat) ^ (5 - 1) = 10000 from by decide] at h; exact h)) (hi.elim (fun h => absurd h (by decide)) (fun h => by rw [show (10 : Nat) ^ 5 = 100000 from by decide] at h; exact h))
  · exact dgk6 (lo.elim (fun h => absurd h (by decide)) (fun h => by rw [show (10 : Nat) ^ (6 - 1) = 100000 from by decide] at h; exact h)) (hi.elim (fun h => absurd h (by decide)) (fun h => by rw [show (10 : Nat) ^ 6 = 1000000 from by decide] at h; exact h))
  · exact dgk7 (lo.elim (fun h => absurd h (by decide)) (fun h => by rw [show (10 : Nat) ^ (7 - 1) = 1000000 from by decide] at h; exact h)) (hi.elim (fun h => absurd h (by decide)) (fun h => by rw [show (10 : Nat) ^ 7 = 10000000 from by decide] at h; exact h))
  · exact dgk8 (lo.elim (fun h => absurd h (by decide)) (fun h => by rw [show (10 : Nat) ^ (8 - 1) = 10000000 from by decide] at h; exact h)) (hi.elim (fun h => absurd h (by decide)) (fun h => by rw [show (10 : Nat) ^ 8 = 100000000 from by decide] at h; exact h))
  · exact dgk9 (lo.elim (fun h => absurd h (by decide)) (fun h => by rw [show (10 : Nat) ^ (9 - 1) = 100000000 from by decide] at h; exact h)) (hi.elim (fun h => absurd h (by decide)) (fun h => by rw [show (10 : Nat) ^ 9 = 1000000000 from by decide] at h; exact h))
  · exact dgk10 (lo.elim (fun h => absurd h (by decide)) (fun h => by rw [show (10 : Nat) ^ (10 - 1) = 1000000000 from by decide] at h; exact h))
theorem dgs_b (n : Nat) : 1 ≤ dgs n ∧ dgs n ≤ 10 := by rw [dgs_d]; exact Jvm.Free.SBG.digits_pos n
theorem dsL_b (x : Int32) : (dsL x).length ≤ 11 := by rw [dsL_len]; have := dgs_b (nAbs x); split <;> omega
theorem own_cd {xs : List Value} {x : Int32} (h : xs.length ≤ 88) : xs.length + (dsL x).length ≤ 100 := by have := dsL_b x; omega
theorem own_szN {x r : Int32} (k : Nat) (hx : x < 0) (h1 : 1 ≤ k) (h10 : k ≤ 10) (lo : k = 1 ∨ x.toInt ≤ -((10 ^ (k - 1) : Nat) : Int)) (hi : k = 10 ∨ -((10 ^ k : Nat) : Int) < x.toInt) (hr : r.toInt = (k : Int) + 1) : Ln r (dsL x) := by
  have hn : (nAbs x : Int) = -x.toInt := by
    have hx' := hx; rw [Int32.lt_iff_toInt_lt] at hx'; have e0 : (0 : Int32).toInt = 0 := by decide
    unfold nAbs; omega
  have e := dgs_of (n := nAbs x) h1 h10 (lo.imp id (fun h => by omega)) (hi.imp id (fun h => by omega))
  refine ⟨by omega, ?_⟩
  rw [dsL_len, e, if_pos hx, hr]; omega
theorem own_neg {x : Int32} (hx : ¬ x < 0) : (-x).toInt = -x.toInt ∧ 0 ≤ x.toInt := by
  have e0 : (0 : Int32).toInt = 0 := by decide
  rw [Int32.lt_iff_toInt_lt] at hx
  have e : -x = 0 - x := by rw [Int32.sub_eq_add_neg, Int32.zero_add]
  have q := c_isub 0 x
  have r := rng32 (0 - x)
  have r2 := rng32 x
  rw [e]; omega
theorem own_szP {x r : Int32} (k : Nat) (hx : ¬ x < 0) (h1 : 1 ≤ k) (h10 : k ≤ 10) (lo : k = 1 ∨ (-x).toInt ≤ -((10 ^ (k - 1) : Nat) : Int)) (hi : k = 10 ∨ -((10 ^ k : Nat) : Int) < (-x).toInt) (hr : r.toInt = (k : Int)) : Ln r (dsL x) := by
  have q := own_neg hx
  have hn : (nAbs x : Int) = x.toInt := by unfold nAbs; omega
  have e := dgs_of (n := nAbs x) h1 h10 (lo.imp id (fun h => by omega)) (hi.imp id (fun h => by omega))
  refine ⟨by omega, ?_⟩
  rw [dsL_len, e, if_neg hx, hr]; rfl
theorem own_ge {c x : Int32} {m : Int} (h : ¬ c < x) (e : c.toInt = m) : x.toInt ≤ m := by rw [Int32.lt_iff_toInt_lt] at h; omega
theorem own_gt {c x : Int32} {m : Int} (h : c < x) (e : c.toInt = m) : m < x.toInt := by rw [Int32.lt_iff_toInt_lt] at h; omega

theorem pn_java_lang_Integer : plainName "java/lang/Integer" = true := by first | (simp [plainName, overriddenIn]; done) | decide +kernel
theorem d20_0 : decode jdk_33_method_13_code 0 = .ok (.iconst 1, 1) := by decide +kernel
theorem d20_1 : decode jdk_33_method_13_code 1 = .ok (.istore_n 1, 1) := by decide +kernel
theorem d20_2 : decode jdk_33_method_13_code 2 = .ok (.iload_n 0, 1) := by decide +kernel
theorem d20_3 : decode jdk_33_method_13_code 3 = .ok (.ifCond .lt 8, 3) := by decide +kernel
theorem d20_11 : decode jdk_33_method_13_code 11 = .ok (.bipush (-10), 2) := by decide +kernel
theorem d20_13 : decode jdk_33_method_13_code 13 = .ok (.istore_n 2, 1) := by decide +kernel
theorem d20_14 : decode jdk_33_method_13_code 14 = .ok (.iconst 1, 1) := by decide +kernel
theorem d20_15 : decode jdk_33_method_13_code 15 = .ok (.istore_n 3, 1) := by decide +kernel
theorem d20_16 : decode jdk_33_method_13_code 16 = .ok (.iload_n 3, 1) := by decide +kernel
theorem d20_17 : decode jdk_33_method_13_code 17 = .ok (.bipush 10, 2) := by decide +kernel
theorem d20_19 : decode jdk_33_method_13_code 19 = .ok (.if_icmp .ge 23, 3) := by decide +kernel
theorem d20_22 : decode jdk_33_method_13_code 22 = .ok (.iload_n 0, 1) := by decide +kernel
theorem d20_23 : decode jdk_33_method_13_code 23 = .ok (.iload_n 2, 1) := by decide +kernel
theorem d20_24 : decode jdk_33_method_13_code 24 = .ok (.if_icmp .le 7, 3) := by decide +kernel
theorem d20_27 : decode jdk_33_method_13_code 27 = .ok (.iload_n 3, 1) := by decide +kernel
theorem d20_28 : decode jdk_33_method_13_code 28 = .ok (.iload_n 1, 1) := by decide +kernel
theorem d20_29 : decode jdk_33_method_13_code 29 = .ok (.iadd, 1) := by decide +kernel
theorem d20_30 : decode jdk_33_method_13_code 30 = .ok (.ireturn, 1) := by decide +kernel
theorem d20_31 : decode jdk_33_method_13_code 31 = .ok (.bipush 10, 2) := by decide +kernel
theorem d20_33 : decode jdk_33_method_13_code 33 = .ok (.iload_n 2, 1) := by decide +kernel
theorem d20_34 : decode jdk_33_method_13_code 34 = .ok (.imul, 1) := by decide +kernel
theorem d20_35 : decode jdk_33_method_13_code 35 = .ok (.istore_n 2, 1) := by decide +kernel
theorem d20_36 : decode jdk_33_method_13_code 36 = .ok (.iinc 3 1, 3) := by decide +kernel
theorem d20_39 : decode jdk_33_method_13_code 39 = .ok (.goto (-23), 3) := by decide +kernel
theorem d20_42 : decode jdk_33_method_13_code 42 = .ok (.bipush 10, 2) := by decide +kernel
theorem d20_44 : decode jdk_33_method_13_code 44 = .ok (.iload_n 1, 1) := by decide +kernel
theorem d20_45 : decode jdk_33_method_13_code 45 = .ok (.iadd, 1) := by decide +kernel
theorem d20_46 : decode jdk_33_method_13_code 46 = .ok (.ireturn, 1) := by decide +kernel
theorem d20_6 : decode jdk_33_method_13_code 6 = .ok (.iconst 0, 1) := by decide +kernel
theorem d20_7 : decode jdk_33_method_13_code 7 = .ok (.istore_n 1, 1) := by decide +kernel
theorem d20_8 : decode jdk_33_method_13_code 8 = .ok (.iload_n 0, 1) := by decide +kernel
theorem d20_9 : decode jdk_33_method_13_code 9 = .ok (.ineg, 1) := by decide +kernel
theorem d20_10 : decode jdk_33_method_13_code 10 = .ok (.istore_n 0, 1) := by decide +kernel
set_option maxRecDepth 65536 in
set_option maxHeartbeats 40000000 in
theorem gss (l : Launch) (Z : State) (a0 : Array Value) (hw : ∀ d ∈ tables_1, d.before a0 Z = true) (ws : List Jvm.Cond) (x : Int32) (h0 : Heap) (n0 : Nat) (O0 : Old Z n0 h0)  :
    Con l Z mq28 jdk_33_method_13_code 4 (some .int) ws ({ frames := 0, cells := 0, slots := 0, locals := 0 } : Room) #[(.int x)] h0 (fun v h L => ∃ r : Int32, v = some (.int r) ∧ Fr n0 L ∧ h = h0 ∧ Ln r (dsL x)) := by
  refine own_body (plainFor_of_name pn_java_lang_Integer) ?_
  intro p e s m below meth c s₁ hx hby hml hZ hown hnm hlk hret X0 e0
  have N0 := Fr.nil n0
  have D := @hb _ _ hby
  refine Go.st (T' := s₁) (f' := (mkF m 0 #[iv x, .unset, .unset, .unset] [])) (fun _ k => castTop (by first | (simp [entryFrame, mkF, argsToLocals, Value.category]; done) | rfl) k) ?_
  refine zic 1 1 X0 hx (D d20_0) ?_
  refine zsn 2 #[iv x, iv 1, .unset, .unset] X0 hx (D d20_1) ?_
  refine zin 3 X0 hx (D d20_2) rfl ?_
  by_cases cd1 : x < (0 : Int32)
  · refine zfy 11 X0 hx (D d20_3) ((if0 _ _).trans (tlt cd1).1) ?_
    refine zbp 13 (-10) X0 hx (D d20_11) ?_
    refine zsn 14 #[iv x, iv 1, .val (.int (-10)), .unset] X0 hx (D d20_13) ?_
    refine zic 15 1 X0 hx (D d20_14) ?_
    refine zsn 16 #[iv x, iv 1, .val (.int (-10)), iv 1] X0 hx (D d20_15) ?_
    refine zin 17 X0 hx (D d20_16) rfl ?_
    refine zbp 19 10 X0 hx (D d20_17) ?_
    refine zcn 22 X0 hx (D d20_19) (by decide) ?_
    refine zin 23 X0 hx (D d20_22) rfl ?_
    refine zin 24 X0 hx (D d20_23) rfl ?_
    by_cases cd2 : (-10 : Int32) < x
    · refine zcn 27 X0 hx (D d20_24) (tlt cd2).2.2.2 ?_
      refine zin 28 X0 hx (D d20_27) rfl ?_
      refine zin 29 X0 hx (D d20_28) rfl ?_
      refine Go.st (f' := (mkF m 30 #[iv x, iv 1, .val (.int (-10)), iv 1] [(.int 2)])) (fun _ k => XS.iadd X0.here hx rfl (D d20_29) rfl k) ?_
      refine Go.retV X0 hlk hx (t := .int) hret rfl (Or.inl ⟨rfl, Or.inl rfl, _, rfl⟩) (D d20_30) e0 ?_ (by decide) (by decide)
      exact ⟨_, rfl, N0, rfl, own_szN 1 cd1 (by decide) (by decide) (Or.inl rfl) (Or.inr (own_gt cd2 (by decide))) (by decide)⟩
    · refine zcy 31 X0 hx (D d20_24) (flt cd2).2.2.2 ?_
      refine zbp 33 10 X0 hx (D d20_31) ?_
      refine zin 34 X0 hx (D d20_33) rfl ?_
      refine Go.st (f' := (mkF m 35 #[iv x, iv 1, .val (.int (-10)), iv 1] [(.int (-100))])) (fun _ k => XS.imul X0.here hx rfl (D d20_34) rfl k) ?_
      refine zsn 36 #[iv x, iv 1, .val (.int (-100)), iv 1] X0 hx (D d20_35) ?_
      refine zii 39 #[iv x, iv 1, .val (.int (-100)), iv 2] X0 hx (D d20_36) rfl ?_
      refine zgo 16 X0 hx (D d20_39) ?_
      refine zin 17 X0 hx (D d20_16) rfl ?_
      refine zbp 19 10 X0 hx (D d20_17) ?_
      refine zcn 22 X0 hx (D d20_19) (by decide) ?_
      refine zin 23 X0 hx (D d20_22) rfl ?_
      refine zin 24 X0 hx (D d20_23) rfl ?_
      by_cases cd3 : (-100 : Int32) < x
      · refine zcn 27 X0 hx (D d20_24) (tlt cd3).2.2.2 ?_
        refine zin 28 X0 hx (D d20_27) rfl ?_
        refine zin 29 X0 hx (D d20_28) rfl ?_
        refine Go.st (f' := (mkF m 30 #[iv x, iv 1, .val (.int (-100)), iv 2] [(.int 3)])) (fun _ k => XS.iadd X0.here hx rfl (D d20_29) rfl k) ?_
        refine Go.retV X0 hlk hx (t := .int) hret rfl (Or.inl ⟨rfl, Or.inl rfl, _, rfl⟩) (D d20_30) e0 ?_ (by decide) (by decide)
        exact ⟨_, rfl, N0, rfl, own_szN 2 cd1 (by decide) (by decide) (Or.inr (own_ge cd2 (by decide))) (Or.inr (own_gt cd3 (by decide))) (by decide)⟩
      · refine zcy 31 X0 hx (D d20_24) (flt cd3).2.2.2 ?_
        refine zbp 33 10 X0 hx (D d20_31) ?_
        refine zin 34 X0 hx (D d20_33) rfl ?_
        refine Go.st (f' := (mkF m 35 #[iv x, iv 1, .val (.int (-100)), iv 2] [(.int (-1000))])) (fun _ k => XS.imul X0.here hx rfl (D d20_34) rfl k) ?_
        refine zsn 36 #[iv x, iv 1, .val (.int (-1000)), iv 2] X0 hx (D d20_35) ?_
        refine zii 39 #[iv x, iv 1, .val (.int (-1000)), iv 3] X0 hx (D d20_36) rfl ?_
        refine zgo 16 X0 hx (D d20_39) ?_
        refine zin 17 X0 hx (D d20_16) rfl ?_
        refine zbp 19 10 X0 hx (D d20_17) ?_
        refine zcn 22 X0 hx (D d20_19) (by decide) ?_
        refine zin 23 X0 hx (D d20_22) rfl ?_
        refine zin 24 X0 hx (D d20_23) rfl ?_
        by_cases cd4 : (-1000 : Int32) < x
        · refine zcn 27 X0 hx (D d20_24) (tlt cd4).2.2.2 ?_
          refine zin 28 X0 hx (D d20_27) rfl ?_
          refine zin 29 X0 hx (D d20_28) rfl ?_
          refine Go.st (f' := (mkF m 30 #[iv x, iv 1, .val (.int (-1000)), iv 3] [(.int 4)])) (fun _ k => XS.iadd X0.here hx rfl (D d20_29) rfl k) ?_
          refine Go.retV X0 hlk hx (t := .int) hret rfl (Or.inl ⟨rfl, Or.inl rfl, _, rfl⟩) (D d20_30) e0 ?_ (by decide) (by decide)
          exact ⟨_, rfl, N0, rfl, own_szN 3 cd1 (by decide) (by decide) (Or.inr (own_ge cd3 (by decide))) (Or.inr (own_gt cd4 (by decide))) (by decide)⟩
        · refine zcy 31 X0 hx (D d20_24) (flt cd4).2.2.2 ?_
          refine zbp 33 10 X0 hx (D d20_31) ?_
          refine zin 34 X0 hx (D d20_33) rfl ?_
          refine Go.st (f' := (mkF m 35 #[iv x, iv 1, .val (.int (-1000)), iv 3] [(.int (-10000))])) (fun _ k => XS.imul X0.here hx rfl (D d20_34) rfl k) ?_
          refine zsn 36 #[iv x, iv 1, .val (.int (-10000)), iv 3] X0 hx (D d20_35) ?_
          refine zii 39 #[iv x, iv 1, .val (.int (-10000)), iv 4] X0 hx (D d20_36) rfl ?_
          refine zgo 16 X0 hx (D d20_39) ?_
          refine zin 17 X0 hx (D d20_16) rfl ?_
          refine zbp 19 10 X0 hx (D d20_17) ?_
          refine zcn 22 X0 hx (D d20_19) (by decide) ?_
          refine zin 23 X0 hx (D d20_22) rfl ?_
          refine zin 24 X0 hx (D d20_23) rfl ?_
          by_cases cd5 : (-10000 : Int32) < x
          · refine zcn 27 X0 hx (D d20_24) (tlt cd5).2.2.2 ?_
            refine zin 28 X0 hx (D d20_27) rfl ?_
            refine zin 29 X0 hx (D d20_28) rfl ?_
            refine Go.st (f' := (mkF m 30 #[iv x, iv 1, .val (.int (-10000)), iv 4] [(.int 5)])) (fun _ k => XS.iadd X0.here hx rfl (D d20_29) rfl k) ?_
            refine Go.retV X0 hlk hx (t := .int) hret rfl (Or.inl ⟨rfl, Or.inl rfl, _, rfl⟩) (D d20_30) e0 ?_ (by decide) (by decide)
            exact ⟨_, rfl, N0, rfl, own_szN 4 cd1 (by decide) (by decide) (Or.inr (own_ge cd4 (by decide))) (Or.inr (own_gt cd5 (by decide))) (by decide)⟩
          · refine zcy 31 X0 hx (D d20_24) (flt cd5).2.2.2 ?_
            refine zbp 33 10 X0 hx (D d20_31) ?_
            refine zin 34 X0 hx (D d20_33) rfl ?_
            refine Go.st (f' := (mkF m 35 #[iv x, iv 1, .val (.int (-10000)), iv 4] [(.int (-100000))])) (fun _ k => XS.imul X0.here hx rfl (D d20_34) rfl k) ?_
            refine zsn 36 #[iv x, iv 1, .val (.int (-100000)), iv 4] X0 hx (D d20_35) ?_
            refine zii 39 #[iv x, iv 1, .val (.int (-100000)), iv 5] X0 hx (D d20_36) rfl ?_
            refine zgo 16 X0 hx (D d20_39) ?_
            refine zin 17 X0 hx (D d20_16) rfl ?_
            refine zbp 19 10 X0 hx (D d20_17) ?_
            refine zcn 22 X0 hx (D d20_19) (by decide) ?_
            refine zin 23 X0 hx (D d20_22) rfl ?_
            refine zin 24 X0 hx (D d20_23) rfl ?_
            by_cases cd6 : (-100000 : Int32) < x
            · refine zcn 27 X0 hx (D d20_24) (tlt cd6).2.2.2 ?_
              refine zin 28 X0 hx (D d20_27) rfl ?_
              refine zin 29 X0 hx (D d20_28) rfl ?_
              refine Go.st (f' := (mkF m 30 #[iv x, iv 1, .val (.int (-100000)), iv 5] [(.int 6)])) (fun _ k => XS.iadd X0.here hx rfl (D d20_29) rfl k) ?_
              refine Go.retV X0 hlk hx (t := .int) hret rfl (Or.inl ⟨rfl, Or.inl rfl, _, rfl⟩) (D d20_30) e0 ?_ (by decide) (by decide)
              exact ⟨_, rfl, N0, rfl, own_szN 5 cd1 (by decide) (by decide) (Or.inr (own_ge cd5 (by decide))) (Or.inr (own_gt cd6 (by decide))) (by decide)⟩
            · refine zcy 31 X0 hx (D d20_24) (flt cd6).2.2.2 ?_
              refine zbp 33 10 X0 hx (D d20_31) ?_
              refine zin 34 X0 hx (D d20_33) rfl ?_
              refine Go.st (f' := (mkF m 35 #[iv x, iv 1, .val (.int (-100000)), iv 5] [(.int (-1000000))])) (fun _ k => XS.imul X0.here hx rfl (D d20_34) rfl k) ?_
              refine zsn 36 #[iv x, iv 1, .val (.int (-1000000)), iv 5] X0 hx (D d20_35) ?_
              refine zii 39 #[iv x, iv 1, .val (.int (-1000000)), iv 6] X0 hx (D d20_36) rfl ?_
              refine zgo 16 X0 hx (D d20_39) ?_
              refine zin 17 X0 hx (D d20_16) rfl ?_
              refine zbp 19 10 X0 hx (D d20_17) ?_
              refine zcn 22 X0 hx (D d20_19) (by decide) ?_
              refine zin 23 X0 hx (D d20_22) rfl ?_
              refine zin 24 X0 hx (D d20_23) rfl ?_
              by_cases cd7 : (-1000000 : Int32) < x
              · refine zcn 27 X0 hx (D d20_24) (tlt cd7).2.2.2 ?_
                refine zin 28 X0 hx (D d20_27) rfl ?_
                refine zin 29 X0 hx (D d20_28) rfl ?_
                refine Go.st (f' := (mkF m 30 #[iv x, iv 1, .val (.int (-1000000)), iv 6] [(.int 7)])) (fun _ k => XS.iadd X0.here hx rfl (D d20_29) rfl k) ?_
                refine Go.retV X0 hlk hx (t := .int) hret rfl (Or.inl ⟨rfl, Or.inl rfl, _, rfl⟩) (D d20_30) e0 ?_ (by decide) (by decide)
                exact ⟨_, rfl, N0, rfl, own_szN 6 cd1 (by decide) (by decide) (Or.inr (own_ge cd6 (by decide))) (Or.inr (own_gt cd7 (by decide))) (by decide)⟩
              · refine zcy 31 X0 hx (D d20_24) (flt cd7).2.2.2 ?_
                refine zbp 33 10 X0 hx (D d20_31) ?_
                refine zin 34 X0 hx (D d20_33) rfl ?_
                refine Go.st (f' := (mkF m 35 #[iv x, iv 1, .val (.int (-1000000)), iv 6] [(.int (-10000000))])) (fun _ k => XS.imul X0.here hx rfl (D d20_34) rfl k) ?_
                refine zsn 36 #[iv x, iv 1, .val (.int (-10000000)), iv 6] X0 hx (D d20_35) ?_
                refine zii 39 #[iv x, iv 1, .val (.int (-10000000)), iv 7] X0 hx (D d20_36) rfl ?_
                refine zgo 16 X0 hx (D d20_39) ?_
                refine zin 17 X0 hx (D d20_16) rfl ?_
                refine zbp 19 10 X0 hx (D d20_17) ?_
                refine zcn 22 X0 hx (D d20_19) (by decide) ?_
                refine zin 23 X0 hx (D d20_22) rfl ?_
                refine zin 24 X0 hx (D d20_23) rfl ?_
                by_cases cd8 : (-10000000 : Int32) < x
                · refine zcn 27 X0 hx (D d20_24) (tlt cd8).2.2.2 ?_
                  refine zin 28 X0 hx (D d20_27) rfl ?_
                  refine zin 29 X0 hx (D d20_28) rfl ?_
                  refine Go.st (f' := (mkF m 30 #[iv x, iv 1, .val (.int (-10000000)), iv 7] [(.int 8)])) (fun _ k => XS.iadd X0.here hx rfl (D d20_29) rfl k) ?_
                  refine Go.retV X0 hlk hx (t := .int) hret rfl (Or.inl ⟨rfl, Or.inl rfl, _, rfl⟩) (D d20_30) e0 ?_ (by decide) (by decide)
                  exact ⟨_, rfl, N0, rfl, own_szN 7 cd1 (by decide) (by decide) (Or.inr (own_ge cd7 (by decide))) (Or.inr (own_gt cd8 (by decide))) (by decide)⟩
                · refine zcy 31 X0 hx (D d20_24) (flt cd8).2.2.2 ?_
                  refine zbp 33 10 X0 hx (D d20_31) ?_
                  refine zin 34 X0 hx (D d20_33) rfl ?_
                  refine Go.st (f' := (mkF m 35 #[iv x, iv 1, .val (.int (-10000000)), iv 7] [(.int (-100000000))])) (fun _ k => XS.imul X0.here hx rfl (D d20_34) rfl k) ?_
                  refine zsn 36 #[iv x, iv 1, .val (.int (-100000000)), iv 7] X0 hx (D d20_35) ?_
                  refine zii 39 #[iv x, iv 1, .val (.int (-100000000)), iv 8] X0 hx (D d20_36) rfl ?_
                  refine zgo 16 X0 hx (D d20_39) ?_
                  refine zin 17 X0 hx (D d20_16) rfl ?_
                  refine zbp 19 10 X0 hx (D d20_17) ?_
                  refine zcn 22 X0 hx (D d20_19) (by decide) ?_
                  refine zin 23 X0 hx (D d20_22) rfl ?_
                  refine zin 24 X0 hx (D d20_23) rfl ?_
                  by_cases cd9 : (-100000000 : Int32) < x
                  · refine zcn 27 X0 hx (D d20_24) (tlt cd9).2.2.2 ?_
                    refine zin 28 X0 hx (D d20_27) rfl ?_
                    refine zin 29 X0 hx (D d20_28) rfl ?_
                    refine Go.st (f' := (mkF m 30 #[iv x, iv 1, .val (.int (-100000000)), iv 8] [(.int 9)])) (fun _ k => XS.iadd X0.here hx rfl (D d20_29) rfl k) ?_
                    refine Go.retV X0 hlk hx (t := .int) hret rfl (Or.inl ⟨rfl, Or.inl rfl, _, rfl⟩) (D d20_30) e0 ?_ (by decide) (by decide)
                    exact ⟨_, rfl, N0, rfl, own_szN 8 cd1 (by decide) (by decide) (Or.inr (own_ge cd8 (by decide))) (Or.inr (own_gt cd9 (by decide))) (by decide)⟩
                  · refine zcy 31 X0 hx (D d20_24) (flt cd9).2.2.2 ?_
                    refine zbp 33 10 X0 hx (D d20_31) ?_
                    refine zin 34 X0 hx (D d20_33) rfl ?_
                    refine Go.st (f' := (mkF m 35 #[iv x, iv 1, .val (.int (-100000000)), iv 8] [(.int (-1000000000))])) (fun _ k => XS.imul X0.here hx rfl (D d20_34) rfl k) ?_
                    refine zsn 36 #[iv x, iv 1, .val (.int (-1000000000)), iv 8] X0 hx (D d20_35) ?_
                    refine zii 39 #[iv x, iv 1, .val (.int (-1000000000)), iv 9] X0 hx (D d20_36) rfl ?_
                    refine zgo 16 X0 hx (D d20_39) ?_
                    refine zin 17 X0 hx (D d20_16) rfl ?_
                    refine zbp 19 10 X0 hx (D d20_17) ?_
                    refine zcn 22 X0 hx (D d20_19) (by decide) ?_
                    refine zin 23 X0 hx (D d20_22) rfl ?_
                    refine zin 24 X0 hx (D d20_23) rfl ?_
                    by_cases cd10 : (-1000000000 : Int32) < x
                    · refine zcn 27 X0 hx (D d20_24) (tlt cd10).2.2.2 ?_
                      refine zin 28 X0 hx (D d20_27) rfl ?_
                      refine zin 29 X0 hx (D d20_28) rfl ?_
                      refine Go.st (f' := (mkF m 30 #[iv x, iv 1, .val (.int (-1000000000)), iv 9] [(.int 10)])) (fun _ k => XS.iadd X0.here hx rfl (D d20_29) rfl k) ?_
                      refine Go.retV X0 hlk hx (t := .int) hret rfl (Or.inl ⟨rfl, Or.inl rfl, _, rfl⟩) (D d20_30) e0 ?_ (by decide) (by decide)
                      exact ⟨_, rfl, N0, rfl, own_szN 9 cd1 (by decide) (by decide) (Or.inr (own_ge cd9 (by decide))) (Or.inr (own_gt cd10 (by decide))) (by decide)⟩
                    · refine zcy 31 X0 hx (D d20_24) (flt cd10).2.2.2 ?_
                      refine zbp 33 10 X0 hx (D d20_31) ?_
                      refine zin 34 X0 hx (D d20_33) rfl ?_
                      refine Go.st (f' := (mkF m 35 #[iv x, iv 1, .val (.int (-1000000000)), iv 9] [(.int (-1410065408))])) (fun _ k => XS.imul X0.here hx rfl (D d20_34) rfl k) ?_
                      refine zsn 36 #[iv x, iv 1, .val (.int (-1410065408)), iv 9] X0 hx (D d20_35) ?_
                      refine zii 39 #[iv x, iv 1, .val (.int (-1410065408)), iv 10] X0 hx (D d20_36) rfl ?_
                      refine zgo 16 X0 hx (D d20_39) ?_
                      refine zin 17 X0 hx (D d20_16) rfl ?_
                      refine zbp 19 10 X0 hx (D d20_17) ?_
                      refine zcy 42 X0 hx (D d20_19) (by decide) ?_
                      refine zbp 44 10 X0 hx (D d20_42) ?_
                      refine zin 45 X0 hx (D d20_44) rfl ?_
                      refine Go.st (f' := (mkF m 46 #[iv x, iv 1, .val (.int (-1410065408)), iv 10] [(.int 11)])) (fun _ k => XS.iadd X0.here hx rfl (D d20_45) rfl k) ?_
                      refine Go.retV X0 hlk hx (t := .int) hret rfl (Or.inl ⟨rfl, Or.inl rfl, _, rfl⟩) (D d20_46) e0 ?_ (by decide) (by decide)
                      exact ⟨_, rfl, N0, rfl, own_szN 10 cd1 (by decide) (by decide) (Or.inr (own_ge cd10 (by decide))) (Or.inl rfl) (by decide)⟩
  · refine zfn 6 X0 hx (D d20_3) ((if0 _ _).trans (flt cd1).1) ?_
    refine zic 7 0 X0 hx (D d20_6) ?_
    refine zsn 8 #[iv x, iv 0, .unset, .unset] X0 hx (D d20_7) ?_
    refine zin 9 X0 hx (D d20_8) rfl ?_
    refine Go.st (f' := (mkF m 10 #[iv x, iv 0, .unset, .unset] [(.int (-x))])) (fun _ k => XS.ineg X0.here hx rfl (D d20_9) rfl k) ?_
    refine zsn 11 #[.val (.int (-x)), iv 0, .unset, .unset] X0 hx (D d20_10) ?_
    refine zbp 13 (-10) X0 hx (D d20_11) ?_
    refine zsn 14 #[.val (.int (-x)), iv 0, .val (.int (-10)), .unset] X0 hx (D d20_13) ?_
    refine zic 15 1 X0 hx (D d20_14) ?_
    refine zsn 16 #[.val (.int (-x)), iv 0, .val (.int (-10)), iv 1] X0 hx (D d20_15) ?_
    refine zin 17 X0 hx (D d20_16) rfl ?_
    refine zbp 19 10 X0 hx (D d20_17) ?_
    refine zcn 22 X0 hx (D d20_19) (by decide) ?_
    refine zin 23 X0 hx (D d20_22) rfl ?_
    refine zin 24 X0 hx (D d20_23) rfl ?_
    by_cases cd11 : (-10 : Int32) < (-x)
    · refine zcn 27 X0 hx (D d20_24) (tlt cd11).2.2.2 ?_
      refine zin 28 X0 hx (D d20_27) rfl ?_
      refine zin 29 X0 hx (D d20_28) rfl ?_
      refine Go.st (f' := (mkF m 30 #[.val (.int (-x)), iv 0, .val (.int (-10)), iv 1] [(.int 1)])) (fun _ k => XS.iadd X0.here hx rfl (D d20_29) rfl k) ?_
      refine Go.retV X0 hlk hx (t := .int) hret rfl (Or.inl ⟨rfl, Or.inl rfl, _, rfl⟩) (D d20_30) e0 ?_ (by decide) (by decide)
      exact ⟨_, rfl, N0, rfl, own_szP 1 cd1 (by decide) (by decide) (Or.inl rfl) (Or.inr (own_gt cd11 (by decide))) (by decide)⟩
    · refine zcy 31 X0 hx (D d20_24) (flt cd11).2.2.2 ?_
      refine zbp 33 10 X0 hx (D d20_31) ?_
      refine zin 34 X0 hx (D d20_33) rfl ?_
      refine Go.st (f' := (mkF m 35 #[.val (.int (-x)), iv 0, .val (.int (-10)), iv 1] [(.int (-100))])) (fun _ k => XS.imul X0.here hx rfl (D d20_34) rfl k) ?_
      refine zsn 36 #[.val (.int (-x)), iv 0, .val (.int (-100)), iv 1] X0 hx (D d20_35) ?_
      refine zii 39 #[.val (.int (-x)), iv 0, .val (.int (-100)), iv 2] X0 hx (D d20_36) rfl ?_
      refine zgo 16 X0 hx (D d20_39) ?_
      refine zin 17 X0 hx (D d20_16) rfl ?_
      refine zbp 19 10 X0 hx (D d20_17) ?_
      refine zcn 22 X0 hx (D d20_19) (by decide) ?_
      refine zin 23 X0 hx (D d20_22) rfl ?_
      refine zin 24 X0 hx (D d20_23) rfl ?_
      by_cases cd12 : (-100 : Int32) < (-x)
      · refine zcn 27 X0 hx (D d20_24) (tlt cd12).2.2.2 ?_
        refine zin 28 X0 hx (D d20_27) rfl ?_
        refine zin 29 X0 hx (D d20_28) rfl ?_
        refine Go.st (f' := (mkF m 30 #[.val (.int (-x)), iv 0, .val (.int (-100)), iv 2] [(.int 2)])) (fun _ k => XS.iadd X0.here hx rfl (D d20_29) rfl k) ?_
        refine Go.retV X0 hlk hx (t := .int) hret rfl (Or.inl ⟨rfl, Or.inl rfl, _, rfl⟩) (D d20_30) e0 ?_ (by decide) (by decide)
        exact ⟨_, rfl, N0, rfl, own_szP 2 cd1 (by decide) (by decide) (Or.inr (own_ge cd11 (by decide))) (Or.inr (own_gt cd12 (by decide))) (by decide)⟩
      · refine zcy 31 X0 hx (D d20_24) (flt cd12).2.2.2 ?_
        refine zbp 33 10 X0 hx (D d20_31) ?_
        refine zin 34 X0 hx (D d20_33) rfl ?_
        refine Go.st (f' := (mkF m 35 #[.val (.int (-x)), iv 0, .val (.int (-100)), iv 2] [(.int (-1000))])) (fun _ k => XS.imul X0.here hx rfl (D d20_34) rfl k) ?_
        refine zsn 36 #[.val (.int (-x)), iv 0, .val (.int (-1000)), iv 2] X0 hx (D d20_35) ?_
        refine zii 39 #[.val (.int (-x)), iv 0, .val (.int (-1000)), iv 3] X0 hx (D d20_36) rfl ?_
        refine zgo 16 X0 hx (D d20_39) ?_
        refine zin 17 X0 hx (D d20_16) rfl ?_
        refine zbp 19 10 X0 hx (D d20_17) ?_
        refine zcn 22 X0 hx (D d20_19) (by decide) ?_
        refine zin 23 X0 hx (D d20_22) rfl ?_
        refine zin 24 X0 hx (D d20_23) rfl ?_
        by_cases cd13 : (-1000 : Int32) < (-x)
        · refine zcn 27 X0 hx (D d20_24) (tlt cd13).2.2.2 ?_
          refine zin 28 X0 hx (D d20_27) rfl ?_
          refine zin 29 X0 hx (D d20_28) rfl ?_
          refine Go.st (f' := (mkF m 30 #[.val (.int (-x)), iv 0, .val (.int (-1000)), iv 3] [(.int 3)])) (fun _ k => XS.iadd X0.here hx rfl (D d20_29) rfl k) ?_
          refine Go.retV X0 hlk hx (t := .int) hret rfl (Or.inl ⟨rfl, Or.inl rfl, _, rfl⟩) (D d20_30) e0 ?_ (by decide) (by decide)
          exact ⟨_, rfl, N0, rfl, own_szP 3 cd1 (by decide) (by decide) (Or.inr (own_ge cd12 (by decide))) (Or.inr (own_gt cd13 (by decide))) (by decide)⟩
        · refine zcy 31 X0 hx (D d20_24) (flt cd13).2.2.2 ?_
          refine zbp 33 10 X0 hx (D d20_31) ?_
          refine zin 34 X0 hx (D d20_33) rfl ?_
          refine Go.st (f' := (mkF m 35 #[.val (.int (-x)), iv 0, .val (.int (-1000)), iv 3] [(.int (-10000))])) (fun _ k => XS.imul X0.here hx rfl (D d20_34) rfl k) ?_
          refine zsn 36 #[.val (.int (-x)), iv 0, .val (.int (-10000)), iv 3] X0 hx (D d20_35) ?_
          refine zii 39 #[.val (.int (-x)), iv 0, .val (.int (-10000)), iv 4] X0 hx (D d20_36) rfl ?_
          refine zgo 16 X0 hx (D d20_39) ?_
          refine zin 17 X0 hx (D d20_16) rfl ?_
          refine zbp 19 10 X0 hx (D d20_17) ?_
          refine zcn 22 X0 hx (D d20_19) (by decide) ?_
          refine zin 23 X0 hx (D d20_22) rfl ?_
          refine zin 24 X0 hx (D d20_23) rfl ?_
          by_cases cd14 : (-10000 : Int32) < (-x)
          · refine zcn 27 X0 hx (D d20_24) (tlt cd14).2.2.2 ?_
            refine zin 28 X0 hx (D d20_27) rfl ?_
            refine zin 29 X0 hx (D d20_28) rfl ?_
            refine Go.st (f' := (mkF m 30 #[.val (.int (-x)), iv 0, .val (.int (-10000)), iv 4] [(.int 4)])) (fun _ k => XS.iadd X0.here hx rfl (D d20_29) rfl k) ?_
            refine Go.retV X0 hlk hx (t := .int) hret rfl (Or.inl ⟨rfl, Or.inl rfl, _, rfl⟩) (D d20_30) e0 ?_ (by decide) (by decide)
            exact ⟨_, rfl, N0, rfl, own_szP 4 cd1 (by decide) (by decide) (Or.inr (own_ge cd13 (by decide))) (Or.inr (own_gt cd14 (by decide))) (by decide)⟩
          · refine zcy 31 X0 hx (D d20_24) (flt cd14).2.2.2 ?_
            refine zbp 33 10 X0 hx (D d20_31) ?_
            refine zin 34 X0 hx (D d20_33) rfl ?_
            refine Go.st (f' := (mkF m 35 #[.val (.int (-x)), iv 0, .val (.int (-10000)), iv 4] [(.int (-100000))])) (fun _ k => XS.imul X0.here hx rfl (D d20_34) rfl k) ?_
            refine zsn 36 #[.val (.int (-x)), iv 0, .val (.int (-100000)), iv 4] X0 hx (D d20_35) ?_
            refine zii 39 #[.val (.int (-x)), iv 0, .val (.int (-100000)), iv 5] X0 hx (D d20_36) rfl ?_
            refine zgo 16 X0 hx (D d20_39) ?_
            refine zin 17 X0 hx (D d20_16) rfl ?_
            refine zbp 19 10 X0 hx (D d20_17) ?_
            refine zcn 22 X0 hx (D d20_19) (by decide) ?_
            refine zin 23 X0 hx (D d20_22) rfl ?_
            refine zin 24 X0 hx (D d20_23) rfl ?_
            by_cases cd15 : (-100000 : Int32) < (-x)
            · refine zcn 27 X0 hx (D d20_24) (tlt cd15).2.2.2 ?_
              refine zin 28 X0 hx (D d20_27) rfl ?_
              refine zin 29 X0 hx (D d20_28) rfl ?_
              refine Go.st (f' := (mkF m 30 #[.val (.int (-x)), iv 0, .val (.int (-100000)), iv 5] [(.int 5)])) (fun _ k => XS.iadd X0.here hx rfl (D d20_29) rfl k) ?_
              refine Go.retV X0 hlk hx (t := .int) hret rfl (Or.inl ⟨rfl, Or.inl rfl, _, rfl⟩) (D d20_30) e0 ?_ (by decide) (by decide)
              exact ⟨_, rfl, N0, rfl, own_szP 5 cd1 (by decide) (by decide) (Or.inr (own_ge cd14 (by decide))) (Or.inr (own_gt cd15 (by decide))) (by decide)⟩
            · refine zcy 31 X0 hx (D d20_24) (flt cd15).2.2.2 ?_
              refine zbp 33 10 X0 hx (D d20_31) ?_
              refine zin 34 X0 hx (D d20_33) rfl ?_
              refine Go.st (f' := (mkF m 35 #[.val (.int (-x)), iv 0, .val (.int (-100000)), iv 5] [(.int (-1000000))])) (fun _ k => XS.imul X0.here hx rfl (D d20_34) rfl k) ?_
              refine zsn 36 #[.val (.int (-x)), iv 0, .val (.int (-1000000)), iv 5] X0 hx (D d20_35) ?_
              refine zii 39 #[.val (.int (-x)), iv 0, .val (.int (-1000000)), iv 6] X0 hx (D d20_36) rfl ?_
              refine zgo 16 X0 hx (D d20_39) ?_
              refine zin 17 X0 hx (D d20_16) rfl ?_
              refine zbp 19 10 X0 hx (D d20_17) ?_
              refine zcn 22 X0 hx (D d20_19) (by decide) ?_
              refine zin 23 X0 hx (D d20_22) rfl ?_
              refine zin 24 X0 hx (D d20_23) rfl ?_
              by_cases cd16 : (-1000000 : Int32) < (-x)
              · refine zcn 27 X0 hx (D d20_24) (tlt cd16).2.2.2 ?_
                refine zin 28 X0 hx (D d20_27) rfl ?_
                refine zin 29 X0 hx (D d20_28) rfl ?_
                refine Go.st (f' := (mkF m 30 #[.val (.int (-x)), iv 0, .val (.int (-1000000)), iv 6] [(.int 6)])) (fun _ k => XS.iadd X0.here hx rfl (D d20_29) rfl k) ?_
                refine Go.retV X0 hlk hx (t := .int) hret rfl (Or.inl ⟨rfl, Or.inl rfl, _, rfl⟩) (D d20_30) e0 ?_ (by decide) (by decide)
                exact ⟨_, rfl, N0, rfl, own_szP 6 cd1 (by decide) (by decide) (Or.inr (own_ge cd15 (by decide))) (Or.inr (own_gt cd16 (by decide))) (by decide)⟩
              · refine zcy 31 X0 hx (D d20_24) (flt cd16).2.2.2 ?_
                refine zbp 33 10 X0 hx (D d20_31) ?_
                refine zin 34 X0 hx (D d20_33) rfl ?_
                refine Go.st (f' := (mkF m 35 #[.val (.int (-x)), iv 0, .val (.int (-1000000)), iv 6] [(.int (-10000000))])) (fun _ k => XS.imul X0.here hx rfl (D d20_34) rfl k) ?_
                refine zsn 36 #[.val (.int (-x)), iv 0, .val (.int (-10000000)), iv 6] X0 hx (D d20_35) ?_
                refine zii 39 #[.val (.int (-x)), iv 0, .val (.int (-10000000)), iv 7] X0 hx (D d20_36) rfl ?_
                refine zgo 16 X0 hx (D d20_39) ?_
                refine zin 17 X0 hx (D d20_16) rfl ?_
                refine zbp 19 10 X0 hx (D d20_17) ?_
                refine zcn 22 X0 hx (D d20_19) (by decide) ?_
                refine zin 23 X0 hx (D d20_22) rfl ?_
                refine zin 24 X0 hx (D d20_23) rfl ?_
                by_cases cd17 : (-10000000 : Int32) < (-x)
                · refine zcn 27 X0 hx (D d20_24) (tlt cd17).2.2.2 ?_
                  refine zin 28 X0 hx (D d20_27) rfl ?_
                  refine zin 29 X0 hx (D d20_28) rfl ?_
                  refine Go.st (f' := (mkF m 30 #[.val (.int (-x)), iv 0, .val (.int (-10000000)), iv 7] [(.int 7)])) (fun _ k => XS.iadd X0.here hx rfl (D d20_29) rfl k) ?_
                  refine Go.retV X0 hlk hx (t := .int) hret rfl (Or.inl ⟨rfl, Or.inl rfl, _, rfl⟩) (D d20_30) e0 ?_ (by decide) (by decide)
                  exact ⟨_, rfl, N0, rfl, own_szP 7 cd1 (by decide) (by decide) (Or.inr (own_ge cd16 (by decide))) (Or.inr (own_gt cd17 (by decide))) (by decide)⟩
                · refine zcy 31 X0 hx (D d20_24) (flt cd17).2.2.2 ?_
                  refine zbp 33 10 X0 hx (D d20_31) ?_
                  refine zin 34 X0 hx (D d20_33) rfl ?_
                  refine Go.st (f' := (mkF m 35 #[.val (.int (-x)), iv 0, .val (.int (-10000000)), iv 7] [(.int (-100000000))])) (fun _ k => XS.imul X0.here hx rfl (D d20_34) rfl k) ?_
                  refine zsn 36 #[.val (.int (-x)), iv 0, .val (.int (-100000000)), iv 7] X0 hx (D d20_35) ?_
                  refine zii 39 #[.val (.int (-x)), iv 0, .val (.int (-100000000)), iv 8] X0 hx (D d20_36) rfl ?_
                  refine zgo 16 X0 hx (D d20_39) ?_
                  refine zin 17 X0 hx (D d20_16) rfl ?_
                  refine zbp 19 10 X0 hx (D d20_17) ?_
                  refine zcn 22 X0 hx (D d20_19) (by decide) ?_
                  refine zin 23 X0 hx (D d20_22) rfl ?_
                  refine zin 24 X0 hx (D d20_23) rfl ?_
                  by_cases cd18 : (-100000000 : Int32) < (-x)
                  · refine zcn 27 X0 hx (D d20_24) (tlt cd18).2.2.2 ?_
                    refine zin 28 X0 hx (D d20_27) rfl ?_
                    refine zin 29 X0 hx (D d20_28) rfl ?_
                    refine Go.st (f' := (mkF m 30 #[.val (.int (-x)), iv 0, .val (.int (-100000000)), iv 8] [(.int 8)])) (fun _ k => XS.iadd X0.here hx rfl (D d20_29) rfl k) ?_
                    refine Go.retV X0 hlk hx (t := .int) hret rfl (Or.inl ⟨rfl, Or.inl rfl, _, rfl⟩) (D d20_30) e0 ?_ (by decide) (by decide)
                    exact ⟨_, rfl, N0, rfl, own_szP 8 cd1 (by decide) (by decide) (Or.inr (own_ge cd17 (by decide))) (Or.inr (own_gt cd18 (by decide))) (by decide)⟩
                  · refine zcy 31 X0 hx (D d20_24) (flt cd18).2.2.2 ?_
                    refine zbp 33 10 X0 hx (D d20_31) ?_
                    refine zin 34 X0 hx (D d20_33) rfl ?_
                    refine Go.st (f' := (mkF m 35 #[.val (.int (-x)), iv 0, .val (.int (-100000000)), iv 8] [(.int (-1000000000))])) (fun _ k => XS.imul X0.here hx rfl (D d20_34) rfl k) ?_
                    refine zsn 36 #[.val (.int (-x)), iv 0, .val (.int (-1000000000)), iv 8] X0 hx (D d20_35) ?_
                    refine zii 39 #[.val (.int (-x)), iv 0, .val (.int (-1000000000)), iv 9] X0 hx (D d20_36) rfl ?_
                    refine zgo 16 X0 hx (D d20_39) ?_
                    refine zin 17 X0 hx (D d20_16) rfl ?_
                    refine zbp 19 10 X0 hx (D d20_17) ?_
                    refine zcn 22 X0 hx (D d20_19) (by decide) ?_
                    refine zin 23 X0 hx (D d20_22) rfl ?_
                    refine zin 24 X0 hx (D d20_23) rfl ?_
                    by_cases cd19 : (-1000000000 : Int32) < (-x)
                    · refine zcn 27 X0 hx (D d20_24) (tlt cd19).2.2.2 ?_
                      refine zin 28 X0 hx (D d20_27) rfl ?_
                      refine zin 29 X0 hx (D d20_28) rfl ?_
                      refine Go.st (f' := (mkF m 30 #[.val (.int (-x)), iv 0, .val (.int (-1000000000)), iv 9] [(.int 9)])) (fun _ k => XS.iadd X0.here hx rfl (D d20_29) rfl k) ?_
                      refine Go.retV X0 hlk hx (t := .int) hret rfl (Or.inl ⟨rfl, Or.inl rfl, _, rfl⟩) (D d20_30) e0 ?_ (by decide) (by decide)
                      exact ⟨_, rfl, N0, rfl, own_szP 9 cd1 (by decide) (by decide) (Or.inr (own_ge cd18 (by decide))) (Or.inr (own_gt cd19 (by decide))) (by decide)⟩
                    · refine zcy 31 X0 hx (D d20_24) (flt cd19).2.2.2 ?_
                      refine zbp 33 10 X0 hx (D d20_31) ?_
                      refine zin 34 X0 hx (D d20_33) rfl ?_
                      refine Go.st (f' := (mkF m 35 #[.val (.int (-x)), iv 0, .val (.int (-1000000000)), iv 9] [(.int (-1410065408))])) (fun _ k => XS.imul X0.here hx rfl (D d20_34) rfl k) ?_
                      refine zsn 36 #[.val (.int (-x)), iv 0, .val (.int (-1410065408)), iv 9] X0 hx (D d20_35) ?_
                      refine zii 39 #[.val (.int (-x)), iv 0, .val (.int (-1410065408)), iv 10] X0 hx (D d20_36) rfl ?_
                      refine zgo 16 X0 hx (D d20_39) ?_
                      refine zin 17 X0 hx (D d20_16) rfl ?_
                      refine zbp 19 10 X0 hx (D d20_17) ?_
                      refine zcy 42 X0 hx (D d20_19) (by decide) ?_
                      refine zbp 44 10 X0 hx (D d20_42) ?_
                      refine zin 45 X0 hx (D d20_44) rfl ?_
                      refine Go.st (f' := (mkF m 46 #[.val (.int (-x)), iv 0, .val (.int (-1410065408)), iv 10] [(.int 10)])) (fun _ k => XS.iadd X0.here hx rfl (D d20_45) rfl k) ?_
                      refine Go.retV X0 hlk hx (t := .int) hret rfl (Or.inl ⟨rfl, Or.inl rfl, _, rfl⟩) (D d20_46) e0 ?_ (by decide) (by decide)
                      exact ⟨_, rfl, N0, rfl, own_szP 10 cd1 (by decide) (by decide) (Or.inr (own_ge cd19 (by decide))) (Or.inl rfl) (by decide)⟩
theorem own_tb {f : Nat → Value} {j : Int32} {r : Nat} {d : Value} (h : j = Int32.ofNat r) (hr : r < 100) : ((List.range 100).map f).getD j.toNatClampNeg d = f r ∧ ¬ j < (0 : Int32) ∧ j < (100 : Int32) := by
  have e0 : (0 : Int32).toInt = 0 := by decide
  have e1 : (100 : Int32).toInt = 100 := by decide
  have t : j.toInt = (r : Int) := by rw [h]; exact Int32.toInt_ofNat_of_lt (by omega)
  have k : j.toNatClampNeg = r := by simp only [Int32.toNatClampNeg]; omega
  refine ⟨?_, ?_, ?_⟩
  · rw [k]; simp [List.getD, hr]
  · rw [Int32.lt_iff_toInt_lt]; omega
  · rw [Int32.lt_iff_toInt_lt]; omega
theorem own_nb {k : Nat} (h : k < 10) : nar .byte (Int32.ofNat (48 + k)) = Int32.ofNat (48 + k) := by
  have q : ∀ k : Fin 10, nar .byte (Int32.ofNat (48 + k.val)) = Int32.ofNat (48 + k.val) := by decide
  exact q ⟨k, h⟩
/-- es is xs with the w last of the number's digits before place I -/
def Jv (xs es : List Value) (n I w : Nat) : Prop := ∀ i, es.getD i (.int (0 : Int32)) = if I - w ≤ i ∧ i < I then dgv n (I - 1 - i) else xs.getD i (.int (0 : Int32))
theorem Jv.zero {xs : List Value} {n I : Nat} : Jv xs xs n I 0 := fun i => by rw [if_neg (by omega)]
theorem Jv.put {xs es : List Value} {n I w k : Nat} {v : Value} (h : Jv xs es n I w) (hw : w + 1 ≤ I) (hk : k = I - w - 1) (hv : v = dgv n w) : Jv xs (lput es k v (.int (0 : Int32))) n I (w + 1) := fun i => by
  rw [lput_getD]
  by_cases c : i = k
  · rw [if_pos c, if_pos (by omega), hv]; congr 1; omega
  · rw [if_neg c, h i]
    by_cases c2 : I - w ≤ i ∧ i < I
    · rw [if_pos c2, if_pos (by omega)]
    · rw [if_neg c2, if_neg (by omega)]
def Fx (x q1 c2 Y2 : Int32) (xs : List Value) : Prop := Ln c2 xs ∧ q1.toInt = c2.toInt + ((dsL x).length : Int) ∧ q1.toInt ≤ Y2.toInt ∧ Y2.toInt ≤ 200
/-- w digits stand; ps is where they begin; i is what is left of the number, negated -/
def Gp (x q1 i ps : Int32) (w : Nat) : Prop := i = Jvm.Free.SBG.negI (nAbs x / 10 ^ w) ∧ ps.toInt + (w : Int) = q1.toInt ∧ w + dgs (nAbs x / 10 ^ w) = dgs (nAbs x)
theorem gp_m (x : Int32) (w : Nat) : nAbs x / 10 ^ w ≤ 2 ^ 31 := Nat.le_trans (Nat.div_le_self _ _) (nAbs_le x)
theorem gp_100 {x q1 i ps : Int32} {w : Nat} (G : Gp x q1 i ps w) : (-100 : Int32) < i ↔ nAbs x / 10 ^ w < 100 := by
  rw [G.1, show (-100 : Int32) = Jvm.Free.SBG.negI 100 by decide +kernel]; exact Jvm.Free.SBG.negI_lt (gp_m x w) 100 (by decide)
theorem gp_9 {x q1 i ps : Int32} {w : Nat} (G : Gp x q1 i ps w) : i < (-9 : Int32) ↔ 9 < nAbs x / 10 ^ w := by
  have h1 := Jvm.Free.SBG.negI_toInt (gp_m x w)
  have e : (-9 : Int32).toInt = -9 := by decide
  rw [G.1, Int32.lt_iff_toInt_lt, h1, e]; generalize nAbs x / 10 ^ w = m; omega
theorem gp_pos {x q1 c2 Y2 ps : Int32} {xs : List Value} {w : Nat} (F : Fx x q1 c2 Y2 xs) (hp : ps.toInt + (w : Int) = q1.toInt) (hw : w + 1 ≤ (dsL x).length) : (¬ (ps + (-1 : Int32)) < (0 : Int32) ∧ (ps + (-1 : Int32)) < Y2) ∧ (ps + (-1 : Int32)).toNatClampNeg = q1.toNatClampNeg - w - 1 ∧ w + 1 ≤ q1.toNatClampNeg ∧ (ps + (-1 : Int32)).toInt + ((w + 1 : Nat) : Int) = q1.toInt := by
  obtain ⟨l, h1, h2, h3⟩ := F
  have l1 := l.1
  have b : 0 ≤ ps.toInt - 1 ∧ ps.toInt - 1 < 200 ∧ ps.toInt - 1 < Y2.toInt := by omega
  have hs : (ps + (-1 : Int32)).toInt = ps.toInt - 1 := by
    have a := c_iadd ps (-1)
    have r := rng32 (ps + (-1))
    have e : (-1 : Int32).toInt = -1 := by decide
    rw [e] at a
    clear hp hw h1 h2 h3 l1
    omega
  have e0 : (0 : Int32).toInt = 0 := by decide
  generalize (ps + (-1 : Int32)) = y at *
  refine ⟨⟨?_, ?_⟩, ?_, ?_, ?_⟩
  · rw [Int32.lt_iff_toInt_lt]; omega
  · rw [Int32.lt_iff_toInt_lt]; omega
  · simp only [Int32.toNatClampNeg]; omega
  · simp only [Int32.toNatClampNeg]; omega
  · omega
theorem dgs_1 {m : Nat} (h : m < 10) : dgs m = 1 := dgk1 h
theorem dgs_2 {m : Nat} (h : ¬ m < 10) (g : m < 100) : dgs m = 2 := dgk2 (by omega) g
theorem dgs_100 {m : Nat} (h : ¬ m < 100) (g : m ≤ 2 ^ 31) : dgs m = dgs (m / 100) + 2 := by
  rcases (by omega : m < 1000 ∨ (1000 ≤ m ∧ m < 10000) ∨ (10000 ≤ m ∧ m < 100000) ∨ (100000 ≤ m ∧ m < 1000000) ∨ (1000000 ≤ m ∧ m < 10000000) ∨ (10000000 ≤ m ∧ m < 100000000) ∨ (100000000 ≤ m ∧ m < 1000000000) ∨ 1000000000 ≤ m) with h1 | h1 | h1 | h1 | h1 | h1 | h1 | h1
  · rw [dgk3 (by omega) h1, dgk1 (by omega)]
  · rw [dgk4 h1.1 h1.2, dgk2 (by omega) (by omega)]
  · rw [dgk5 h1.1 h1.2, dgk3 (by omega) (by omega)]
  · rw [dgk6 h1.1 h1.2, dgk4 (by omega) (by omega)]
  · rw [dgk7 h1.1 h1.2, dgk5 (by omega) (by omega)]
  · rw [dgk8 h1.1 h1.2, dgk6 (by omega) (by omega)]
  · rw [dgk9 h1.1 h1.2, dgk7 (by omega) (by omega)]
  · rw [dgk10 h1, dgk8 (by omega) (by omega)]
theorem dsL_ge (x : Int32) : dgs (nAbs x) ≤ (dsL x).length := by rw [dsL_len]; omega
theorem ar1 {w A B N L : Nat} (d1 : A = B + 2) (g3 : w + A = N) (b : 1 ≤ B) (dl : N ≤ L) : w + 1 ≤ L ∧ w + 1 + 1 ≤ L ∧ w + 2 + B = N := by omega
theorem ar2 {w A N L : Nat} (g3 : w + A = N) (b : 1 ≤ A) (dl : N ≤ L) : w + 1 ≤ L := by omega
theorem ar3 (m : Nat) : m % 100 % 10 = m % 10 := by omega
theorem ar4 (m : Nat) : m % 100 / 10 = m / 10 % 10 := by omega
theorem ar5 {w A N L : Nat} (g3 : w + A = N) (b : A = 2) (dl : N ≤ L) : w + 1 + 1 ≤ L ∧ N = w + 1 + 1 := by omega
theorem ar6 {w A N : Nat} (g3 : w + A = N) (b : A = 1) : N = w + 1 := by omega
theorem ar7 {m : Nat} (h : m < 100) : m / 10 < 10 := by omega
theorem ar8 {m : Nat} (h : 9 < m) : ¬ m < 10 := by omega
theorem ar9 {m : Nat} (h : ¬ 9 < m) : m < 10 := by omega
theorem ar10 {m : Nat} (h : m < 100) : m < 2 ^ 31 := by omega
/-- one round of the loop: two digits -/
theorem gp_step {x q1 c2 Y2 i ps : Int32} {w : Nat} {xs es : List Value} (F : Fx x q1 c2 Y2 xs) (G : Gp x q1 i ps w) (J : Jv xs es (nAbs x) q1.toNatClampNeg w) (h : ¬ nAbs x / 10 ^ w < 100) {a b : Int32} (ha : a = i / (100 : Int32)) (hb : b = ((a * (100 : Int32)) - i)) :
    b = Int32.ofNat (nAbs x / 10 ^ w % 100) ∧ (¬ (ps + (-1 : Int32)) < (0 : Int32) ∧ (ps + (-1 : Int32)) < Y2) ∧ (¬ ((ps + (-1 : Int32)) + (-1 : Int32)) < (0 : Int32) ∧ ((ps + (-1 : Int32)) + (-1 : Int32)) < Y2) ∧ Gp x q1 a ((ps + (-1 : Int32)) + (-1 : Int32)) (w + 2) ∧
    Jv xs (lput (lput es (ps + (-1 : Int32)).toNatClampNeg (.int (nar .byte (Int32.ofNat (48 + nAbs x / 10 ^ w % 100 % 10)))) (.int (0 : Int32))) ((ps + (-1 : Int32)) + (-1 : Int32)).toNatClampNeg (.int (nar .byte (Int32.ofNat (48 + nAbs x / 10 ^ w % 100 / 10)))) (.int (0 : Int32))) (nAbs x) q1.toNatClampNeg (w + 2) := by
  have gm := gp_m x w
  have d1 := dgs_100 h gm
  have d2 := dgs_b (nAbs x / 10 ^ w / 100)
  have dl := dsL_ge x
  obtain ⟨g1, g2, g3⟩ := G
  have ar := ar1 d1 g3 d2.1 dl
  have p1 := gp_pos F g2 ar.1
  have p2 := gp_pos F p1.2.2.2 ar.2.1
  have ea : a = Jvm.Free.SBG.negI (nAbs x / 10 ^ w / 100) := by rw [ha, g1]; exact Jvm.Free.SBG.negI_div100 gm
  have eq2 : nAbs x / 10 ^ (w + 2) = nAbs x / 10 ^ w / 100 := by rw [Nat.pow_add, ← Nat.div_div_eq_div_mul]
  have eq1 : nAbs x / 10 ^ (w + 1) = nAbs x / 10 ^ w / 10 := by rw [Nat.pow_add, ← Nat.div_div_eq_div_mul]
  have m1 : nAbs x / 10 ^ w % 100 % 10 = nAbs x / 10 ^ w % 10 := ar3 _
  have m2 : nAbs x / 10 ^ w % 100 / 10 = nAbs x / 10 ^ (w + 1) % 10 := by rw [eq1]; exact ar4 _
  refine ⟨by rw [hb, ea, g1]; exact Jvm.Free.SBG.negI_rem gm, p1.1, p2.1, ⟨by rw [eq2]; exact ea, p2.2.2.2, by rw [eq2]; exact ar.2.2⟩, ?_⟩
  refine Jv.put (Jv.put J p1.2.2.1 p1.2.1 ?_) p2.2.2.1 p2.2.1 ?_
  · rw [own_nb (Nat.mod_lt _ (by decide)), m1]; rfl
  · rw [m2, own_nb (Nat.mod_lt _ (by decide))]; rfl
/-- the way out: one digit more, or two -/
theorem gp_out {x q1 c2 Y2 i ps : Int32} {w : Nat} {xs es : List Value} (F : Fx x q1 c2 Y2 xs) (G : Gp x q1 i ps w) (J : Jv xs es (nAbs x) q1.toNatClampNeg w) (h : nAbs x / 10 ^ w < 100) :
    (-i) = Int32.ofNat (nAbs x / 10 ^ w) ∧ (¬ (ps + (-1 : Int32)) < (0 : Int32) ∧ (ps + (-1 : Int32)) < Y2) ∧ Jv xs (lput es (ps + (-1 : Int32)).toNatClampNeg (.int (nar .byte (Int32.ofNat (48 + nAbs x / 10 ^ w % 10)))) (.int (0 : Int32))) (nAbs x) q1.toNatClampNeg (w + 1) ∧ (ps + (-1 : Int32)).toInt + ((w + 1 : Nat) : Int) = q1.toInt := by
  obtain ⟨g1, g2, g3⟩ := G
  have dl := dsL_ge x
  have d2 := dgs_b (nAbs x / 10 ^ w)
  have p1 := gp_pos F g2 (ar2 g3 d2.1 dl)
  refine ⟨by rw [g1]; exact Jvm.Free.SBG.neg_negI (ar10 h), p1.1, Jv.put J p1.2.2.1 p1.2.1 ?_, p1.2.2.2⟩
  rw [own_nb (Nat.mod_lt _ (by decide))]; rfl
theorem gp_out2 {x q1 c2 Y2 i ps : Int32} {w : Nat} {xs es : List Value} (F : Fx x q1 c2 Y2 xs) (G : Gp x q1 i ps w) (h : nAbs x / 10 ^ w < 100) (h9 : 9 < nAbs x / 10 ^ w) (J : Jv xs es (nAbs x) q1.toNatClampNeg (w + 1)) (hp : (ps + (-1 : Int32)).toInt + ((w + 1 : Nat) : Int) = q1.toInt) :
    (¬ ((ps + (-1 : Int32)) + (-1 : Int32)) < (0 : Int32) ∧ ((ps + (-1 : Int32)) + (-1 : Int32)) < Y2) ∧ Jv xs (lput es ((ps + (-1 : Int32)) + (-1 : Int32)).toNatClampNeg (.int (nar .byte (Int32.ofNat (48 + nAbs x / 10 ^ w / 10)))) (.int (0 : Int32))) (nAbs x) q1.toNatClampNeg (dgs (nAbs x)) ∧ ((ps + (-1 : Int32)) + (-1 : Int32)).toInt + ((dgs (nAbs x) : Nat) : Int) = q1.toInt := by
  obtain ⟨g1, g2, g3⟩ := G
  have dl := dsL_ge x
  have d2 := dgs_2 (m := nAbs x / 10 ^ w) (ar8 h9) h
  have ar := ar5 g3 d2 dl
  have p2 := gp_pos F hp ar.1
  have ew : dgs (nAbs x) = w + 1 + 1 := ar.2
  have eq1 : nAbs x / 10 ^ (w + 1) = nAbs x / 10 ^ w / 10 := by rw [Nat.pow_add, ← Nat.div_div_eq_div_mul]
  rw [ew]
  refine ⟨p2.1, Jv.put J p2.2.2.1 p2.2.1 ?_, p2.2.2.2⟩
  rw [own_nb (ar7 h)]; unfold dgv; rw [eq1, Nat.mod_eq_of_lt (ar7 h)]
theorem gp_out1 {x q1 i ps : Int32} {w : Nat} {xs es : List Value} (G : Gp x q1 i ps w) (h9 : ¬ 9 < nAbs x / 10 ^ w) (J : Jv xs es (nAbs x) q1.toNatClampNeg (w + 1)) (hp : (ps + (-1 : Int32)).toInt + ((w + 1 : Nat) : Int) = q1.toInt) :
    Jv xs es (nAbs x) q1.toNatClampNeg (dgs (nAbs x)) ∧ (ps + (-1 : Int32)).toInt + ((dgs (nAbs x) : Nat) : Int) = q1.toInt := by
  obtain ⟨g1, g2, g3⟩ := G
  have d1 := dgs_1 (m := nAbs x / 10 ^ w) (ar9 h9)
  have ew : dgs (nAbs x) = w + 1 := ar6 g3 d1
  rw [ew]; exact ⟨J, hp⟩
theorem gp_sgn {x q1 c2 Y2 ps : Int32} {xs : List Value} (F : Fx x q1 c2 Y2 xs) (hx : x < 0) (hp : ps.toInt + ((dgs (nAbs x) : Nat) : Int) = q1.toInt) : ¬ (ps + (-1 : Int32)) < (0 : Int32) ∧ (ps + (-1 : Int32)) < Y2 := (gp_pos F hp (by rw [dsL_len, if_pos hx]; omega)).1
theorem dsL_at (x : Int32) (j : Nat) (d : Value) (hj : j < dgs (nAbs x)) : (dsL x).getD ((if x < 0 then 1 else 0) + j) d = dgv (nAbs x) (dgs (nAbs x) - 1 - j) := by
  unfold dsL
  simp only [List.getD_eq_getElem?_getD]
  split
  · rw [List.getElem?_append_right (by simp)]
    simp [hj]
  · simp [hj]
theorem gp_finP {x q1 c2 Y2 : Int32} {xs es : List Value} (F : Fx x q1 c2 Y2 xs) (hx : ¬ x < 0) (J : Jv xs es (nAbs x) q1.toNatClampNeg (dgs (nAbs x))) (i : Nat) : (xs ++ dsL x).getD i (.int (0 : Int32)) = es.getD i (.int (0 : Int32)) := by
  obtain ⟨l, h1, h2, h3⟩ := F
  have l1 := l.1
  have l2 := l.2
  have hl := dsL_len x
  rw [if_neg hx] at hl
  have hI : q1.toNatClampNeg = xs.length + dgs (nAbs x) := by simp only [Int32.toNatClampNeg]; omega
  rw [J i, hI]
  by_cases c0 : i < xs.length
  · rw [if_neg (by omega)]; simp only [List.getD_eq_getElem?_getD]; rw [List.getElem?_append_left c0]
  · obtain ⟨j, rfl⟩ : ∃ j, i = xs.length + j := ⟨i - xs.length, by omega⟩
    have e : (xs ++ dsL x).getD (xs.length + j) (.int (0 : Int32)) = (dsL x).getD j (.int (0 : Int32)) := by simp only [List.getD_eq_getElem?_getD]; rw [List.getElem?_append_right (by omega), show xs.length + j - xs.length = j by omega]
    rw [e]
    by_cases c1 : j < dgs (nAbs x)
    · have q := dsL_at x j (.int (0 : Int32)) c1
      rw [if_neg hx, Nat.zero_add] at q
      rw [q, if_pos (by omega)]; congr 1; omega
    · rw [if_neg (by omega)]; simp only [List.getD_eq_getElem?_getD]; rw [List.getElem?_eq_none (by omega), List.getElem?_eq_none (by omega)]
theorem gp_finN {x q1 c2 Y2 ps : Int32} {xs es : List Value} (F : Fx x q1 c2 Y2 xs) (hx : x < 0) (J : Jv xs es (nAbs x) q1.toNatClampNeg (dgs (nAbs x))) (hp : ps.toInt + ((dgs (nAbs x) : Nat) : Int) = q1.toInt) (i : Nat) : (xs ++ dsL x).getD i (.int (0 : Int32)) = (lput es (ps + (-1 : Int32)).toNatClampNeg (.int (45 : Int32)) (.int (0 : Int32))).getD i (.int (0 : Int32)) := by
  have hl := dsL_len x
  rw [if_pos hx] at hl
  have p := gp_pos F hp (by omega)
  obtain ⟨l, h1, h2, h3⟩ := F
  have l1 := l.1
  have l2 := l.2
  have hI : q1.toNatClampNeg = xs.length + dgs (nAbs x) + 1 := by simp only [Int32.toNatClampNeg]; omega
  rw [p.2.1, lput_getD, J i, hI]
  by_cases c0 : i < xs.length
  · rw [if_neg (by omega), if_neg (by omega)]; simp only [List.getD_eq_getElem?_getD]; rw [List.getElem?_append_left c0]
  · obtain ⟨j, rfl⟩ : ∃ j, i = xs.length + j := ⟨i - xs.length, by omega⟩
    have e : (xs ++ dsL x).getD (xs.length + j) (.int (0 : Int32)) = (dsL x).getD j (.int (0 : Int32)) := by simp only [List.getD_eq_getElem?_getD]; rw [List.getElem?_append_right (by omega), show xs.length + j - xs.length = j by omega]
    rw [e]
    rcases j with _ | j
    · rw [if_pos (by omega)]; unfold dsL; rw [if_pos hx]; rfl
    · rw [if_neg (by omega)]
      by_cases c1 : j < dgs (nAbs x)
      · have q := dsL_at x j (.int (0 : Int32)) c1
        rw [if_pos hx, Nat.add_comm] at q
        rw [q, if_pos (by omega)]; congr 1; omega
      · rw [if_neg (by omega)]; simp only [List.getD_eq_getElem?_getD]; rw [List.getElem?_eq_none (by omega), List.getElem?_eq_none (by omega)]
theorem gp_start {x q1 : Int32} : Gp x q1 (if x < 0 then x else -x) q1 0 := by
  refine ⟨?_, by omega, by rw [Nat.pow_zero, Nat.div_one]; omega⟩
  rw [Nat.pow_zero, Nat.div_one, ← Int32.toInt_inj, Jvm.Free.SBG.negI_toInt (nAbs_le x)]
  by_cases h : x < 0
  · rw [if_pos h]; rw [Int32.lt_iff_toInt_lt] at h; have e0 : (0 : Int32).toInt = 0 := by decide
    unfold nAbs; omega
  · rw [if_neg h]; have q := own_neg h; unfold nAbs; omega
theorem gp_fu {n w f : Nat} (h : n / 10 ^ w < 100 ^ (f + 1)) : n / 10 ^ (w + 2) < 100 ^ f := by
  rw [Nat.pow_add, ← Nat.div_div_eq_div_mul]; rw [Nat.pow_succ] at h
  exact Nat.div_lt_of_lt_mul (by show _ < 10 ^ 2 * _; rw [Nat.mul_comm]; exact h)
theorem gp_f0 {n w : Nat} (h : n / 10 ^ w < 100 ^ 0) : n / 10 ^ w < 100 := by rw [Nat.pow_zero] at h; omega
theorem gp_f5 (x : Int32) : nAbs x / 10 ^ 0 < 100 ^ (4 + 1) := by
  rw [Nat.pow_zero, Nat.div_one]; have := nAbs_le x
  have e : (100 : Nat) ^ (4 + 1) = 10000000000 := by decide
  omega
theorem d22_72 : decode jdk_33_method_12_code 72 = .ok (.aload_n 2, 1) := by decide +kernel
theorem d22_73 : decode jdk_33_method_12_code 73 = .ok (.iinc 5 (-1), 3) := by decide +kernel
theorem d22_76 : decode jdk_33_method_12_code 76 = .ok (.iload 5, 2) := by decide +kernel
theorem d22_78 : decode jdk_33_method_12_code 78 = .ok (.getstatic 83, 3) := by decide +kernel
theorem d22_81 : decode jdk_33_method_12_code 81 = .ok (.iload_n 0, 1) := by decide +kernel
theorem d22_82 : decode jdk_33_method_12_code 82 = .ok (.ineg, 1) := by decide +kernel
theorem d22_83 : decode jdk_33_method_12_code 83 = .ok (.baload, 1) := by decide +kernel
theorem d22_84 : decode jdk_33_method_12_code 84 = .ok (.bastore, 1) := by decide +kernel
theorem d22_85 : decode jdk_33_method_12_code 85 = .ok (.iload_n 0, 1) := by decide +kernel
theorem d22_86 : decode jdk_33_method_12_code 86 = .ok (.bipush (-9), 2) := by decide +kernel
theorem d22_88 : decode jdk_33_method_12_code 88 = .ok (.if_icmp .ge 16, 3) := by decide +kernel
theorem d22_91 : decode jdk_33_method_12_code 91 = .ok (.aload_n 2, 1) := by decide +kernel
theorem d22_92 : decode jdk_33_method_12_code 92 = .ok (.iinc 5 (-1), 3) := by decide +kernel
theorem d22_95 : decode jdk_33_method_12_code 95 = .ok (.iload 5, 2) := by decide +kernel
theorem d22_97 : decode jdk_33_method_12_code 97 = .ok (.getstatic 87, 3) := by decide +kernel
theorem d22_100 : decode jdk_33_method_12_code 100 = .ok (.iload_n 0, 1) := by decide +kernel
theorem d22_101 : decode jdk_33_method_12_code 101 = .ok (.ineg, 1) := by decide +kernel
theorem d22_102 : decode jdk_33_method_12_code 102 = .ok (.baload, 1) := by decide +kernel
theorem d22_103 : decode jdk_33_method_12_code 103 = .ok (.bastore, 1) := by decide +kernel
theorem d22_104 : decode jdk_33_method_12_code 104 = .ok (.iload 6, 2) := by decide +kernel
theorem d22_106 : decode jdk_33_method_12_code 106 = .ok (.ifCond .eq 12, 3) := by decide +kernel
theorem d22_118 : decode jdk_33_method_12_code 118 = .ok (.iload 5, 2) := by decide +kernel
theorem d22_120 : decode jdk_33_method_12_code 120 = .ok (.ireturn, 1) := by decide +kernel
theorem d22_109 : decode jdk_33_method_12_code 109 = .ok (.aload_n 2, 1) := by decide +kernel
theorem d22_110 : decode jdk_33_method_12_code 110 = .ok (.iinc 5 (-1), 3) := by decide +kernel
theorem d22_113 : decode jdk_33_method_12_code 113 = .ok (.iload 5, 2) := by decide +kernel
theorem d22_115 : decode jdk_33_method_12_code 115 = .ok (.bipush 45, 2) := by decide +kernel
theorem d22_117 : decode jdk_33_method_12_code 117 = .ok (.bastore, 1) := by decide +kernel
theorem d22_22 : decode jdk_33_method_12_code 22 = .ok (.iload_n 0, 1) := by decide +kernel
theorem d22_23 : decode jdk_33_method_12_code 23 = .ok (.bipush (-100), 2) := by decide +kernel
theorem d22_25 : decode jdk_33_method_12_code 25 = .ok (.if_icmp .gt 47, 3) := by decide +kernel
theorem d22_28 : decode jdk_33_method_12_code 28 = .ok (.iload_n 0, 1) := by decide +kernel
theorem d22_29 : decode jdk_33_method_12_code 29 = .ok (.bipush 100, 2) := by decide +kernel
theorem d22_31 : decode jdk_33_method_12_code 31 = .ok (.idiv, 1) := by decide +kernel
theorem d22_32 : decode jdk_33_method_12_code 32 = .ok (.istore_n 3, 1) := by decide +kernel
theorem d22_33 : decode jdk_33_method_12_code 33 = .ok (.iload_n 3, 1) := by decide +kernel
theorem d22_34 : decode jdk_33_method_12_code 34 = .ok (.bipush 100, 2) := by decide +kernel
theorem d22_36 : decode jdk_33_method_12_code 36 = .ok (.imul, 1) := by decide +kernel
theorem d22_37 : decode jdk_33_method_12_code 37 = .ok (.iload_n 0, 1) := by decide +kernel
theorem d22_38 : decode jdk_33_method_12_code 38 = .ok (.isub, 1) := by decide +kernel
theorem d22_39 : decode jdk_33_method_12_code 39 = .ok (.istore 4, 2) := by decide +kernel
theorem d22_41 : decode jdk_33_method_12_code 41 = .ok (.iload_n 3, 1) := by decide +kernel
theorem d22_42 : decode jdk_33_method_12_code 42 = .ok (.istore_n 0, 1) := by decide +kernel
theorem d22_43 : decode jdk_33_method_12_code 43 = .ok (.aload_n 2, 1) := by decide +kernel
theorem d22_44 : decode jdk_33_method_12_code 44 = .ok (.iinc 5 (-1), 3) := by decide +kernel
theorem d22_47 : decode jdk_33_method_12_code 47 = .ok (.iload 5, 2) := by decide +kernel
theorem d22_49 : decode jdk_33_method_12_code 49 = .ok (.getstatic 83, 3) := by decide +kernel
theorem d22_52 : decode jdk_33_method_12_code 52 = .ok (.iload 4, 2) := by decide +kernel
theorem d22_54 : decode jdk_33_method_12_code 54 = .ok (.baload, 1) := by decide +kernel
theorem d22_55 : decode jdk_33_method_12_code 55 = .ok (.bastore, 1) := by decide +kernel
theorem d22_56 : decode jdk_33_method_12_code 56 = .ok (.aload_n 2, 1) := by decide +kernel
theorem d22_57 : decode jdk_33_method_12_code 57 = .ok (.iinc 5 (-1), 3) := by decide +kernel
theorem d22_60 : decode jdk_33_method_12_code 60 = .ok (.iload 5, 2) := by decide +kernel
theorem d22_62 : decode jdk_33_method_12_code 62 = .ok (.getstatic 87, 3) := by decide +kernel
theorem d22_65 : decode jdk_33_method_12_code 65 = .ok (.iload 4, 2) := by decide +kernel
theorem d22_67 : decode jdk_33_method_12_code 67 = .ok (.baload, 1) := by decide +kernel
theorem d22_68 : decode jdk_33_method_12_code 68 = .ok (.bastore, 1) := by decide +kernel
theorem d22_69 : decode jdk_33_method_12_code 69 = .ok (.goto (-47), 3) := by decide +kernel
theorem d22_0 : decode jdk_33_method_12_code 0 = .ok (.iload_n 1, 1) := by decide +kernel
theorem d22_1 : decode jdk_33_method_12_code 1 = .ok (.istore 5, 2) := by decide +kernel
theorem d22_3 : decode jdk_33_method_12_code 3 = .ok (.iload_n 0, 1) := by decide +kernel
theorem d22_4 : decode jdk_33_method_12_code 4 = .ok (.ifCond .ge 7, 3) := by decide +kernel
theorem d22_7 : decode jdk_33_method_12_code 7 = .ok (.iconst 1, 1) := by decide +kernel
theorem d22_8 : decode jdk_33_method_12_code 8 = .ok (.goto 4, 3) := by decide +kernel
theorem d22_12 : decode jdk_33_method_12_code 12 = .ok (.istore 6, 2) := by decide +kernel
theorem d22_14 : decode jdk_33_method_12_code 14 = .ok (.iload 6, 2) := by decide +kernel
theorem d22_16 : decode jdk_33_method_12_code 16 = .ok (.ifCond .ne 6, 3) := by decide +kernel
theorem d22_11 : decode jdk_33_method_12_code 11 = .ok (.iconst 0, 1) := by decide +kernel
theorem d22_19 : decode jdk_33_method_12_code 19 = .ok (.iload_n 0, 1) := by decide +kernel
theorem d22_20 : decode jdk_33_method_12_code 20 = .ok (.ineg, 1) := by decide +kernel
theorem d22_21 : decode jdk_33_method_12_code 21 = .ok (.istore_n 0, 1) := by decide +kernel
set_option maxRecDepth 65536 in
set_option maxHeartbeats 40000000 in
theorem ggc (l : Launch) (Z : State) (a0 : Array Value) (hw : ∀ d ∈ tables_1, d.before a0 Z = true) (ws : List Jvm.Cond) (x : Int32) (q1 : Int32) (t2 : Addr) (k2 : ClassId) (Y2 : Int32) (c2 : Int32) (xs : List Value) (wO : Addr) (wT : Addr) (kO : ClassId) (kT : ClassId) (iC : Int32) (vF : Value) (vU : Value) (vS : Value) (h0 : Heap) (n0 : Nat) (O0 : Old Z n0 h0) (F : Fx x q1 c2 Y2 xs) (g_t2 : n0 ≤ t2) (E_t2 : Exa Z h0 t2 "[B") (V_t2 : Arv Z h0 t2 k2 .byte Y2 xs (.int 0)) (WW : World1 Z wO wT kO kT iC vF vU vS) :
    Con l Z mq29 jdk_33_method_12_code 7 (some .int) ws ({ frames := 0, cells := 0, slots := 0, locals := 0 } : Room) #[(.int x), (.int q1), (.ref t2)] h0 (fun v h L => ∃ r : Int32, v = some (.int r) ∧ Fr n0 L ∧ Keep h0 h [t2] ∧ Arv Z h t2 k2 .byte Y2 (xs ++ dsL x) (.int 0)) := by
  refine own_body (plainFor_of_name pn_java_lang_Integer) ?_
  intro p e s m below meth c s₁ hx hby hml hZ hown hnm hlk hret X0 e0
  have N0 := Fr.nil n0
  have D := @hb _ _ hby
  have K0 : Keep h0 h0 [t2] := Keep.refl _ _
  refine Go.st (T' := s₁) (f' := (mkF m 0 #[iv x, iv q1, rv t2, .unset, .unset, .unset, .unset] [])) (fun _ k => castTop (by first | (simp [entryFrame, mkF, argsToLocals, Value.category]; done) | rfl) k) ?_
  have ⟨S_iC, nz_iC, S_vF, r_vF, S_vU, r_vU, S_vS, r_vS, S_wO, E_wO, S_wT, E_wT, V_wO, V_wT⟩ := WW
  have lt_wO := E_wO.lt
  have lt_wT := E_wT.lt
  have lt_t2 := V_t2.lt
  have ne_wO_t2 : wO ≠ t2 := O0.ne lt_wO g_t2
  have ne_wT_t2 : wT ≠ t2 := O0.ne lt_wT g_t2
  have GE : ∀ (TJ1 : State) (hJ1 : Heap) (LJ1 : List Loc) (i : Int32) (ps : Int32) (ng : Int32) (u3 : Slot) (u4 : Slot) (es : List Value) (w : Nat), (Stand p l e ({ frames := 0, cells := 0, slots := 0, locals := 0 } : Room) s m #[(.int x), (.int q1), (.ref t2)] below meth c TJ1 LJ1 0 0) → (TJ1.heap = hJ1) → (Old Z n0 hJ1) → (Fr n0 LJ1) → (Keep h0 hJ1 [t2]) → (Arv Z hJ1 t2 k2 .byte Y2 es (.int (0 : Int32))) → (nAbs x / 10 ^ w < 100) → (Gp x q1 i ps w) → (Jv xs es (nAbs x) q1.toNatClampNeg w) → ((x < (0 : Int32) ∧ ng = (1 : Int32)) ∨ (¬ x < (0 : Int32) ∧ ng = (0 : Int32))) → Go p e below (Done s (fun v h L => ∃ r : Int32, v = some (.int r) ∧ Fr n0 L ∧ Keep h0 h [t2] ∧ Arv Z h t2 k2 .byte Y2 (xs ++ dsL x) (.int (0 : Int32))) ({ frames := 0, cells := 0, slots := 0, locals := 0 } : Room).cells ({ frames := 0, cells := 0, slots := 0, locals := 0 } : Room).slots) TJ1 (mkF m 72 #[iv i, iv q1, rv t2, (u3), (u4), iv ps, iv ng] []) := by
   intro TJ1 hJ1 LJ1 i ps ng u3 u4 es w XJ1 eJ1 OJ1 NJ1 KJ1 hv hm G J hng
   have lt_t2J := hv.lt
   have go := gp_out F G J hm
   have tb := own_tb (f := fun r => .int (Int32.ofNat (48 + r % 10))) (d := .int (0 : Int32)) go.1 hm
   have tc := own_tb (f := fun r => .int (Int32.ofNat (48 + r / 10))) (d := .int (0 : Int32)) go.1 hm
   refine zan 73 XJ1 hx (D d22_72) rfl rfl ?_
   refine zii 76 #[iv i, iv q1, rv t2, (u3), (u4), .val (.int (ps + (-1 : Int32))), iv ng] XJ1 hx (D d22_73) rfl ?_
   refine zil 78 XJ1 hx (D d22_76) rfl ?_
   obtain ⟨T2, X2, e2, st2⟩ := getS2 XJ1 hx hZ hown (host := "") (Or.inl (ww hw 126 rfl)) Via.refl eJ1 (S_wO.ext OJ1.2) (g := (mkF m 78 #[iv i, iv q1, rv t2, (u3), (u4), .val (.int (ps + (-1 : Int32))), iv ng] [(.int (ps + (-1 : Int32))), (.ref t2)])) rfl (D d22_78)
   refine zst 81 #[iv i, iv q1, rv t2, (u3), (u4), .val (.int (ps + (-1 : Int32))), iv ng] [(.ref wO), (.int (ps + (-1 : Int32))), (.ref t2)] st2 ?_
   refine zin 82 X2 hx (D d22_81) rfl ?_
   refine Go.st (f' := (mkF m 83 #[iv i, iv q1, rv t2, (u3), (u4), .val (.int (ps + (-1 : Int32))), iv ng] [(.int (-i)), (.ref wO), (.int (ps + (-1 : Int32))), (.ref t2)])) (fun _ k => XS.ineg X2.here hx rfl (D d22_82) rfl k) ?_
   obtain ⟨cl3, Ar3, -, S3, -, H3, -⟩ := id (V_wO.ext OJ1.2)
   have hin3 : ¬ ((-i) < 0 ∨ cl3.slots.size ≤ ((-i)).toNatClampNeg) := inb_of S3 ⟨tb.2.1, tb.2.2⟩
   have hat3 : cl3.slots[((-i)).toNatClampNeg]? = some (.int (Int32.ofNat (48 + nAbs x / 10 ^ w % 10))) := H3.at hin3 tb.1
   refine Go.st (f' := (mkF m 84 #[iv i, iv q1, rv t2, (u3), (u4), .val (.int (ps + (-1 : Int32))), iv ng] [(.int (Int32.ofNat (48 + nAbs x / 10 ^ w % 10))), (.int (ps + (-1 : Int32))), (.ref t2)])) (fun _ k => X2.baloadBytes hx (j := (-i)) (v := (.int (Int32.ofNat (48 + nAbs x / 10 ^ w % 10)))) (by rw [e2]; exact Ar3.1) (State.isArrayOf_alike hZ.alike Ar3.2.1) Ar3.2.2 hin3 hat3 (g := (mkF m 83 #[iv i, iv q1, rv t2, (u3), (u4), .val (.int (ps + (-1 : Int32))), iv ng] [(.int (-i)), (.ref wO), (.int (ps + (-1 : Int32))), (.ref t2)])) rfl rfl (D d22_83) _ k) ?_
   obtain ⟨cl4, Ar4, q4, S4, Nx4, H4, G4⟩ := Arv.pad hv (pad_rep es (.int (0 : Int32)) (((ps + (-1 : Int32))).toNatClampNeg + 1))
   have hin4 : ¬ ((ps + (-1 : Int32)) < 0 ∨ cl4.slots.size ≤ ((ps + (-1 : Int32))).toNatClampNeg) := inb_of S4 ⟨go.2.1.1, go.2.1.2⟩
   obtain ⟨T5, h5, X5, e5, W5, st5⟩ := stB X2 hx hZ e2 Ar4 (j := (ps + (-1 : Int32))) hin4 (g := (mkF m 84 #[iv i, iv q1, rv t2, (u3), (u4), .val (.int (ps + (-1 : Int32))), iv ng] [(.int (Int32.ofNat (48 + nAbs x / 10 ^ w % 10))), (.int (ps + (-1 : Int32))), (.ref t2)])) rfl rfl (D d22_84)
   have V_t2_5 : Arv Z h5 t2 k2 .byte Y2 (lput es ((ps + (-1 : Int32))).toNatClampNeg (.int (nar .byte (Int32.ofNat (48 + nAbs x / 10 ^ w % 10)))) (.int (0 : Int32))) (.int (0 : Int32)) := Arv.set Ar4 q4 S4 Nx4 H4 G4 (fits_nar_byte _) W5 _ rfl (lput_len _ _ _)
   have N5 := Fr.snoc X5 NJ1 g_t2
   have O5 : Old Z n0 h5 := OJ1.wr W5 g_t2
   have K5 : Keep h0 h5 [t2] := KJ1.wr W5 (Or.inl (List.mem_of_getElem? (i := 0) rfl))
   refine zst 85 #[iv i, iv q1, rv t2, (u3), (u4), .val (.int (ps + (-1 : Int32))), iv ng] [] st5 ?_
   refine zin 86 X5 hx (D d22_85) rfl ?_
   refine zbp 88 (-9) X5 hx (D d22_86) ?_
   by_cases cd6 : i < (-9 : Int32)
   · refine zcn 91 X5 hx (D d22_88) (tlt cd6).2.1 ?_
     have g2 := gp_out2 F G hm ((gp_9 G).mp cd6) go.2.2.1 go.2.2.2
     refine zan 92 X5 hx (D d22_91) rfl rfl ?_
     refine zii 95 #[iv i, iv q1, rv t2, (u3), (u4), .val (.int ((ps + (-1 : Int32)) + (-1 : Int32))), iv ng] X5 hx (D d22_92) rfl ?_
     refine zil 97 X5 hx (D d22_95) rfl ?_
     obtain ⟨T7, X7, e7, st7⟩ := getS2 X5 hx hZ hown (host := "") (Or.inl (ww hw 299 rfl)) Via.refl e5 (S_wT.ext O5.2) (g := (mkF m 97 #[iv i, iv q1, rv t2, (u3), (u4), .val (.int ((ps + (-1 : Int32)) + (-1 : Int32))), iv ng] [(.int ((ps + (-1 : Int32)) + (-1 : Int32))), (.ref t2)])) rfl (D d22_97)
     refine zst 100 #[iv i, iv q1, rv t2, (u3), (u4), .val (.int ((ps + (-1 : Int32)) + (-1 : Int32))), iv ng] [(.ref wT), (.int ((ps + (-1 : Int32)) + (-1 : Int32))), (.ref t2)] st7 ?_
     refine zin 101 X7 hx (D d22_100) rfl ?_
     refine Go.st (f' := (mkF m 102 #[iv i, iv q1, rv t2, (u3), (u4), .val (.int ((ps + (-1 : Int32)) + (-1 : Int32))), iv ng] [(.int (-i)), (.ref wT), (.int ((ps + (-1 : Int32)) + (-1 : Int32))), (.ref t2)])) (fun _ k => XS.ineg X7.here hx rfl (D d22_101) rfl k) ?_
     obtain ⟨cl8, Ar8, -, S8, -, H8, -⟩ := id (V_wT.ext O5.2)
     have hin8 : ¬ ((-i) < 0 ∨ cl8.slots.size ≤ ((-i)).toNatClampNeg) := inb_of S8 ⟨tb.2.1, tb.2.2⟩
     have hat8 : cl8.slots[((-i)).toNatClampNeg]? = some (.int (Int32.ofNat (48 + nAbs x / 10 ^ w / 10))) := H8.at hin8 tc.1
     refine Go.st (f' := (mkF m 103 #[iv i, iv q1, rv t2, (u3), (u4), .val (.int ((ps + (-1 : Int32)) + (-1 : Int32))), iv ng] [(.int (Int32.ofNat (48 + nAbs x / 10 ^ w / 10))), (.int ((ps + (-1 : Int32)) + (-1 : Int32))), (.ref t2)])) (fun _ k => X7.baloadBytes hx (j := (-i)) (v := (.int (Int32.ofNat (48 + nAbs x / 10 ^ w / 10)))) (by rw [e7]; exact Ar8.1) (State.isArrayOf_alike hZ.alike Ar8.2.1) Ar8.2.2 hin8 hat8 (g := (mkF m 102 #[iv i, iv q1, rv t2, (u3), (u4), .val (.int ((ps + (-1 : Int32)) + (-1 : Int32))), iv ng] [(.int (-i)), (.ref wT), (.int ((ps + (-1 : Int32)) + (-1 : Int32))), (.ref t2)])) rfl rfl (D d22_102) _ k) ?_
     obtain ⟨cl9, Ar9, q9, S9, Nx9, H9, G9⟩ := Arv.pad V_t2_5 (pad_rep (lput es ((ps + (-1 : Int32))).toNatClampNeg (.int (nar .byte (Int32.ofNat (48 + nAbs x / 10 ^ w % 10)))) (.int (0 : Int32))) (.int (0 : Int32)) ((((ps + (-1 : Int32)) + (-1 : Int32))).toNatClampNeg + 1))
     have hin9 : ¬ (((ps + (-1 : Int32)) + (-1 : Int32)) < 0 ∨ cl9.slots.size ≤ (((ps + (-1 : Int32)) + (-1 : Int32))).toNatClampNeg) := inb_of S9 ⟨g2.1.1, g2.1.2⟩
     obtain ⟨T10, h10, X10, e10, W10, st10⟩ := stB X7 hx hZ e7 Ar9 (j := ((ps + (-1 : Int32)) + (-1 : Int32))) hin9 (g := (mkF m 103 #[iv i, iv q1, rv t2, (u3), (u4), .val (.int ((ps + (-1 : Int32)) + (-1 : Int32))), iv ng] [(.int (Int32.ofNat (48 + nAbs x / 10 ^ w / 10))), (.int ((ps + (-1 : Int32)) + (-1 : Int32))), (.ref t2)])) rfl rfl (D d22_103)
     have V_t2_10 : Arv Z h10 t2 k2 .byte Y2 (lput (lput es ((ps + (-1 : Int32))).toNatClampNeg (.int (nar .byte (Int32.ofNat (48 + nAbs x / 10 ^ w % 10)))) (.int (0 : Int32))) (((ps + (-1 : Int32)) + (-1 : Int32))).toNatClampNeg (.int (nar .byte (Int32.ofNat (48 + nAbs x / 10 ^ w / 10)))) (.int (0 : Int32))) (.int (0 : Int32)) := Arv.set Ar9 q9 S9 Nx9 H9 G9 (fits_nar_byte _) W10 _ rfl (lput_len _ _ _)
     have N10 := Fr.snoc X10 N5 g_t2
     have O10 : Old Z n0 h10 := O5.wr W10 g_t2
     have K10 : Keep h0 h10 [t2] := K5.wr W10 (Or.inl (List.mem_of_getElem? (i := 0) rfl))
     refine zst 104 #[iv i, iv q1, rv t2, (u3), (u4), .val (.int ((ps + (-1 : Int32)) + (-1 : Int32))), iv ng] [] st10 ?_
     refine zil 106 X10 hx (D d22_104) rfl ?_
     by_cases cd11 : ng = (0 : Int32)
     · refine zfy 118 X10 hx (D d22_106) ((if0 _ _).trans (teq cd11).1) ?_
       refine zil 120 X10 hx (D d22_118) rfl ?_
       refine Go.retV X10 hlk hx (t := .int) hret rfl (Or.inl ⟨rfl, Or.inl rfl, _, rfl⟩) (D d22_120) e10 ?_ (by decide) (by decide)
       have hx0 : ¬ x < (0 : Int32) := hng.elim (fun q => absurd (q.2.symm.trans cd11) (by decide)) (·.1)
       exact ⟨_, rfl, N10, K10, V_t2_10.pad (gp_finP F hx0 g2.2.1)⟩
     · refine zfn 109 X10 hx (D d22_106) ((if0 _ _).trans (feq cd11).1) ?_
       have hx0 : x < (0 : Int32) := hng.elim (·.1) (fun q => absurd q.2 cd11)
       refine zan 110 X10 hx (D d22_109) rfl rfl ?_
       refine zii 113 #[iv i, iv q1, rv t2, (u3), (u4), .val (.int (((ps + (-1 : Int32)) + (-1 : Int32)) + (-1 : Int32))), iv ng] X10 hx (D d22_110) rfl ?_
       refine zil 115 X10 hx (D d22_113) rfl ?_
       refine zbp 117 45 X10 hx (D d22_115) ?_
       obtain ⟨cl12, Ar12, q12, S12, Nx12, H12, G12⟩ := Arv.pad V_t2_10 (pad_rep (lput (lput es ((ps + (-1 : Int32))).toNatClampNeg (.int (nar .byte (Int32.ofNat (48 + nAbs x / 10 ^ w % 10)))) (.int (0 : Int32))) (((ps + (-1 : Int32)) + (-1 : Int32))).toNatClampNeg (.int (nar .byte (Int32.ofNat (48 + nAbs x / 10 ^ w / 10)))) (.int (0 : Int32))) (.int (0 : Int32)) (((((ps + (-1 : Int32)) + (-1 : Int32)) + (-1 : Int32))).toNatClampNeg + 1))
       have hin12 : ¬ ((((ps + (-1 : Int32)) + (-1 : Int32)) + (-1 : Int32)) < 0 ∨ cl12.slots.size ≤ ((((ps + (-1 : Int32)) + (-1 : Int32)) + (-1 : Int32))).toNatClampNeg) := inb_of S12 ⟨(gp_sgn F hx0 g2.2.2).1, (gp_sgn F hx0 g2.2.2).2⟩
       obtain ⟨T13, h13, X13, e13, W13, st13⟩ := stB X10 hx hZ e10 Ar12 (j := (((ps + (-1 : Int32)) + (-1 : Int32)) + (-1 : Int32))) hin12 (g := (mkF m 117 #[iv i, iv q1, rv t2, (u3), (u4), .val (.int (((ps + (-1 : Int32)) + (-1 : Int32)) + (-1 : Int32))), iv ng] [(.int 45), (.int (((ps + (-1 : Int32)) + (-1 : Int32)) + (-1 : Int32))), (.ref t2)])) rfl rfl (D d22_117)
       have V_t2_13 : Arv Z h13 t2 k2 .byte Y2 (lput (lput (lput es ((ps + (-1 : Int32))).toNatClampNeg (.int (nar .byte (Int32.ofNat (48 + nAbs x / 10 ^ w % 10)))) (.int (0 : Int32))) (((ps + (-1 : Int32)) + (-1 : Int32))).toNatClampNeg (.int (nar .byte (Int32.ofNat (48 + nAbs x / 10 ^ w / 10)))) (.int (0 : Int32))) ((((ps + (-1 : Int32)) + (-1 : Int32)) + (-1 : Int32))).toNatClampNeg (.int (45 : Int32)) (.int (0 : Int32))) (.int (0 : Int32)) := Arv.set Ar12 q12 S12 Nx12 H12 G12 (by decide) W13 _ rfl (lput_len _ _ _)
       have N13 := Fr.snoc X13 N10 g_t2
       have O13 : Old Z n0 h13 := O10.wr W13 g_t2
       have K13 : Keep h0 h13 [t2] := K10.wr W13 (Or.inl (List.mem_of_getElem? (i := 0) rfl))
       refine zst 118 #[iv i, iv q1, rv t2, (u3), (u4), .val (.int (((ps + (-1 : Int32)) + (-1 : Int32)) + (-1 : Int32))), iv ng] [] st13 ?_
       refine zil 120 X13 hx (D d22_118) rfl ?_
       refine Go.retV X13 hlk hx (t := .int) hret rfl (Or.inl ⟨rfl, Or.inl rfl, _, rfl⟩) (D d22_120) e13 ?_ (by decide) (by decide)
       exact ⟨_, rfl, N13, K13, V_t2_13.pad (gp_finN F hx0 g2.2.1 g2.2.2)⟩
   · refine zcy 104 X5 hx (D d22_88) (flt cd6).2.1 ?_
     have g2 := And.intro trivial (gp_out1 G (fun q => cd6 ((gp_9 G).mpr q)) go.2.2.1 go.2.2.2)
     refine zil 106 X5 hx (D d22_104) rfl ?_
     by_cases cd14 : ng = (0 : Int32)
     · refine zfy 118 X5 hx (D d22_106) ((if0 _ _).trans (teq cd14).1) ?_
       refine zil 120 X5 hx (D d22_118) rfl ?_
       refine Go.retV X5 hlk hx (t := .int) hret rfl (Or.inl ⟨rfl, Or.inl rfl, _, rfl⟩) (D d22_120) e5 ?_ (by decide) (by decide)
       have hx0 : ¬ x < (0 : Int32) := hng.elim (fun q => absurd (q.2.symm.trans cd14) (by decide)) (·.1)
       exact ⟨_, rfl, N5, K5, V_t2_5.pad (gp_finP F hx0 g2.2.1)⟩
     · refine zfn 109 X5 hx (D d22_106) ((if0 _ _).trans (feq cd14).1) ?_
       have hx0 : x < (0 : Int32) := hng.elim (·.1) (fun q => absurd q.2 cd14)
       refine zan 110 X5 hx (D d22_109) rfl rfl ?_
       refine zii 113 #[iv i, iv q1, rv t2, (u3), (u4), .val (.int ((ps + (-1 : Int32)) + (-1 : Int32))), iv ng] X5 hx (D d22_110) rfl ?_
       refine zil 115 X5 hx (D d22_113) rfl ?_
       refine zbp 117 45 X5 hx (D d22_115) ?_
       obtain ⟨cl15, Ar15, q15, S15, Nx15, H15, G15⟩ := Arv.pad V_t2_5 (pad_rep (lput es ((ps + (-1 : Int32))).toNatClampNeg (.int (nar .byte (Int32.ofNat (48 + nAbs x / 10 ^ w % 10)))) (.int (0 : Int32))) (.int (0 : Int32)) ((((ps + (-1 : Int32)) + (-1 : Int32))).toNatClampNeg + 1))
       have hin15 : ¬ (((ps + (-1 : Int32)) + (-1 : Int32)) < 0 ∨ cl15.slots.size ≤ (((ps + (-1 : Int32)) + (-1 : Int32))).toNatClampNeg) := inb_of S15 ⟨(gp_sgn F hx0 g2.2.2).1, (gp_sgn F hx0 g2.2.2).2⟩
       obtain ⟨T16, h16, X16, e16, W16, st16⟩ := stB X5 hx hZ e5 Ar15 (j := ((ps + (-1 : Int32)) + (-1 : Int32))) hin15 (g := (mkF m 117 #[iv i, iv q1, rv t2, (u3), (u4), .val (.int ((ps + (-1 : Int32)) + (-1 : Int32))), iv ng] [(.int 45), (.int ((ps + (-1 : Int32)) + (-1 : Int32))), (.ref t2)])) rfl rfl (D d22_117)
       have V_t2_16 : Arv Z h16 t2 k2 .byte Y2 (lput (lput es ((ps + (-1 : Int32))).toNatClampNeg (.int (nar .byte (Int32.ofNat (48 + nAbs x / 10 ^ w % 10)))) (.int (0 : Int32))) (((ps + (-1 : Int32)) + (-1 : Int32))).toNatClampNeg (.int (45 : Int32)) (.int (0 : Int32))) (.int (0 : Int32)) := Arv.set Ar15 q15 S15 Nx15 H15 G15 (by decide) W16 _ rfl (lput_len _ _ _)
       have N16 := Fr.snoc X16 N5 g_t2
       have O16 : Old Z n0 h16 := O5.wr W16 g_t2
       have K16 : Keep h0 h16 [t2] := K5.wr W16 (Or.inl (List.mem_of_getElem? (i := 0) rfl))
       refine zst 118 #[iv i, iv q1, rv t2, (u3), (u4), .val (.int ((ps + (-1 : Int32)) + (-1 : Int32))), iv ng] [] st16 ?_
       refine zil 120 X16 hx (D d22_118) rfl ?_
       refine Go.retV X16 hlk hx (t := .int) hret rfl (Or.inl ⟨rfl, Or.inl rfl, _, rfl⟩) (D d22_120) e16 ?_ (by decide) (by decide)
       exact ⟨_, rfl, N16, K16, V_t2_16.pad (gp_finN F hx0 g2.2.1 g2.2.2)⟩
  have GB : ∀ (fuel : Nat) (TJ17 : State) (hJ17 : Heap) (LJ17 : List Loc) (i : Int32) (ps : Int32) (ng : Int32) (v3 : Int32) (v4 : Int32) (es : List Value) (w : Nat), (Stand p l e ({ frames := 0, cells := 0, slots := 0, locals := 0 } : Room) s m #[(.int x), (.int q1), (.ref t2)] below meth c TJ17 LJ17 0 0) → (TJ17.heap = hJ17) → (Old Z n0 hJ17) → (Fr n0 LJ17) → (Keep h0 hJ17 [t2]) → (Arv Z hJ17 t2 k2 .byte Y2 es (.int (0 : Int32))) → (nAbs x / 10 ^ w < 100 ^ fuel) → (Gp x q1 i ps w) → (Jv xs es (nAbs x) q1.toNatClampNeg w) → ((x < (0 : Int32) ∧ ng = (1 : Int32)) ∨ (¬ x < (0 : Int32) ∧ ng = (0 : Int32))) → Go p e below (Done s (fun v h L => ∃ r : Int32, v = some (.int r) ∧ Fr n0 L ∧ Keep h0 h [t2] ∧ Arv Z h t2 k2 .byte Y2 (xs ++ dsL x) (.int (0 : Int32))) ({ frames := 0, cells := 0, slots := 0, locals := 0 } : Room).cells ({ frames := 0, cells := 0, slots := 0, locals := 0 } : Room).slots) TJ17 (mkF m 22 #[iv i, iv q1, rv t2, iv v3, iv v4, iv ps, iv ng] []) := by
   intro fuel
   induction fuel with
   | zero =>
    intro TJ17 hJ17 LJ17 i ps ng v3 v4 es w XJ17 eJ17 OJ17 NJ17 KJ17 hv hfu G J hng
    have lt_t2J := hv.lt
    refine zin 23 XJ17 hx (D d22_22) rfl ?_
    refine zbp 25 (-100) XJ17 hx (D d22_23) ?_
    refine zcy 72 XJ17 hx (D d22_25) (tlt ((gp_100 G).mpr (gp_f0 hfu))).2.2.1 ?_
    exact GE _ hJ17 _ i ps ng (.val (.int v3)) (.val (.int v4)) es w XJ17 eJ17 OJ17 NJ17 KJ17 hv (gp_f0 hfu) G J hng
   | succ fuel ih =>
    intro TJ17 hJ17 LJ17 i ps ng v3 v4 es w XJ17 eJ17 OJ17 NJ17 KJ17 hv hfu G J hng
    have lt_t2J := hv.lt
    refine zin 23 XJ17 hx (D d22_22) rfl ?_
    refine zbp 25 (-100) XJ17 hx (D d22_23) ?_
    by_cases cd18 : (-100 : Int32) < i
    · refine zcy 72 XJ17 hx (D d22_25) (tlt cd18).2.2.1 ?_
      exact GE _ hJ17 _ i ps ng (.val (.int v3)) (.val (.int v4)) es w XJ17 eJ17 OJ17 NJ17 KJ17 hv ((gp_100 G).mp cd18) G J hng
    · refine zcn 28 XJ17 hx (D d22_25) (flt cd18).2.2.1 ?_
      have h100 : ¬ nAbs x / 10 ^ w < 100 := fun q => cd18 ((gp_100 G).mpr q)
      refine zin 29 XJ17 hx (D d22_28) rfl ?_
      refine zbp 31 100 XJ17 hx (D d22_29) ?_
      refine Go.st (f' := (mkF m 32 #[iv i, iv q1, rv t2, iv v3, iv v4, iv ps, iv ng] [(.int (i / (100 : Int32)))])) (fun _ k => XS.idiv XJ17.here hx rfl (D d22_31) rfl (by decide) k) ?_
      obtain ⟨yy19, hyy19⟩ : ∃ z, z = (i / (100 : Int32)) := ⟨_, rfl⟩
      rw [← hyy19]
      refine zsn 33 #[iv i, iv q1, rv t2, iv yy19, iv v4, iv ps, iv ng] XJ17 hx (D d22_32) ?_
      refine zin 34 XJ17 hx (D d22_33) rfl ?_
      refine zbp 36 100 XJ17 hx (D d22_34) ?_
      refine Go.st (f' := (mkF m 37 #[iv i, iv q1, rv t2, iv yy19, iv v4, iv ps, iv ng] [(.int (yy19 * (100 : Int32)))])) (fun _ k => XS.imul XJ17.here hx rfl (D d22_36) rfl k) ?_
      refine zin 38 XJ17 hx (D d22_37) rfl ?_
      refine zsb 39 XJ17 hx (D d22_38) ?_
      obtain ⟨yy20, hyy20⟩ : ∃ z, z = ((yy19 * (100 : Int32)) - i) := ⟨_, rfl⟩
      rw [← hyy20]
      have gs := gp_step F G J h100 hyy19 hyy20
      have tb := own_tb (f := fun r => .int (Int32.ofNat (48 + r % 10))) (d := .int (0 : Int32)) gs.1 (Nat.mod_lt _ (by decide))
      have tc := own_tb (f := fun r => .int (Int32.ofNat (48 + r / 10))) (d := .int (0 : Int32)) gs.1 (Nat.mod_lt _ (by decide))
      refine zsl 41 #[iv i, iv q1, rv t2, iv yy19, iv yy20, iv ps, iv ng] XJ17 hx (D d22_39) ?_
      refine zin 42 XJ17 hx (D d22_41) rfl ?_
      refine zsn 43 #[iv yy19, iv q1, rv t2, iv yy19, iv yy20, iv ps, iv ng] XJ17 hx (D d22_42) ?_
      refine zan 44 XJ17 hx (D d22_43) rfl rfl ?_
      refine zii 47 #[iv yy19, iv q1, rv t2, iv yy19, iv yy20, .val (.int (ps + (-1 : Int32))), iv ng] XJ17 hx (D d22_44) rfl ?_
      refine zil 49 XJ17 hx (D d22_47) rfl ?_
      obtain ⟨T21, X21, e21, st21⟩ := getS2 XJ17 hx hZ hown (host := "") (Or.inl (ww hw 126 rfl)) Via.refl eJ17 (S_wO.ext OJ17.2) (g := (mkF m 49 #[iv yy19, iv q1, rv t2, iv yy19, iv yy20, .val (.int (ps + (-1 : Int32))), iv ng] [(.int (ps + (-1 : Int32))), (.ref t2)])) rfl (D d22_49)
      refine zst 52 #[iv yy19, iv q1, rv t2, iv yy19, iv yy20, .val (.int (ps + (-1 : Int32))), iv ng] [(.ref wO), (.int (ps + (-1 : Int32))), (.ref t2)] st21 ?_
      refine zil 54 X21 hx (D d22_52) rfl ?_
      obtain ⟨cl22, Ar22, -, S22, -, H22, -⟩ := id (V_wO.ext OJ17.2)
      have hin22 : ¬ (yy20 < 0 ∨ cl22.slots.size ≤ (yy20).toNatClampNeg) := inb_of S22 ⟨tb.2.1, tb.2.2⟩
      have hat22 : cl22.slots[(yy20).toNatClampNeg]? = some (.int (Int32.ofNat (48 + nAbs x / 10 ^ w % 100 % 10))) := H22.at hin22 tb.1
      refine Go.st (f' := (mkF m 55 #[iv yy19, iv q1, rv t2, iv yy19, iv yy20, .val (.int (ps + (-1 : Int32))), iv ng] [(.int (Int32.ofNat (48 + nAbs x / 10 ^ w % 100 % 10))), (.int (ps + (-1 : Int32))), (.ref t2)])) (fun _ k => X21.baloadBytes hx (j := yy20) (v := (.int (Int32.ofNat (48 + nAbs x / 10 ^ w % 100 % 10)))) (by rw [e21]; exact Ar22.1) (State.isArrayOf_alike hZ.alike Ar22.2.1) Ar22.2.2 hin22 hat22 (g := (mkF m 54 #[iv yy19, iv q1, rv t2, iv yy19, iv yy20, .val (.int (ps + (-1 : Int32))), iv ng] [(.int yy20), (.ref wO), (.int (ps + (-1 : Int32))), (.ref t2)])) rfl rfl (D d22_54) _ k) ?_
      obtain ⟨cl23, Ar23, q23, S23, Nx23, H23, G23⟩ := Arv.pad hv (pad_rep es (.int (0 : Int32)) (((ps + (-1 : Int32))).toNatClampNeg + 1))
      have hin23 : ¬ ((ps + (-1 : Int32)) < 0 ∨ cl23.slots.size ≤ ((ps + (-1 : Int32))).toNatClampNeg) := inb_of S23 ⟨gs.2.1.1, gs.2.1.2⟩
      obtain ⟨T24, h24, X24, e24, W24, st24⟩ := stB X21 hx hZ e21 Ar23 (j := (ps + (-1 : Int32))) hin23 (g := (mkF m 55 #[iv yy19, iv q1, rv t2, iv yy19, iv yy20, .val (.int (ps + (-1 : Int32))), iv ng] [(.int (Int32.ofNat (48 + nAbs x / 10 ^ w % 100 % 10))), (.int (ps + (-1 : Int32))), (.ref t2)])) rfl rfl (D d22_55)
      have V_t2_24 : Arv Z h24 t2 k2 .byte Y2 (lput es ((ps + (-1 : Int32))).toNatClampNeg (.int (nar .byte (Int32.ofNat (48 + nAbs x / 10 ^ w % 100 % 10)))) (.int (0 : Int32))) (.int (0 : Int32)) := Arv.set Ar23 q23 S23 Nx23 H23 G23 (fits_nar_byte _) W24 _ rfl (lput_len _ _ _)
      have N24 := Fr.snoc X24 NJ17 g_t2
      have O24 : Old Z n0 h24 := OJ17.wr W24 g_t2
      have K24 : Keep h0 h24 [t2] := KJ17.wr W24 (Or.inl (List.mem_of_getElem? (i := 0) rfl))
      refine zst 56 #[iv yy19, iv q1, rv t2, iv yy19, iv yy20, .val (.int (ps + (-1 : Int32))), iv ng] [] st24 ?_
      refine zan 57 X24 hx (D d22_56) rfl rfl ?_
      refine zii 60 #[iv yy19, iv q1, rv t2, iv yy19, iv yy20, .val (.int ((ps + (-1 : Int32)) + (-1 : Int32))), iv ng] X24 hx (D d22_57) rfl ?_
      refine zil 62 X24 hx (D d22_60) rfl ?_
      obtain ⟨T25, X25, e25, st25⟩ := getS2 X24 hx hZ hown (host := "") (Or.inl (ww hw 299 rfl)) Via.refl e24 (S_wT.ext O24.2) (g := (mkF m 62 #[iv yy19, iv q1, rv t2, iv yy19, iv yy20, .val (.int ((ps + (-1 : Int32)) + (-1 : Int32))), iv ng] [(.int ((ps + (-1 : Int32)) + (-1 : Int32))), (.ref t2)])) rfl (D d22_62)
      refine zst 65 #[iv yy19, iv q1, rv t2, iv yy19, iv yy20, .val (.int ((ps + (-1 : Int32)) + (-1 : Int32))), iv ng] [(.ref wT), (.int ((ps + (-1 : Int32)) + (-1 : Int32))), (.ref t2)] st25 ?_
      refine zil 67 X25 hx (D d22_65) rfl ?_
      obtain ⟨cl26, Ar26, -, S26, -, H26, -⟩ := id (V_wT.ext O24.2)
      have hin26 : ¬ (yy20 < 0 ∨ cl26.slots.size ≤ (yy20).toNatClampNeg) := inb_of S26 ⟨tb.2.1, tb.2.2⟩
      have hat26 : cl26.slots[(yy20).toNatClampNeg]? = some (.int (Int32.ofNat (48 + nAbs x / 10 ^ w % 100 / 10))) := H26.at hin26 tc.1
      refine Go.st (f' := (mkF m 68 #[iv yy19, iv q1, rv t2, iv yy19, iv yy20, .val (.int ((ps + (-1 : Int32)) + (-1 : Int32))), iv ng] [(.int (Int32.ofNat (48 + nAbs x / 10 ^ w % 100 / 10))), (.int ((ps + (-1 : Int32)) + (-1 : Int32))), (.ref t2)])) (fun _ k => X25.baloadBytes hx (j := yy20) (v := (.int (Int32.ofNat (48 + nAbs x / 10 ^ w % 100 / 10)))) (by rw [e25]; exact Ar26.1) (State.isArrayOf_alike hZ.alike Ar26.2.1) Ar26.2.2 hin26 hat26 (g := (mkF m 67 #[iv yy19, iv q1, rv t2, iv yy19, iv yy20, .val (.int ((ps + (-1 : Int32)) + (-1 : Int32))), iv ng] [(.int yy20), (.ref wT), (.int ((ps + (-1 : Int32)) + (-1 : Int32))), (.ref t2)])) rfl rfl (D d22_67) _ k) ?_
      obtain ⟨cl27, Ar27, q27, S27, Nx27, H27, G27⟩ := Arv.pad V_t2_24 (pad_rep (lput es ((ps + (-1 : Int32))).toNatClampNeg (.int (nar .byte (Int32.ofNat (48 + nAbs x / 10 ^ w % 100 % 10)))) (.int (0 : Int32))) (.int (0 : Int32)) ((((ps + (-1 : Int32)) + (-1 : Int32))).toNatClampNeg + 1))
      have hin27 : ¬ (((ps + (-1 : Int32)) + (-1 : Int32)) < 0 ∨ cl27.slots.size ≤ (((ps + (-1 : Int32)) + (-1 : Int32))).toNatClampNeg) := inb_of S27 ⟨gs.2.2.1.1, gs.2.2.1.2⟩
      obtain ⟨T28, h28, X28, e28, W28, st28⟩ := stB X25 hx hZ e25 Ar27 (j := ((ps + (-1 : Int32)) + (-1 : Int32))) hin27 (g := (mkF m 68 #[iv yy19, iv q1, rv t2, iv yy19, iv yy20, .val (.int ((ps + (-1 : Int32)) + (-1 : Int32))), iv ng] [(.int (Int32.ofNat (48 + nAbs x / 10 ^ w % 100 / 10))), (.int ((ps + (-1 : Int32)) + (-1 : Int32))), (.ref t2)])) rfl rfl (D d22_68)
      have V_t2_28 : Arv Z h28 t2 k2 .byte Y2 (lput (lput es ((ps + (-1 : Int32))).toNatClampNeg (.int (nar .byte (Int32.ofNat (48 + nAbs x / 10 ^ w % 100 % 10)))) (.int (0 : Int32))) (((ps + (-1 : Int32)) + (-1 : Int32))).toNatClampNeg (.int (nar .byte (Int32.ofNat (48 + nAbs x / 10 ^ w % 100 / 10)))) (.int (0 : Int32))) (.int (0 : Int32)) := Arv.set Ar27 q27 S27 Nx27 H27 G27 (fits_nar_byte _) W28 _ rfl (lput_len _ _ _)
      have N28 := Fr.snoc X28 N24 g_t2
      have O28 : Old Z n0 h28 := O24.wr W28 g_t2
      have K28 : Keep h0 h28 [t2] := K24.wr W28 (Or.inl (List.mem_of_getElem? (i := 0) rfl))
      refine zst 69 #[iv yy19, iv q1, rv t2, iv yy19, iv yy20, .val (.int ((ps + (-1 : Int32)) + (-1 : Int32))), iv ng] [] st28 ?_
      refine zgo 22 X28 hx (D d22_69) ?_
      exact ih _ h28 _ yy19 ((ps + (-1 : Int32)) + (-1 : Int32)) ng yy19 yy20 (lput (lput es ((ps + (-1 : Int32))).toNatClampNeg (.int (nar .byte (Int32.ofNat (48 + nAbs x / 10 ^ w % 100 % 10)))) (.int (0 : Int32))) (((ps + (-1 : Int32)) + (-1 : Int32))).toNatClampNeg (.int (nar .byte (Int32.ofNat (48 + nAbs x / 10 ^ w % 100 / 10)))) (.int (0 : Int32))) (w + 2) X28 e28 O28 N28 K28 V_t2_28 (gp_fu hfu) gs.2.2.2.1 gs.2.2.2.2 hng
  have GA : ∀ (TJ29 : State) (hJ29 : Heap) (LJ29 : List Loc) (i : Int32) (ng : Int32), (Stand p l e ({ frames := 0, cells := 0, slots := 0, locals := 0 } : Room) s m #[(.int x), (.int q1), (.ref t2)] below meth c TJ29 LJ29 0 0) → (TJ29.heap = hJ29) → (Old Z n0 hJ29) → (Fr n0 LJ29) → (Keep h0 hJ29 [t2]) → (Arv Z hJ29 t2 k2 .byte Y2 xs (.int (0 : Int32))) → (Gp x q1 i q1 0) → ((x < (0 : Int32) ∧ ng = (1 : Int32)) ∨ (¬ x < (0 : Int32) ∧ ng = (0 : Int32))) → Go p e below (Done s (fun v h L => ∃ r : Int32, v = some (.int r) ∧ Fr n0 L ∧ Keep h0 h [t2] ∧ Arv Z h t2 k2 .byte Y2 (xs ++ dsL x) (.int (0 : Int32))) ({ frames := 0, cells := 0, slots := 0, locals := 0 } : Room).cells ({ frames := 0, cells := 0, slots := 0, locals := 0 } : Room).slots) TJ29 (mkF m 22 #[iv i, iv q1, rv t2, .unset, .unset, iv q1, iv ng] []) := by
   intro TJ29 hJ29 LJ29 i ng XJ29 eJ29 OJ29 NJ29 KJ29 hv G hng
   have lt_t2J := hv.lt
   refine zin 23 XJ29 hx (D d22_22) rfl ?_
   refine zbp 25 (-100) XJ29 hx (D d22_23) ?_
   by_cases cd30 : (-100 : Int32) < i
   · refine zcy 72 XJ29 hx (D d22_25) (tlt cd30).2.2.1 ?_
     exact GE _ hJ29 _ i q1 ng .unset .unset xs 0 XJ29 eJ29 OJ29 NJ29 KJ29 hv ((gp_100 G).mp cd30) G Jv.zero hng
   · refine zcn 28 XJ29 hx (D d22_25) (flt cd30).2.2.1 ?_
     have h100 : ¬ nAbs x / 10 ^ 0 < 100 := fun q => cd30 ((gp_100 G).mpr q)
     refine zin 29 XJ29 hx (D d22_28) rfl ?_
     refine zbp 31 100 XJ29 hx (D d22_29) ?_
     refine Go.st (f' := (mkF m 32 #[iv i, iv q1, rv t2, .unset, .unset, iv q1, iv ng] [(.int (i / (100 : Int32)))])) (fun _ k => XS.idiv XJ29.here hx rfl (D d22_31) rfl (by decide) k) ?_
     obtain ⟨yy31, hyy31⟩ : ∃ z, z = (i / (100 : Int32)) := ⟨_, rfl⟩
     rw [← hyy31]
     refine zsn 33 #[iv i, iv q1, rv t2, iv yy31, .unset, iv q1, iv ng] XJ29 hx (D d22_32) ?_
     refine zin 34 XJ29 hx (D d22_33) rfl ?_
     refine zbp 36 100 XJ29 hx (D d22_34) ?_
     refine Go.st (f' := (mkF m 37 #[iv i, iv q1, rv t2, iv yy31, .unset, iv q1, iv ng] [(.int (yy31 * (100 : Int32)))])) (fun _ k => XS.imul XJ29.here hx rfl (D d22_36) rfl k) ?_
     refine zin 38 XJ29 hx (D d22_37) rfl ?_
     refine zsb 39 XJ29 hx (D d22_38) ?_
     obtain ⟨yy32, hyy32⟩ : ∃ z, z = ((yy31 * (100 : Int32)) - i) := ⟨_, rfl⟩
     rw [← hyy32]
     have gs := gp_step F G Jv.zero h100 hyy31 hyy32
     have tb := own_tb (f := fun r => .int (Int32.ofNat (48 + r % 10))) (d := .int (0 : Int32)) gs.1 (Nat.mod_lt _ (by decide))
     have tc := own_tb (f := fun r => .int (Int32.ofNat (48 + r / 10))) (d := .int (0 : Int32)) gs.1 (Nat.mod_lt _ (by decide))
     refine zsl 41 #[iv i, iv q1, rv t2, iv yy31, iv yy32, iv q1, iv ng] XJ29 hx (D d22_39) ?_
     refine zin 42 XJ29 hx (D d22_41) rfl ?_
     refine zsn 43 #[iv yy31, iv q1, rv t2, iv yy31, iv yy32, iv q1, iv ng] XJ29 hx (D d22_42) ?_
     refine zan 44 XJ29 hx (D d22_43) rfl rfl ?_
     refine zii 47 #[iv yy31, iv q1, rv t2, iv yy31, iv yy32, .val (.int (q1 + (-1 : Int32))), iv ng] XJ29 hx (D d22_44) rfl ?_
     refine zil 49 XJ29 hx (D d22_47) rfl ?_
     obtain ⟨T33, X33, e33, st33⟩ := getS2 XJ29 hx hZ hown (host := "") (Or.inl (ww hw 126 rfl)) Via.refl eJ29 (S_wO.ext OJ29.2) (g := (mkF m 49 #[iv yy31, iv q1, rv t2, iv yy31, iv yy32, .val (.int (q1 + (-1 : Int32))), iv ng] [(.int (q1 + (-1 : Int32))), (.ref t2)])) rfl (D d22_49)
     refine zst 52 #[iv yy31, iv q1, rv t2, iv yy31, iv yy32, .val (.int (q1 + (-1 : Int32))), iv ng] [(.ref wO), (.int (q1 + (-1 : Int32))), (.ref t2)] st33 ?_
     refine zil 54 X33 hx (D d22_52) rfl ?_
     obtain ⟨cl34, Ar34, -, S34, -, H34, -⟩ := id (V_wO.ext OJ29.2)
     have hin34 : ¬ (yy32 < 0 ∨ cl34.slots.size ≤ (yy32).toNatClampNeg) := inb_of S34 ⟨tb.2.1, tb.2.2⟩
     have hat34 : cl34.slots[(yy32).toNatClampNeg]? = some (.int (Int32.ofNat (48 + nAbs x / 10 ^ 0 % 100 % 10))) := H34.at hin34 tb.1
     refine Go.st (f' := (mkF m 55 #[iv yy31, iv q1, rv t2, iv yy31, iv yy32, .val (.int (q1 + (-1 : Int32))), iv ng] [(.int (Int32.ofNat (48 + nAbs x / 10 ^ 0 % 100 % 10))), (.int (q1 + (-1 : Int32))), (.ref t2)])) (fun _ k => X33.baloadBytes hx (j := yy32) (v := (.int (Int32.ofNat (48 + nAbs x / 10 ^ 0 % 100 % 10)))) (by rw [e33]; exact Ar34.1) (State.isArrayOf_alike hZ.alike Ar34.2.1) Ar34.2.2 hin34 hat34 (g := (mkF m 54 #[iv yy31, iv q1, rv t2, iv yy31, iv yy32, .val (.int (q1 + (-1 : Int32))), iv ng] [(.int yy32), (.ref wO), (.int (q1 + (-1 : Int32))), (.ref t2)])) rfl rfl (D d22_54) _ k) ?_
     obtain ⟨cl35, Ar35, q35, S35, Nx35, H35, G35⟩ := Arv.pad hv (pad_rep xs (.int (0 : Int32)) (((q1 + (-1 : Int32))).toNatClampNeg + 1))
     have hin35 : ¬ ((q1 + (-1 : Int32)) < 0 ∨ cl35.slots.size ≤ ((q1 + (-1 : Int32))).toNatClampNeg) := inb_of S35 ⟨gs.2.1.1, gs.2.1.2⟩
     obtain ⟨T36, h36, X36, e36, W36, st36⟩ := stB X33 hx hZ e33 Ar35 (j := (q1 + (-1 : Int32))) hin35 (g := (mkF m 55 #[iv yy31, iv q1, rv t2, iv yy31, iv yy32, .val (.int (q1 + (-1 : Int32))), iv ng] [(.int (Int32.ofNat (48 + nAbs x / 10 ^ 0 % 100 % 10))), (.int (q1 + (-1 : Int32))), (.ref t2)])) rfl rfl (D d22_55)
     have V_t2_36 : Arv Z h36 t2 k2 .byte Y2 (lput xs ((q1 + (-1 : Int32))).toNatClampNeg (.int (nar .byte (Int32.ofNat (48 + nAbs x / 10 ^ 0 % 100 % 10)))) (.int (0 : Int32))) (.int (0 : Int32)) := Arv.set Ar35 q35 S35 Nx35 H35 G35 (fits_nar_byte _) W36 _ rfl (lput_len _ _ _)
     have N36 := Fr.snoc X36 NJ29 g_t2
     have O36 : Old Z n0 h36 := OJ29.wr W36 g_t2
     have K36 : Keep h0 h36 [t2] := KJ29.wr W36 (Or.inl (List.mem_of_getElem? (i := 0) rfl))
     refine zst 56 #[iv yy31, iv q1, rv t2, iv yy31, iv yy32, .val (.int (q1 + (-1 : Int32))), iv ng] [] st36 ?_
     refine zan 57 X36 hx (D d22_56) rfl rfl ?_
     refine zii 60 #[iv yy31, iv q1, rv t2, iv yy31, iv yy32, .val (.int ((q1 + (-1 : Int32)) + (-1 : Int32))), iv ng] X36 hx (D d22_57) rfl ?_
     refine zil 62 X36 hx (D d22_60) rfl ?_
     obtain ⟨T37, X37, e37, st37⟩ := getS2 X36 hx hZ hown (host := "") (Or.inl (ww hw 299 rfl)) Via.refl e36 (S_wT.ext O36.2) (g := (mkF m 62 #[iv yy31, iv q1, rv t2, iv yy31, iv yy32, .val (.int ((q1 + (-1 : Int32)) + (-1 : Int32))), iv ng] [(.int ((q1 + (-1 : Int32)) + (-1 : Int32))), (.ref t2)])) rfl (D d22_62)
     refine zst 65 #[iv yy31, iv q1, rv t2, iv yy31, iv yy32, .val (.int ((q1 + (-1 : Int32)) + (-1 : Int32))), iv ng] [(.ref wT), (.int ((q1 + (-1 : Int32)) + (-1 : Int32))), (.ref t2)] st37 ?_
     refine zil 67 X37 hx (D d22_65) rfl ?_
     obtain ⟨cl38, Ar38, -, S38, -, H38, -⟩ := id (V_wT.ext O36.2)
     have hin38 : ¬ (yy32 < 0 ∨ cl38.slots.size ≤ (yy32).toNatClampNeg) := inb_of S38 ⟨tb.2.1, tb.2.2⟩
     have hat38 : cl38.slots[(yy32).toNatClampNeg]? = some (.int (Int32.ofNat (48 + nAbs x / 10 ^ 0 % 100 / 10))) := H38.at hin38 tc.1
     refine Go.st (f' := (mkF m 68 #[iv yy31, iv q1, rv t2, iv yy31, iv yy32, .val (.int ((q1 + (-1 : Int32)) + (-1 : Int32))), iv ng] [(.int (Int32.ofNat (48 + nAbs x / 10 ^ 0 % 100 / 10))), (.int ((q1 + (-1 : Int32)) + (-1 : Int32))), (.ref t2)])) (fun _ k => X37.baloadBytes hx (j := yy32) (v := (.int (Int32.ofNat (48 + nAbs x / 10 ^ 0 % 100 / 10)))) (by rw [e37]; exact Ar38.1) (State.isArrayOf_alike hZ.alike Ar38.2.1) Ar38.2.2 hin38 hat38 (g := (mkF m 67 #[iv yy31, iv q1, rv t2, iv yy31, iv yy32, .val (.int ((q1 + (-1 : Int32)) + (-1 : Int32))), iv ng] [(.int yy32), (.ref wT), (.int ((q1 + (-1 : Int32)) + (-1 : Int32))), (.ref t2)])) rfl rfl (D d22_67) _ k) ?_
     obtain ⟨cl39, Ar39, q39, S39, Nx39, H39, G39⟩ := Arv.pad V_t2_36 (pad_rep (lput xs ((q1 + (-1 : Int32))).toNatClampNeg (.int (nar .byte (Int32.ofNat (48 + nAbs x / 10 ^ 0 % 100 % 10)))) (.int (0 : Int32))) (.int (0 : Int32)) ((((q1 + (-1 : Int32)) + (-1 : Int32))).toNatClampNeg + 1))
     have hin39 : ¬ (((q1 + (-1 : Int32)) + (-1 : Int32)) < 0 ∨ cl39.slots.size ≤ (((q1 + (-1 : Int32)) + (-1 : Int32))).toNatClampNeg) := inb_of S39 ⟨gs.2.2.1.1, gs.2.2.1.2⟩
     obtain ⟨T40, h40, X40, e40, W40, st40⟩ := stB X37 hx hZ e37 Ar39 (j := ((q1 + (-1 : Int32)) + (-1 : Int32))) hin39 (g := (mkF m 68 #[iv yy31, iv q1, rv t2, iv yy31, iv yy32, .val (.int ((q1 + (-1 : Int32)) + (-1 : Int32))), iv ng] [(.int (Int32.ofNat (48 + nAbs x / 10 ^ 0 % 100 / 10))), (.int ((q1 + (-1 : Int32)) + (-1 : Int32))), (.ref t2)])) rfl rfl (D d22_68)
     have V_t2_40 : Arv Z h40 t2 k2 .byte Y2 (lput (lput xs ((q1 + (-1 : Int32))).toNatClampNeg (.int (nar .byte (Int32.ofNat (48 + nAbs x / 10 ^ 0 % 100 % 10)))) (.int (0 : Int32))) (((q1 + (-1 : Int32)) + (-1 : Int32))).toNatClampNeg (.int (nar .byte (Int32.ofNat (48 + nAbs x / 10 ^ 0 % 100 / 10)))) (.int (0 : Int32))) (.int (0 : Int32)) := Arv.set Ar39 q39 S39 Nx39 H39 G39 (fits_nar_byte _) W40 _ rfl (lput_len _ _ _)
     have N40 := Fr.snoc X40 N36 g_t2
     have O40 : Old Z n0 h40 := O36.wr W40 g_t2
     have K40 : Keep h0 h40 [t2] := K36.wr W40 (Or.inl (List.mem_of_getElem? (i := 0) rfl))
     refine zst 69 #[iv yy31, iv q1, rv t2, iv yy31, iv yy32, .val (.int ((q1 + (-1 : Int32)) + (-1 : Int32))), iv ng] [] st40 ?_
     refine zgo 22 X40 hx (D d22_69) ?_
     exact GB 4 _ h40 _ yy31 ((q1 + (-1 : Int32)) + (-1 : Int32)) ng yy31 yy32 (lput (lput xs ((q1 + (-1 : Int32))).toNatClampNeg (.int (nar .byte (Int32.ofNat (48 + nAbs x / 10 ^ 0 % 100 % 10)))) (.int (0 : Int32))) (((q1 + (-1 : Int32)) + (-1 : Int32))).toNatClampNeg (.int (nar .byte (Int32.ofNat (48 + nAbs x / 10 ^ 0 % 100 / 10)))) (.int (0 : Int32))) (0 + 2) X40 e40 O40 N40 K40 V_t2_40 (gp_fu (gp_f5 x)) gs.2.2.2.1 gs.2.2.2.2 hng
  refine zin 1 X0 hx (D d22_0) rfl ?_
  refine zsl 3 #[iv x, iv q1, rv t2, .unset, .unset, iv q1, .unset] X0 hx (D d22_1) ?_
  refine zin 4 X0 hx (D d22_3) rfl ?_
  by_cases cd41 : x < (0 : Int32)
  · refine zfn 7 X0 hx (D d22_4) ((if0 _ _).trans (tlt cd41).2.1) ?_
    refine zic 8 1 X0 hx (D d22_7) ?_
    refine zgo 12 X0 hx (D d22_8) ?_
    refine zsl 14 #[iv x, iv q1, rv t2, .unset, .unset, iv q1, iv 1] X0 hx (D d22_12) ?_
    refine zil 16 X0 hx (D d22_14) rfl ?_
    refine zfy 22 X0 hx (D d22_16) (by decide) ?_
    exact GA _ h0 _ x (1 : Int32) X0 e0 O0 N0 K0 V_t2 (by have q := gp_start (x := x) (q1 := q1); rw [if_pos cd41] at q; exact q) (Or.inl ⟨cd41, rfl⟩)
  · refine zfy 11 X0 hx (D d22_4) ((if0 _ _).trans (flt cd41).2.1) ?_
    refine zic 12 0 X0 hx (D d22_11) ?_
    refine zsl 14 #[iv x, iv q1, rv t2, .unset, .unset, iv q1, iv 0] X0 hx (D d22_12) ?_
    refine zil 16 X0 hx (D d22_14) rfl ?_
    refine zfn 19 X0 hx (D d22_16) (by decide) ?_
    refine zin 20 X0 hx (D d22_19) rfl ?_
    refine Go.st (f' := (mkF m 21 #[iv x, iv q1, rv t2, .unset, .unset, iv q1, iv 0] [(.int (-x))])) (fun _ k => XS.ineg X0.here hx rfl (D d22_20) rfl k) ?_
    refine zsn 22 #[.val (.int (-x)), iv q1, rv t2, .unset, .unset, iv q1, iv 0] X0 hx (D d22_21) ?_
    exact GA _ h0 _ (-x) (0 : Int32) X0 e0 O0 N0 K0 V_t2 (by have q := gp_start (x := x) (q1 := q1); rw [if_neg cd41] at q; exact q) (Or.inr ⟨cd41, rfl⟩)
theorem own_fx {x c sz N M : Int32} {xs : List Value} (lc : Ln c xs) (ls : Ln sz (dsL x)) (h : xs.length + (dsL x).length ≤ 100) (d : Bd c N) (r : (c + sz).toInt ≤ M.toInt) (t : M.toInt ≤ 200) : Fx x (c + sz) c M xs := by
  have q := (own_cb lc ls h d).2
  have := ls.2
  exact ⟨lc, by omega, r, t⟩
theorem d19_0 : decode jdk_68_method_32_code 0 = .ok (.aload_n 0, 1) := by decide +kernel
theorem d19_1 : decode jdk_68_method_32_code 1 = .ok (.getfield 79, 3) := by decide +kernel
theorem d19_4 : decode jdk_68_method_32_code 4 = .ok (.istore_n 2, 1) := by decide +kernel
theorem d19_5 : decode jdk_68_method_32_code 5 = .ok (.iload_n 2, 1) := by decide +kernel
theorem d19_6 : decode jdk_68_method_32_code 6 = .ok (.iload_n 1, 1) := by decide +kernel
theorem d19_7 : decode jdk_68_method_32_code 7 = .ok (.invokestatic 245, 3) := by decide +kernel
theorem d19_10 : decode jdk_68_method_32_code 10 = .ok (.iadd, 1) := by decide +kernel
theorem d19_11 : decode jdk_68_method_32_code 11 = .ok (.istore_n 3, 1) := by decide +kernel
theorem d19_12 : decode jdk_68_method_32_code 12 = .ok (.aload_n 0, 1) := by decide +kernel
theorem d19_13 : decode jdk_68_method_32_code 13 = .ok (.iload_n 3, 1) := by decide +kernel
theorem d19_14 : decode jdk_68_method_32_code 14 = .ok (.invokevirtual 100, 3) := by decide +kernel
theorem d19_17 : decode jdk_68_method_32_code 17 = .ok (.aload_n 0, 1) := by decide +kernel
theorem d19_18 : decode jdk_68_method_32_code 18 = .ok (.invokevirtual 83, 3) := by decide +kernel
theorem d19_21 : decode jdk_68_method_32_code 21 = .ok (.ifCond .eq 16, 3) := by decide +kernel
theorem d19_24 : decode jdk_68_method_32_code 24 = .ok (.iload_n 1, 1) := by decide +kernel
theorem d19_25 : decode jdk_68_method_32_code 25 = .ok (.iload_n 3, 1) := by decide +kernel
theorem d19_26 : decode jdk_68_method_32_code 26 = .ok (.aload_n 0, 1) := by decide +kernel
theorem d19_27 : decode jdk_68_method_32_code 27 = .ok (.getfield 15, 3) := by decide +kernel
theorem d19_30 : decode jdk_68_method_32_code 30 = .ok (.invokestatic 248, 3) := by decide +kernel
theorem pd__II_B_I : parseMethodDescriptor "(II[B)I" = some ⟨[.int, .int, (.array .byte)], some .int⟩ := by decide +kernel
theorem d19_33 : decode jdk_68_method_32_code 33 = .ok (.pop, 1) := by decide +kernel
theorem d19_34 : decode jdk_68_method_32_code 34 = .ok (.goto 14, 3) := by decide +kernel
theorem d19_48 : decode jdk_68_method_32_code 48 = .ok (.aload_n 0, 1) := by decide +kernel
theorem d19_49 : decode jdk_68_method_32_code 49 = .ok (.iload_n 3, 1) := by decide +kernel
theorem d19_50 : decode jdk_68_method_32_code 50 = .ok (.putfield 79, 3) := by decide +kernel
theorem d19_53 : decode jdk_68_method_32_code 53 = .ok (.aload_n 0, 1) := by decide +kernel
theorem d19_54 : decode jdk_68_method_32_code 54 = .ok (.areturn, 1) := by decide +kernel
set_option maxRecDepth 65536 in
set_option maxHeartbeats 40000000 in
theorem gai (l : Launch) (Z : State) (a0 : Array Value) (hw : ∀ d ∈ tables_1, d.before a0 Z = true) (ws : List Jvm.Cond) (sb : Addr) (x : Int32) (t2 : Addr) (k2 : ClassId) (Y2 : Int32) (c2 : Int32) (xs : List Value) (wO : Addr) (wT : Addr) (kO : ClassId) (kT : ClassId) (iC : Int32) (vF : Value) (vU : Value) (vS : Value) (h0 : Heap) (n0 : Nat) (O0 : Old Z n0 h0) (lc : Ln c2 xs) (bd : Bd c2 Y2) (cap : xs.length ≤ 88) (g_sb : n0 ≤ sb) (g_t2 : n0 ≤ t2) (E_sb : Exa Z h0 sb "java/lang/StringBuilder") (F_sb_coder : Fld Z h0 sb "java/lang/AbstractStringBuilder" "coder" "B" (.int 0)) (F_sb_value : Fld Z h0 sb "java/lang/AbstractStringBuilder" "value" "[B" (.ref t2)) (F_sb_count : Fld Z h0 sb "java/lang/AbstractStringBuilder" "count" "I" (.int c2)) (E_t2 : Exa Z h0 t2 "[B") (V_t2 : Arv Z h0 t2 k2 .byte Y2 xs (.int 0)) (WW : World1 Z wO wT kO kT iC vF vU vS) :
    Con l Z mq30 jdk_68_method_32_code 4 (some (.object "java/lang/AbstractStringBuilder")) ws ({ frames := 4, cells := 1, slots := 200, locals := 62 } : Room) #[(.ref sb), (.int x)] h0 (fun v h L => ∃ cn : Int32, Ln cn (xs ++ dsL x) ∧ v = some (.ref sb) ∧ Fr n0 L ∧ Keep h0 h [sb, t2] ∧ Exa Z h sb "java/lang/StringBuilder" ∧ Fld Z h sb "java/lang/AbstractStringBuilder" "coder" "B" (.int 0) ∧ Fld Z h sb "java/lang/AbstractStringBuilder" "count" "I" (.int cn) ∧ ∃ (t : Addr) (kt : ClassId) (N : Int32), (t = t2 ∨ h0.size ≤ t) ∧ Fld Z h sb "java/lang/AbstractStringBuilder" "value" "[B" (.ref t) ∧ Exa Z h t "[B" ∧ Arv Z h t kt .byte N (xs ++ dsL x) (.int 0) ∧ Bd cn N) := by
  refine own_body (plainFor_of_name pn_java_lang_AbstractStringBuilder) ?_
  intro p e s m below meth c s₁ hx hby hml hZ hown hnm hlk hret X0 e0
  have N0 := Fr.nil n0
  have D := @hb _ _ hby
  have K0 : Keep h0 h0 [sb, t2] := Keep.refl _ _
  refine Go.st (T' := s₁) (f' := (mkF m 0 #[rv sb, iv x, .unset, .unset] [])) (fun _ k => castTop (by first | (simp [entryFrame, mkF, argsToLocals, Value.category]; done) | rfl) k) ?_
  have ⟨S_iC, nz_iC, S_vF, r_vF, S_vU, r_vU, S_vS, r_vS, S_wO, E_wO, S_wT, E_wT, V_wO, V_wT⟩ := WW
  have lt_wO := E_wO.lt
  have lt_wT := E_wT.lt
  have lt_sb := E_sb.lt
  have ne_wO_sb : wO ≠ sb := O0.ne lt_wO g_sb
  have ne_wT_sb : wT ≠ sb := O0.ne lt_wT g_sb
  have lt_t2 := V_t2.lt
  have ne_wO_t2 : wO ≠ t2 := O0.ne lt_wO g_t2
  have ne_wT_t2 : wT ≠ t2 := O0.ne lt_wT g_t2
  have nt_sb_t2 : sb ≠ t2 := Exa.neArv E_sb V_t2 (ww hw 38 rfl)
  refine zan 1 X0 hx (D d19_0) rfl rfl ?_
  refine zgf 4 X0 hx hZ hown (host := "") (Or.inl (ww hw 78 rfl)) Via.refl e0 F_sb_count (D d19_1) fun T1 X1 e1 => ?_
  refine zsn 5 #[rv sb, iv x, iv c2, .unset] X1 hx (D d19_4) ?_
  refine zin 6 X1 hx (D d19_5) rfl ?_
  refine zin 7 X1 hx (D d19_6) rfl ?_
  refine gS 10 1 0 0 X1 N0 hx hZ (y := mq28) hown hml (ww hw 114 rfl) (ww hw 115 rfl) (ww hw 116 rfl) (gss l Z a0 hw [] x h0 n0 O0) (ww hw 117 rfl) e1 [(.int x)] [(.int c2)] (lenOf pd__I_I rfl) (D d19_7) ?_
  rintro T2 L2 M2 _ X2 uu2 ⟨sz2, rfl, Nq2, kq2, ls2⟩
  have N2 := uu2 Nq2
  refine zsk [(.int sz2), (.int c2)] ?_
  refine zad 11 X2 hx (D d19_10) ?_
  refine zsn 12 #[rv sb, iv x, iv c2, .val (.int (c2 + sz2))] X2 hx (D d19_11) ?_
  refine zan 13 X2 hx (D d19_12) rfl rfl ?_
  refine zin 14 X2 hx (D d19_13) rfl ?_
  obtain ⟨cq3, q3, q3'⟩ := E_sb.cell
  obtain ⟨_, _, ⟨T3, L3, kk3, nn3⟩, -, X3, ⟨Lc3, hQ3, lq3, yq3, zz3⟩, st3⟩ := X2.privateBack hx (y := mq21) hown (mvT hZ (ww hw 80 rfl)) (mvT hZ (ww hw 81 rfl)) (own_selp (mvT hZ (ww hw 83 rfl)) (Cond.privateMethod_at (mvP hZ (ww hw 82 rfl) (args := #[]))) (mvT hZ (ww hw 81 rfl)) (by decide)) (Cond.privateMethod_at (mvP hZ (ww hw 82 rfl) (args := #[]))) (mvT hZ (ww hw 84 rfl)) (by decide) (own_back (W := 0) (gec l Z a0 hw [] sb (c2 + sz2) t2 k2 Y2 c2 xs wO wT kO kT iC vF vU vS h0 n0 O0 lc bd (own_cb lc ls2 (own_cd cap) bd).1 g_sb g_t2 E_sb F_sb_coder F_sb_value F_sb_count E_t2 V_t2 WW) hZ (ww hw 84 rfl) (ww hw 47 rfl) (by decide) (by decide)) (g := (mkF m 14 #[rv sb, iv x, iv c2, .val (.int (c2 + sz2))] [(.int (c2 + sz2)), (.ref sb)])) rfl (by rw [hml]; rfl) (Steps.refl _) (a := sb) (by rw [kq2]; exact q3) q3' (argsL := [(.int (c2 + sz2))]) (rest := []) (lenOf pd__I_V rfl) rfl (by show 2 * 0 + _ ≤ _; exact Nat.le_of_eq rfl) (D d19_14) (fun _ _ => ⟨rfl, kq2, (by decide : 0 + 1 ≤ _), (by decide : 0 + 200 ≤ _)⟩)
  dsimp only [Pt.U, Pt.locs, Pt.cells, Pt.slots] at X3 lq3 yq3 zz3 st3 hQ3
  subst lq3 yq3 zz3
  obtain ⟨rfl, Nq3, kq3, eq3, cq3, nq3, tt3, kt3, NN3, dz3, fq3, xq3, vq3, ra3, rb3, rc3⟩ := hQ3
  have N3 := Fr.app N2 Nq3
  have ne_sb_tt3 : sb ≠ tt3 := own_dn dz3 nt_sb_t2 lt_sb
  have ne_wO_tt3 : wO ≠ tt3 := own_dn dz3 ne_wO_t2 (Nat.lt_of_lt_of_le lt_wO O0.2.1)
  have ne_wT_tt3 : wT ≠ tt3 := own_dn dz3 ne_wT_t2 (Nat.lt_of_lt_of_le lt_wT O0.2.1)
  have g_tt3 : n0 ≤ tt3 := own_dt dz3 g_t2 (O0.1 ▸ O0.2.1)
  have ik_tt3 : tt3 ∈ [sb, t2] ∨ h0.size ≤ tt3 := own_ik dz3 K0.1
  have dy_tt3 := own_dz dz3 K0.1
  have O3 : Old Z n0 T3.heap := O0.keep kq3 (allS g_sb all0)
  have K3 : Keep h0 T3.heap [sb, t2] := K0.trans kq3 (allS (Or.inl (List.mem_of_getElem? (i := 0) rfl)) all0)
  have lt_tt3 := vq3.lt
  refine Go.tr (f' := (mkF m 17 #[rv sb, iv x, iv c2, .val (.int (c2 + sz2))] [])) st3 ?_
  refine zan 18 X3 hx (D d19_17) rfl rfl ?_
  refine gV 21 0 1 200 X3 N3 hx hZ (y := mq23) hown hml (ww hw 118 rfl) (ww hw 119 rfl) (ww hw 121 rfl) (ww hw 120 rfl) (gla l Z a0 hw [] sb wO wT kO kT iC vF vU vS T3.heap n0 O3 eq3 cq3 WW) (ww hw 122 rfl) (ww hw 47 rfl) rfl eq3 [] [] (lenOf pd___Z rfl) (D d19_18) ?_
  rintro T4 L4 M4 _ X4 uu4 ⟨rfl, Nq4, kq4⟩
  have N4 := uu4 Nq4
  refine zsk [(.int 1)] ?_
  refine zfn 24 X4 hx (D d19_21) (by decide) ?_
  refine zin 25 X4 hx (D d19_24) rfl ?_
  refine zin 26 X4 hx (D d19_25) rfl ?_
  refine zan 27 X4 hx (D d19_26) rfl rfl ?_
  refine zgf 30 X4 hx hZ hown (host := "") (Or.inl (ww hw 51 rfl)) Via.refl kq4 fq3 (D d19_27) fun T5 X5 e5 => ?_
  refine gS 33 0 1 200 X5 N4 hx hZ (y := mq29) hown hml (ww hw 123 rfl) (ww hw 124 rfl) (ww hw 116 rfl) (ggc l Z a0 hw [] x (c2 + sz2) tt3 kt3 NN3 c2 xs wO wT kO kT iC vF vU vS T3.heap n0 O3 (own_fx lc ls2 (own_cd cap) bd ra3 rc3) g_tt3 xq3 vq3 WW) (ww hw 125 rfl) e5 [(.int x), (.int (c2 + sz2)), (.ref tt3)] [] (lenOf pd__II_B_I rfl) (D d19_30) ?_
  rintro T6 L6 M6 _ X6 uu6 ⟨rr6, rfl, Nq6, kq6, vq6⟩
  have N6 := uu6 Nq6
  have O6 : Old Z n0 T6.heap := O3.keep kq6 (allS g_tt3 all0)
  have K6 : Keep h0 T6.heap [sb, t2] := K3.trans kq6 (allS ik_tt3 all0)
  refine zsk [(.int rr6)] ?_
  refine Go.st (f' := (mkF m 34 #[rv sb, iv x, iv c2, .val (.int (c2 + sz2))] [])) (fun _ k => XS.pop X6.here hx rfl (D d19_33) rfl rfl k) ?_
  refine zgo 48 X6 hx (D d19_34) ?_
  refine zan 49 X6 hx (D d19_48) rfl rfl ?_
  refine zin 50 X6 hx (D d19_49) rfl ?_
  have ft7 := (eq3.keep kq6)
  have ft8 := (nq3.keep kq6 (ninS ne_sb_tt3 nin0))
  obtain ⟨T9, h9, X9, e9, W9, st9⟩ := putF X6 hx hZ hown (host := "") (Or.inl (ww hw 78 rfl)) Via.refl rfl ft8 ft7 (Or.inl (ww hw 79 rfl)) (ww hw 38 rfl) (ty := .int) (by decide) rfl rfl (g := (mkF m 50 #[rv sb, iv x, iv c2, .val (.int (c2 + sz2))] [(.int (c2 + sz2)), (.ref sb)])) rfl rfl (D d19_50)
  have N9 := Fr.snoc X9 N6 g_sb
  have O9 : Old Z n0 h9 := O6.wr W9 g_sb
  have K9 : Keep h0 h9 [sb, t2] := K6.wr W9 (Or.inl (List.mem_of_getElem? (i := 0) rfl))
  have Fw9 := ft8.same W9
  refine zst 53 #[rv sb, iv x, iv c2, .val (.int (c2 + sz2))] [] st9 ?_
  refine zan 54 X9 hx (D d19_53) rfl rfl ?_
  refine Go.retV X9 hlk hx (t := (.object "java/lang/AbstractStringBuilder")) hret rfl (Or.inr (Or.inr (Or.inr (Or.inr ⟨rfl, rfl, rfl⟩)))) (D d19_54) e9 ?_ (by decide) (by decide)
  have ft10 := (ft7.wr W9)
  have ft11 := ((cq3.keep kq6 (ninS ne_sb_tt3 nin0)).other W9 (Or.inr (slot_ne (Or.inl (ww hw 54 rfl)) (Or.inl (ww hw 79 rfl)) (by decide) (t := .byte) (t' := .int) (by decide) (by decide))))
  have ft12 := ((fq3.keep kq6 (ninS ne_sb_tt3 nin0)).other W9 (Or.inr (slot_ne (Or.inl (ww hw 52 rfl)) (Or.inl (ww hw 79 rfl)) (by decide) (t := (.array .byte)) (t' := .int) (by decide) (by decide))))
  have ft13 := ((xq3.keep kq6).wr W9)
  have ft14 := (vq6.other W9 (Ne.symm ne_sb_tt3))
  exact ⟨(c2 + sz2), own_la lc ls2 (own_cd cap), rfl, N9, K9, ft10, ft11, Fw9, tt3, kt3, NN3, dy_tt3, ft12, ft13, ft14, own_bn (N := Y2) lc ls2 (own_cd cap) ra3 rc3⟩
theorem d18_0 : decode jdk_67_method_15_code 0 = .ok (.aload_n 0, 1) := by decide +kernel
theorem d18_1 : decode jdk_67_method_15_code 1 = .ok (.iload_n 1, 1) := by decide +kernel
theorem d18_2 : decode jdk_67_method_15_code 2 = .ok (.invokespecial 53, 3) := by decide +kernel
theorem pd__I_Ljava_lang_AbstractStringBuilder_ : parseMethodDescriptor "(I)Ljava/lang/AbstractStringBuilder;" = some ⟨[.int], some (.object "java/lang/AbstractStringBuilder")⟩ := by decide +kernel
theorem d18_5 : decode jdk_67_method_15_code 5 = .ok (.pop, 1) := by decide +kernel
theorem d18_6 : decode jdk_67_method_15_code 6 = .ok (.aload_n 0, 1) := by decide +kernel
theorem d18_7 : decode jdk_67_method_15_code 7 = .ok (.areturn, 1) := by decide +kernel
set_option maxRecDepth 65536 in
set_option maxHeartbeats 40000000 in
theorem gbi (l : Launch) (Z : State) (a0 : Array Value) (hw : ∀ d ∈ tables_1, d.before a0 Z = true) (ws : List Jvm.Cond) (sb : Addr) (x : Int32) (t2 : Addr) (k2 : ClassId) (Y2 : Int32) (c2 : Int32) (xs : List Value) (wO : Addr) (wT : Addr) (kO : ClassId) (kT : ClassId) (iC : Int32) (vF : Value) (vU : Value) (vS : Value) (h0 : Heap) (n0 : Nat) (O0 : Old Z n0 h0) (lc : Ln c2 xs) (bd : Bd c2 Y2) (cap : xs.length ≤ 88) (g_sb : n0 ≤ sb) (g_t2 : n0 ≤ t2) (E_sb : Exa Z h0 sb "java/lang/StringBuilder") (F_sb_coder : Fld Z h0 sb "java/lang/AbstractStringBuilder" "coder" "B" (.int 0)) (F_sb_value : Fld Z h0 sb "java/lang/AbstractStringBuilder" "value" "[B" (.ref t2)) (F_sb_count : Fld Z h0 sb "java/lang/AbstractStringBuilder" "count" "I" (.int c2)) (E_t2 : Exa Z h0 t2 "[B") (V_t2 : Arv Z h0 t2 k2 .byte Y2 xs (.int 0)) (WW : World1 Z wO wT kO kT iC vF vU vS) :
    Con l Z mq31 jdk_67_method_15_code 2 (some (.object "java/lang/StringBuilder")) ws ({ frames := 5, cells := 1, slots := 200, locals := 77 } : Room) #[(.ref sb), (.int x)] h0 (fun v h L => ∃ cn : Int32, Ln cn (xs ++ dsL x) ∧ v = some (.ref sb) ∧ Fr n0 L ∧ Keep h0 h [sb, t2] ∧ Exa Z h sb "java/lang/StringBuilder" ∧ Fld Z h sb "java/lang/AbstractStringBuilder" "coder" "B" (.int 0) ∧ Fld Z h sb "java/lang/AbstractStringBuilder" "count" "I" (.int cn) ∧ ∃ (t : Addr) (kt : ClassId) (N : Int32), (t = t2 ∨ h0.size ≤ t) ∧ Fld Z h sb "java/lang/AbstractStringBuilder" "value" "[B" (.ref t) ∧ Exa Z h t "[B" ∧ Arv Z h t kt .byte N (xs ++ dsL x) (.int 0) ∧ Bd cn N) := by
  refine own_body (plainFor_of_name pn_java_lang_StringBuilder) ?_
  intro p e s m below meth c s₁ hx hby hml hZ hown hnm hlk hret X0 e0
  have N0 := Fr.nil n0
  have D := @hb _ _ hby
  have K0 : Keep h0 h0 [sb, t2] := Keep.refl _ _
  refine Go.st (T' := s₁) (f' := (mkF m 0 #[rv sb, iv x] [])) (fun _ k => castTop (by first | (simp [entryFrame, mkF, argsToLocals, Value.category]; done) | rfl) k) ?_
  have ⟨S_iC, nz_iC, S_vF, r_vF, S_vU, r_vU, S_vS, r_vS, S_wO, E_wO, S_wT, E_wT, V_wO, V_wT⟩ := WW
  have lt_wO := E_wO.lt
  have lt_wT := E_wT.lt
  have lt_sb := E_sb.lt
  have ne_wO_sb : wO ≠ sb := O0.ne lt_wO g_sb
  have ne_wT_sb : wT ≠ sb := O0.ne lt_wT g_sb
  have lt_t2 := V_t2.lt
  have ne_wO_t2 : wO ≠ t2 := O0.ne lt_wO g_t2
  have ne_wT_t2 : wT ≠ t2 := O0.ne lt_wT g_t2
  have nt_sb_t2 : sb ≠ t2 := Exa.neArv E_sb V_t2 (ww hw 38 rfl)
  refine zan 1 X0 hx (D d18_0) rfl rfl ?_
  refine zin 2 X0 hx (D d18_1) rfl ?_
  obtain ⟨_, _, ⟨T1, L1, kk1, nn1⟩, -, X1, ⟨Lc1, hQ1, lq1, yq1, zz1⟩, st1⟩ := superBack X0 hx hZ (y := mq30) hown (ww hw 110 rfl) (own_same (ww hw 83 rfl) (ww hw 111 rfl) rfl (by decide)) (ww hw 111 rfl) (ww hw 65 rfl) (by decide) (own_back (W := 0) (gai l Z a0 hw [] sb x t2 k2 Y2 c2 xs wO wT kO kT iC vF vU vS h0 n0 O0 lc bd cap g_sb g_t2 E_sb F_sb_coder F_sb_value F_sb_count E_t2 V_t2 WW) hZ (ww hw 113 rfl) (ww hw 47 rfl) (by decide) (by decide)) e0 (Ins.self E_sb) (g := (mkF m 2 #[rv sb, iv x] [(.int x), (.ref sb)])) rfl (by rw [hml]; rfl) (ww hw 113 rfl) (argsL := [(.int x)]) (rest := []) (lenOf pd__I_Ljava_lang_AbstractStringBuilder_ rfl) rfl (by show 2 * 0 + _ ≤ _; exact Nat.le_of_eq rfl) (D d18_2) (fun _ _ => ⟨rfl, e0, (by decide : 0 + 1 ≤ _), (by decide : 0 + 200 ≤ _)⟩)
  dsimp only [Pt.U, Pt.locs, Pt.cells, Pt.slots] at X1 lq1 yq1 zz1 st1 hQ1
  subst lq1 yq1 zz1
  obtain ⟨cn1, ln1, rfl, Nq1, kq1, eq1, cq1, nq1, tt1, kt1, NN1, dz1, fq1, xq1, vq1, bd1⟩ := hQ1
  have N1 := Fr.app N0 Nq1
  have ne_sb_tt1 : sb ≠ tt1 := own_dn dz1 nt_sb_t2 lt_sb
  have ne_wO_tt1 : wO ≠ tt1 := own_dn dz1 ne_wO_t2 (Nat.lt_of_lt_of_le lt_wO O0.2.1)
  have ne_wT_tt1 : wT ≠ tt1 := own_dn dz1 ne_wT_t2 (Nat.lt_of_lt_of_le lt_wT O0.2.1)
  have g_tt1 : n0 ≤ tt1 := own_dt dz1 g_t2 (O0.1 ▸ O0.2.1)
  have ik_tt1 : tt1 ∈ [sb, t2] ∨ h0.size ≤ tt1 := own_ik dz1 K0.1
  have dy_tt1 := own_dz dz1 K0.1
  have O1 : Old Z n0 T1.heap := O0.keep kq1 (allS g_sb (allS g_t2 all0))
  have K1 : Keep h0 T1.heap [sb, t2] := K0.trans kq1 (allS (Or.inl (List.mem_of_getElem? (i := 0) rfl)) (allS (Or.inl (List.mem_of_getElem? (i := 1) rfl)) all0))
  have lt_tt1 := vq1.lt
  refine Go.tr (f' := (mkF m 5 #[rv sb, iv x] [(.ref sb)])) st1 ?_
  refine Go.st (f' := (mkF m 6 #[rv sb, iv x] [])) (fun _ k => XS.pop X1.here hx rfl (D d18_5) rfl rfl k) ?_
  refine zan 7 X1 hx (D d18_6) rfl rfl ?_
  refine Go.retV X1 hlk hx (t := (.object "java/lang/StringBuilder")) hret rfl (Or.inr (Or.inr (Or.inr (Or.inr ⟨rfl, rfl, rfl⟩)))) (D d18_7) rfl ?_ (by decide) (by decide)
  exact ⟨cn1, ln1, rfl, N1, K1, eq1, cq1, nq1, tt1, kt1, NN1, dy_tt1, fq1, xq1, vq1, bd1⟩
theorem d9_0 : decode jdk_68_method_2_code 0 = .ok (.aload_n 0, 1) := by decide +kernel
theorem d9_1 : decode jdk_68_method_2_code 1 = .ok (.invokespecial 3, 3) := by decide +kernel
theorem d9_4 : decode jdk_68_method_2_code 4 = .ok (.getstatic 18, 3) := by decide +kernel
theorem d9_7 : decode jdk_68_method_2_code 7 = .ok (.ifCond .eq 18, 3) := by decide +kernel
theorem d9_10 : decode jdk_68_method_2_code 10 = .ok (.aload_n 0, 1) := by decide +kernel
theorem d9_11 : decode jdk_68_method_2_code 11 = .ok (.iload_n 1, 1) := by decide +kernel
theorem d9_12 : decode jdk_68_method_2_code 12 = .ok (.newarray .byte, 2) := by decide +kernel
theorem d9_14 : decode jdk_68_method_2_code 14 = .ok (.putfield 15, 3) := by decide +kernel
theorem d9_17 : decode jdk_68_method_2_code 17 = .ok (.aload_n 0, 1) := by decide +kernel
theorem d9_18 : decode jdk_68_method_2_code 18 = .ok (.iconst 0, 1) := by decide +kernel
theorem d9_19 : decode jdk_68_method_2_code 19 = .ok (.putfield 22, 3) := by decide +kernel
theorem d9_22 : decode jdk_68_method_2_code 22 = .ok (.goto 16, 3) := by decide +kernel
theorem d9_38 : decode jdk_68_method_2_code 38 = .ok (.return_, 1) := by decide +kernel
set_option maxRecDepth 65536 in
set_option maxHeartbeats 40000000 in
theorem gc1 (l : Launch) (Z : State) (a0 : Array Value) (hw : ∀ d ∈ tables_1, d.before a0 Z = true) (ws : List Jvm.Cond) (sb : Addr) (wO : Addr) (wT : Addr) (kO : ClassId) (kT : ClassId) (iC : Int32) (vF : Value) (vU : Value) (vS : Value) (h0 : Heap) (n0 : Nat) (O0 : Old Z n0 h0) (g_sb : n0 ≤ sb) (E_sb : Exa Z h0 sb "java/lang/StringBuilder") (F_sb_coder : Fld Z h0 sb "java/lang/AbstractStringBuilder" "coder" "B" (.int 0)) (F_sb_value : Fld Z h0 sb "java/lang/AbstractStringBuilder" "value" "[B" .null) (F_sb_count : Fld Z h0 sb "java/lang/AbstractStringBuilder" "count" "I" (.int 0)) (WW : World1 Z wO wT kO kT iC vF vU vS) :
    Con l Z mq32 jdk_68_method_2_code 2 none ws ({ frames := 1, cells := 1, slots := 16, locals := 12 } : Room) #[(.ref sb), (.int 16)] h0 (fun v h L => v = none ∧ Fr n0 L ∧ Keep h0 h [sb] ∧ Exa Z h sb "java/lang/StringBuilder" ∧ Fld Z h sb "java/lang/AbstractStringBuilder" "coder" "B" (.int 0) ∧ Fld Z h sb "java/lang/AbstractStringBuilder" "count" "I" (.int 0) ∧ ∃ (t : Addr) (kt : ClassId), h0.size ≤ t ∧ Fld Z h sb "java/lang/AbstractStringBuilder" "value" "[B" (.ref t) ∧ Exa Z h t "[B" ∧ Arv Z h t kt .byte (16 : Int32) [] (.int 0)) := by
  refine own_body (plainFor_of_name pn_java_lang_AbstractStringBuilder) ?_
  intro p e s m below meth c s₁ hx hby hml hZ hown hnm hlk hret X0 e0
  have N0 := Fr.nil n0
  have D := @hb _ _ hby
  have K0 : Keep h0 h0 [sb] := Keep.refl _ _
  refine Go.st (T' := s₁) (f' := (mkF m 0 #[rv sb, iv 16] [])) (fun _ k => castTop (by first | (simp [entryFrame, mkF, argsToLocals, Value.category]; done) | rfl) k) ?_
  have ⟨S_iC, nz_iC, S_vF, r_vF, S_vU, r_vU, S_vS, r_vS, S_wO, E_wO, S_wT, E_wT, V_wO, V_wT⟩ := WW
  have lt_wO := E_wO.lt
  have lt_wT := E_wT.lt
  have lt_sb := E_sb.lt
  have ne_wO_sb : wO ≠ sb := O0.ne lt_wO g_sb
  have ne_wT_sb : wT ≠ sb := O0.ne lt_wT g_sb
  refine zan 1 X0 hx (D d9_0) rfl rfl ?_
  obtain ⟨T1, X1, e1, st1⟩ := initO X0 hx hZ hown (ww hw 49 rfl) (ww hw 13 rfl) (ww hw 14 rfl) e0 (g := (mkF m 1 #[rv sb, iv 16] [(.ref sb)])) rfl (by rw [hml]; rfl) rfl (D d9_1) (by decide) (W := 0) (by show 2 * 0 + _ ≤ _; exact Nat.le_of_eq rfl) (by decide)
  refine zst 4 #[rv sb, iv 16] [] st1 ?_
  obtain ⟨T2, X2, e2, st2⟩ := getS2 X1 hx hZ hown (host := "") (Or.inl (ww hw 50 rfl)) Via.refl e1 (S_iC.ext O0.2) (g := (mkF m 4 #[rv sb, iv 16] [])) rfl (D d9_4)
  refine zst 7 #[rv sb, iv 16] [(.int iC)] st2 ?_
  refine zfn 10 X2 hx (D d9_7) ((if0 _ _).trans (feq nz_iC).1) ?_
  refine zan 11 X2 hx (D d9_10) rfl rfl ?_
  refine zin 12 X2 hx (D d9_11) rfl ?_
  obtain ⟨T3, h3, kc3, X3, e3, E3, A3, Ex3, st3⟩ := newPE X2 hx hZ (ww hw 20 rfl) e2 (g := (mkF m 12 #[rv sb, iv 16] [(.int 16), (.ref sb)])) rfl (D d9_12) rfl (by decide) (cap := 16) (by decide) (by decide) (by decide) (by decide) rfl
  obtain ⟨b3, g3⟩ : ∃ z, z = h0.size := ⟨_, rfl⟩
  rw [← g3] at A3 Ex3 st3
  have ne_sb_b3 : sb ≠ b3 := Nat.ne_of_lt (Nat.lt_of_lt_of_eq lt_sb g3.symm)
  have ne_wO_b3 : wO ≠ b3 := Nat.ne_of_lt (Nat.lt_of_lt_of_le lt_wO (Nat.le_trans O0.2.1 (Nat.le_of_eq g3.symm)))
  have ne_wT_b3 : wT ≠ b3 := Nat.ne_of_lt (Nat.lt_of_lt_of_le lt_wT (Nat.le_trans O0.2.1 (Nat.le_of_eq g3.symm)))
  have g_b3 : n0 ≤ b3 := Nat.le_trans (O0.1 ▸ O0.2.1) (Nat.le_of_eq g3.symm)
  have O3 : Old Z n0 h3 := O0.ext E3
  have sz_b3 : h0.size ≤ b3 := Nat.le_trans K0.1 (Nat.le_of_eq g3.symm)
  have K3 : Keep h0 h3 [sb] := K0.ext E3
  have V_b3 : Arv Z h3 b3 kc3 .byte (16 : Int32) [] (.int (0 : Int32)) := Arv.new A3 (by decide)
  have lt_b3 := V_b3.lt
  refine zst 14 #[rv sb, iv 16] [(.ref b3), (.ref sb)] st3 ?_
  have ft4 := (E_sb.ext E3)
  have ft5 := (F_sb_value.ext E3)
  obtain ⟨T6, h6, X6, e6, W6, st6⟩ := putF X3 hx hZ hown (host := "") (Or.inl (ww hw 51 rfl)) Via.refl e3 ft5 ft4 (Or.inl (ww hw 52 rfl)) (ww hw 38 rfl) (ty := (.array .byte)) (by decide) rfl rfl (g := (mkF m 14 #[rv sb, iv 16] [(.ref b3), (.ref sb)])) rfl rfl (D d9_14)
  have N6 := Fr.snoc X6 N0 g_sb
  have O6 : Old Z n0 h6 := O3.wr W6 g_sb
  have K6 : Keep h0 h6 [sb] := K3.wr W6 (Or.inl (List.mem_of_getElem? (i := 0) rfl))
  have Fw6 := ft5.same W6
  refine zst 17 #[rv sb, iv 16] [] st6 ?_
  refine zan 18 X6 hx (D d9_17) rfl rfl ?_
  refine zic 19 0 X6 hx (D d9_18) ?_
  have ft7 := (ft4.wr W6)
  have ft8 := ((F_sb_coder.ext E3).other W6 (Or.inr (slot_ne (Or.inl (ww hw 54 rfl)) (Or.inl (ww hw 52 rfl)) (by decide) (t := .byte) (t' := (.array .byte)) (by decide) (by decide))))
  obtain ⟨T9, h9, X9, e9, W9, st9⟩ := putFN X6 hx hZ hown (ww hw 53 rfl) Via.refl e6 ft8 ft7 (Or.inl (ww hw 54 rfl)) (ww hw 38 rfl) (ty := .byte) (v' := (.int (0 : Int32))) (by decide) rfl (by decide) (g := (mkF m 19 #[rv sb, iv 16] [(.int 0), (.ref sb)])) rfl rfl (D d9_19)
  have N9 := Fr.snoc X9 N6 g_sb
  have O9 : Old Z n0 h9 := O6.wr W9 g_sb
  have K9 : Keep h0 h9 [sb] := K6.wr W9 (Or.inl (List.mem_of_getElem? (i := 0) rfl))
  have Fw9 := ft8.same W9
  refine zst 22 #[rv sb, iv 16] [] st9 ?_
  refine zgo 38 X9 hx (D d9_22) ?_
  refine Go.ret0 X9 hlk hx hret (D d9_38) e9 ?_ (by decide) (by decide)
  have ft10 := (ft7.wr W9)
  have ft11 := (((F_sb_count.ext E3).other W6 (Or.inr (slot_ne (Or.inl (ww hw 79 rfl)) (Or.inl (ww hw 52 rfl)) (by decide) (t := .int) (t' := (.array .byte)) (by decide) (by decide)))).other W9 (Or.inr (slot_ne (Or.inl (ww hw 79 rfl)) (Or.inl (ww hw 54 rfl)) (by decide) (t := .int) (t' := .byte) (by decide) (by decide))))
  have ft12 := (Fw6.other W9 (Or.inr (slot_ne (Or.inl (ww hw 52 rfl)) (Or.inl (ww hw 54 rfl)) (by decide) (t := (.array .byte)) (t' := .byte) (by decide) (by decide))))
  have ft13 := ((Ex3.wr W6).wr W9)
  have ft14 := ((V_b3.other W6 (Ne.symm ne_sb_b3)).other W9 (Ne.symm ne_sb_b3))
  exact ⟨rfl, N9, K9, ft10, Fw9, ft11, b3, kc3, sz_b3, ft12, ft13, ft14⟩
theorem d8_0 : decode jdk_67_method_1_code 0 = .ok (.aload_n 0, 1) := by decide +kernel
theorem d8_1 : decode jdk_67_method_1_code 1 = .ok (.bipush 16, 2) := by decide +kernel
theorem d8_3 : decode jdk_67_method_1_code 3 = .ok (.invokespecial 1, 3) := by decide +kernel
theorem d8_6 : decode jdk_67_method_1_code 6 = .ok (.return_, 1) := by decide +kernel
set_option maxRecDepth 65536 in
set_option maxHeartbeats 40000000 in
theorem gc2 (l : Launch) (Z : State) (a0 : Array Value) (hw : ∀ d ∈ tables_1, d.before a0 Z = true) (ws : List Jvm.Cond) (sb : Addr) (wO : Addr) (wT : Addr) (kO : ClassId) (kT : ClassId) (iC : Int32) (vF : Value) (vU : Value) (vS : Value) (h0 : Heap) (n0 : Nat) (O0 : Old Z n0 h0) (g_sb : n0 ≤ sb) (E_sb : Exa Z h0 sb "java/lang/StringBuilder") (F_sb_coder : Fld Z h0 sb "java/lang/AbstractStringBuilder" "coder" "B" (.int 0)) (F_sb_value : Fld Z h0 sb "java/lang/AbstractStringBuilder" "value" "[B" .null) (F_sb_count : Fld Z h0 sb "java/lang/AbstractStringBuilder" "count" "I" (.int 0)) (WW : World1 Z wO wT kO kT iC vF vU vS) :
    Con l Z mq33 jdk_67_method_1_code 1 none ws ({ frames := 2, cells := 1, slots := 16, locals := 25 } : Room) #[(.ref sb)] h0 (fun v h L => v = none ∧ Fr n0 L ∧ Keep h0 h [sb] ∧ Exa Z h sb "java/lang/StringBuilder" ∧ Fld Z h sb "java/lang/AbstractStringBuilder" "coder" "B" (.int 0) ∧ Fld Z h sb "java/lang/AbstractStringBuilder" "count" "I" (.int 0) ∧ ∃ (t : Addr) (kt : ClassId), h0.size ≤ t ∧ Fld Z h sb "java/lang/AbstractStringBuilder" "value" "[B" (.ref t) ∧ Exa Z h t "[B" ∧ Arv Z h t kt .byte (16 : Int32) [] (.int 0)) := by
  refine own_body (plainFor_of_name pn_java_lang_StringBuilder) ?_
  intro p e s m below meth c s₁ hx hby hml hZ hown hnm hlk hret X0 e0
  have N0 := Fr.nil n0
  have D := @hb _ _ hby
  have K0 : Keep h0 h0 [sb] := Keep.refl _ _
  refine Go.st (T' := s₁) (f' := (mkF m 0 #[rv sb] [])) (fun _ k => castTop (by first | (simp [entryFrame, mkF, argsToLocals, Value.category]; done) | rfl) k) ?_
  have ⟨S_iC, nz_iC, S_vF, r_vF, S_vU, r_vU, S_vS, r_vS, S_wO, E_wO, S_wT, E_wT, V_wO, V_wT⟩ := WW
  have lt_wO := E_wO.lt
  have lt_wT := E_wT.lt
  have lt_sb := E_sb.lt
  have ne_wO_sb : wO ≠ sb := O0.ne lt_wO g_sb
  have ne_wT_sb : wT ≠ sb := O0.ne lt_wT g_sb
  refine zan 1 X0 hx (D d8_0) rfl rfl ?_
  refine zbp 3 16 X0 hx (D d8_1) ?_
  obtain ⟨_, _, ⟨T1, L1, kk1, nn1⟩, -, X1, ⟨Lc1, hQ1, lq1, yq1, zz1⟩, st1⟩ := X0.specialBack hx (y := mq32) rfl hown (mvT hZ (ww hw 43 rfl)) (mvT hZ (ww hw 44 rfl)) (mvT hZ (ww hw 48 rfl)) (by decide) (own_back (W := 0) (gc1 l Z a0 hw [] sb wO wT kO kT iC vF vU vS h0 n0 O0 g_sb E_sb F_sb_coder F_sb_value F_sb_count WW) hZ (ww hw 48 rfl) (ww hw 47 rfl) (by decide) (by decide)) (g := (mkF m 3 #[rv sb] [(.int 16), (.ref sb)])) rfl (by rw [hml]; rfl) (Steps.refl _) (a := sb) (argsL := [(.int (16 : Int32))]) (rest := []) (lenOf pd__I_V rfl) rfl (by show 2 * 0 + _ ≤ _; exact Nat.le_of_eq rfl) (D d8_3) (fun _ _ => ⟨rfl, e0, (by decide : 0 + 1 ≤ _), (by decide : 0 + 16 ≤ _)⟩)
  dsimp only [Pt.U, Pt.locs, Pt.cells, Pt.slots] at X1 lq1 yq1 zz1 st1 hQ1
  subst lq1 yq1 zz1
  obtain ⟨rfl, Nq1, kq1, eq1, cq1, nq1, tt1, kt1, zq1, fq1, xq1, vq1⟩ := hQ1
  have N1 := Fr.app N0 Nq1
  have ne_sb_tt1 : sb ≠ tt1 := Nat.ne_of_lt (Nat.lt_of_lt_of_le lt_sb zq1)
  have ne_wO_tt1 : wO ≠ tt1 := Nat.ne_of_lt (Nat.lt_of_lt_of_le lt_wO (Nat.le_trans O0.2.1 zq1))
  have ne_wT_tt1 : wT ≠ tt1 := Nat.ne_of_lt (Nat.lt_of_lt_of_le lt_wT (Nat.le_trans O0.2.1 zq1))
  have g_tt1 : n0 ≤ tt1 := Nat.le_trans (O0.1 ▸ O0.2.1) zq1
  have sz_tt1 : h0.size ≤ tt1 := Nat.le_trans K0.1 zq1
  have O1 : Old Z n0 T1.heap := O0.keep kq1 (allS g_sb all0)
  have K1 : Keep h0 T1.heap [sb] := K0.trans kq1 (allS (Or.inl (List.mem_of_getElem? (i := 0) rfl)) all0)
  have lt_tt1 := vq1.lt
  have ln1 : Ln (0 : Int32) [] := ⟨by decide, by decide⟩
  have bd1 : Bd (0 : Int32) (16 : Int32) := ⟨by decide, by decide, by decide⟩
  refine Go.tr (f' := (mkF m 6 #[rv sb] [])) st1 ?_
  refine Go.ret0 X1 hlk hx hret (D d8_6) rfl ?_ (by decide) (by decide)
  exact ⟨rfl, N1, K1, eq1, cq1, nq1, tt1, kt1, sz_tt1, fq1, xq1, vq1⟩
theorem d31_0 : decode jdk_68_method_64_code 0 = .ok (.aload_n 0, 1) := by decide +kernel
theorem d31_1 : decode jdk_68_method_64_code 1 = .ok (.getfield 15, 3) := by decide +kernel
theorem d31_4 : decode jdk_68_method_64_code 4 = .ok (.areturn, 1) := by decide +kernel
set_option maxRecDepth 65536 in
set_option maxHeartbeats 40000000 in
theorem gv1 (l : Launch) (Z : State) (a0 : Array Value) (hw : ∀ d ∈ tables_1, d.before a0 Z = true) (ws : List Jvm.Cond) (sb : Addr) (t2 : Addr) (h0 : Heap) (n0 : Nat) (O0 : Old Z n0 h0) (E_sb : Exa Z h0 sb "java/lang/StringBuilder") (F_sb_value : Fld Z h0 sb "java/lang/AbstractStringBuilder" "value" "[B" (.ref t2)) :
    Con l Z mq34 jdk_68_method_64_code 1 (some (.array .byte)) ws ({ frames := 0, cells := 0, slots := 0, locals := 0 } : Room) #[(.ref sb)] h0 (fun v h L => v = some (.ref t2) ∧ Fr n0 L ∧ h = h0) := by
  refine own_body (plainFor_of_name pn_java_lang_AbstractStringBuilder) ?_
  intro p e s m below meth c s₁ hx hby hml hZ hown hnm hlk hret X0 e0
  have N0 := Fr.nil n0
  have D := @hb _ _ hby
  refine Go.st (T' := s₁) (f' := (mkF m 0 #[rv sb] [])) (fun _ k => castTop (by first | (simp [entryFrame, mkF, argsToLocals, Value.category]; done) | rfl) k) ?_
  have lt_sb := E_sb.lt
  refine zan 1 X0 hx (D d31_0) rfl rfl ?_
  refine zgf 4 X0 hx hZ hown (host := "") (Or.inl (ww hw 51 rfl)) Via.refl e0 F_sb_value (D d31_1) fun T1 X1 e1 => ?_
  refine Go.retV X1 hlk hx (t := (.array .byte)) hret rfl (Or.inr (Or.inr (Or.inr (Or.inr ⟨rfl, rfl, rfl⟩)))) (D d31_4) e1 ?_ (by decide) (by decide)
  exact ⟨rfl, N0, rfl⟩
theorem d33_0 : decode jdk_68_method_6_code 0 = .ok (.aload_n 0, 1) := by decide +kernel
theorem d33_1 : decode jdk_68_method_6_code 1 = .ok (.getfield 79, 3) := by decide +kernel
theorem d33_4 : decode jdk_68_method_6_code 4 = .ok (.ireturn, 1) := by decide +kernel
set_option maxRecDepth 65536 in
set_option maxHeartbeats 40000000 in
theorem gv2 (l : Launch) (Z : State) (a0 : Array Value) (hw : ∀ d ∈ tables_1, d.before a0 Z = true) (ws : List Jvm.Cond) (sb : Addr) (c2 : Int32) (h0 : Heap) (n0 : Nat) (O0 : Old Z n0 h0) (E_sb : Exa Z h0 sb "java/lang/StringBuilder") (F_sb_count : Fld Z h0 sb "java/lang/AbstractStringBuilder" "count" "I" (.int c2)) :
    Con l Z mq35 jdk_68_method_6_code 1 (some .int) ws ({ frames := 0, cells := 0, slots := 0, locals := 0 } : Room) #[(.ref sb)] h0 (fun v h L => v = some (.int c2) ∧ Fr n0 L ∧ h = h0) := by
  refine own_body (plainFor_of_name pn_java_lang_AbstractStringBuilder) ?_
  intro p e s m below meth c s₁ hx hby hml hZ hown hnm hlk hret X0 e0
  have N0 := Fr.nil n0
  have D := @hb _ _ hby
  refine Go.st (T' := s₁) (f' := (mkF m 0 #[rv sb] [])) (fun _ k => castTop (by first | (simp [entryFrame, mkF, argsToLocals, Value.category]; done) | rfl) k) ?_
  have lt_sb := E_sb.lt
  refine zan 1 X0 hx (D d33_0) rfl rfl ?_
  refine zgf 4 X0 hx hZ hown (host := "") (Or.inl (ww hw 78 rfl)) Via.refl e0 F_sb_count (D d33_1) fun T1 X1 e1 => ?_
  refine Go.retV X1 hlk hx (t := .int) hret rfl (Or.inl ⟨rfl, Or.inl rfl, _, rfl⟩) (D d33_4) e1 ?_ (by decide) (by decide)
  exact ⟨rfl, N0, rfl⟩
theorem d32_0 : decode jdk_67_method_93_code 0 = .ok (.aload_n 0, 1) := by decide +kernel
theorem d32_1 : decode jdk_67_method_93_code 1 = .ok (.invokespecial 343, 3) := by decide +kernel
theorem d32_4 : decode jdk_67_method_93_code 4 = .ok (.ireturn, 1) := by decide +kernel
set_option maxRecDepth 65536 in
set_option maxHeartbeats 40000000 in
theorem gv3 (l : Launch) (Z : State) (a0 : Array Value) (hw : ∀ d ∈ tables_1, d.before a0 Z = true) (ws : List Jvm.Cond) (sb : Addr) (c2 : Int32) (h0 : Heap) (n0 : Nat) (O0 : Old Z n0 h0) (E_sb : Exa Z h0 sb "java/lang/StringBuilder") (F_sb_count : Fld Z h0 sb "java/lang/AbstractStringBuilder" "count" "I" (.int c2)) :
    Con l Z mq36 jdk_67_method_93_code 1 (some .int) ws ({ frames := 1, cells := 0, slots := 0, locals := 12 } : Room) #[(.ref sb)] h0 (fun v h L => v = some (.int c2) ∧ Fr n0 L ∧ h = h0) := by
  refine own_body (plainFor_of_name pn_java_lang_StringBuilder) ?_
  intro p e s m below meth c s₁ hx hby hml hZ hown hnm hlk hret X0 e0
  have N0 := Fr.nil n0
  have D := @hb _ _ hby
  refine Go.st (T' := s₁) (f' := (mkF m 0 #[rv sb] [])) (fun _ k => castTop (by first | (simp [entryFrame, mkF, argsToLocals, Value.category]; done) | rfl) k) ?_
  have lt_sb := E_sb.lt
  refine zan 1 X0 hx (D d32_0) rfl rfl ?_
  obtain ⟨_, _, ⟨T1, L1, kk1, nn1⟩, -, X1, ⟨Lc1, hQ1, lq1, yq1, zz1⟩, st1⟩ := superBack X0 hx hZ (y := mq35) hown (ww hw 175 rfl) (own_same (ww hw 83 rfl) (ww hw 171 rfl) rfl (by decide)) (ww hw 171 rfl) (ww hw 65 rfl) (by decide) (own_back (W := 0) (gv2 l Z a0 hw [] sb c2 h0 n0 O0 E_sb F_sb_count) hZ (ww hw 176 rfl) (ww hw 47 rfl) (by decide) (by decide)) e0 (Ins.self E_sb) (g := (mkF m 1 #[rv sb] [(.ref sb)])) rfl (by rw [hml]; rfl) (ww hw 176 rfl) (argsL := []) (rest := []) (lenOf pd___I rfl) rfl (by show 2 * 0 + _ ≤ _; exact Nat.le_of_eq rfl) (D d32_1) (fun _ _ => ⟨rfl, e0, (by decide : 0 + 0 ≤ _), (by decide : 0 + 0 ≤ _)⟩)
  dsimp only [Pt.U, Pt.locs, Pt.cells, Pt.slots] at X1 lq1 yq1 zz1 st1 hQ1
  subst lq1 yq1 zz1
  obtain ⟨rfl, Nq1, kq1⟩ := hQ1
  have N1 := Fr.app N0 Nq1
  refine Go.tr (f' := (mkF m 4 #[rv sb] [(.int c2)])) st1 ?_
  refine Go.retV X1 hlk hx (t := .int) hret rfl (Or.inl ⟨rfl, Or.inl rfl, _, rfl⟩) (D d32_4) kq1 ?_ (by decide) (by decide)
  exact ⟨rfl, N1, rfl⟩
theorem d36_0 : decode jdk_65_method_131_code 0 = .ok (.iload_n 1, 1) := by decide +kernel
theorem d36_1 : decode jdk_65_method_131_code 1 = .ok (.iload_n 0, 1) := by decide +kernel
theorem d36_2 : decode jdk_65_method_131_code 2 = .ok (.if_icmp .ge 35, 3) := by decide +kernel
theorem d36_37 : decode jdk_65_method_131_code 37 = .ok (.return_, 1) := by decide +kernel
set_option maxRecDepth 65536 in
set_option maxHeartbeats 40000000 in
theorem gck (l : Launch) (Z : State) (a0 : Array Value) (hw : ∀ d ∈ tables_1, d.before a0 Z = true) (ws : List Jvm.Cond) (c2 : Int32) (h0 : Heap) (n0 : Nat) (O0 : Old Z n0 h0) (hlo : ¬ c2 < (0 : Int32)) :
    Con l Z mq37 jdk_65_method_131_code 2 none ws ({ frames := 0, cells := 0, slots := 0, locals := 0 } : Room) #[(.int 0), (.int c2)] h0 (fun v h L => v = none ∧ Fr n0 L ∧ h = h0) := by
  refine own_body (plainFor_of_name pn_java_util_Arrays) ?_
  intro p e s m below meth c s₁ hx hby hml hZ hown hnm hlk hret X0 e0
  have N0 := Fr.nil n0
  have D := @hb _ _ hby
  refine Go.st (T' := s₁) (f' := (mkF m 0 #[iv 0, iv c2] [])) (fun _ k => castTop (by first | (simp [entryFrame, mkF, argsToLocals, Value.category]; done) | rfl) k) ?_
  refine zin 1 X0 hx (D d36_0) rfl ?_
  refine zin 2 X0 hx (D d36_1) rfl ?_
  refine zcy 37 X0 hx (D d36_2) (flt hlo).2.1 ?_
  refine Go.ret0 X0 hlk hx hret (D d36_37) e0 ?_ (by decide) (by decide)
  exact ⟨rfl, N0, rfl⟩
theorem d35_0 : decode jdk_65_method_133_code 0 = .ok (.iload_n 1, 1) := by decide +kernel
theorem d35_1 : decode jdk_65_method_133_code 1 = .ok (.iload_n 2, 1) := by decide +kernel
theorem d35_2 : decode jdk_65_method_133_code 2 = .ok (.invokestatic 343, 3) := by decide +kernel
theorem d35_5 : decode jdk_65_method_133_code 5 = .ok (.iload_n 2, 1) := by decide +kernel
theorem d35_6 : decode jdk_65_method_133_code 6 = .ok (.iload_n 1, 1) := by decide +kernel
theorem d35_7 : decode jdk_65_method_133_code 7 = .ok (.isub, 1) := by decide +kernel
theorem d35_8 : decode jdk_65_method_133_code 8 = .ok (.istore_n 3, 1) := by decide +kernel
theorem d35_9 : decode jdk_65_method_133_code 9 = .ok (.iload_n 3, 1) := by decide +kernel
theorem d35_10 : decode jdk_65_method_133_code 10 = .ok (.newarray .byte, 2) := by decide +kernel
theorem d35_12 : decode jdk_65_method_133_code 12 = .ok (.astore 4, 2) := by decide +kernel
theorem d35_14 : decode jdk_65_method_133_code 14 = .ok (.aload_n 0, 1) := by decide +kernel
theorem d35_15 : decode jdk_65_method_133_code 15 = .ok (.iload_n 1, 1) := by decide +kernel
theorem d35_16 : decode jdk_65_method_133_code 16 = .ok (.aload 4, 2) := by decide +kernel
theorem d35_18 : decode jdk_65_method_133_code 18 = .ok (.iconst 0, 1) := by decide +kernel
theorem d35_19 : decode jdk_65_method_133_code 19 = .ok (.aload_n 0, 1) := by decide +kernel
theorem d35_20 : decode jdk_65_method_133_code 20 = .ok (.arraylength, 1) := by decide +kernel
theorem d35_21 : decode jdk_65_method_133_code 21 = .ok (.iload_n 1, 1) := by decide +kernel
theorem d35_22 : decode jdk_65_method_133_code 22 = .ok (.isub, 1) := by decide +kernel
theorem d35_23 : decode jdk_65_method_133_code 23 = .ok (.iload_n 3, 1) := by decide +kernel
theorem d35_24 : decode jdk_65_method_133_code 24 = .ok (.invokestatic 304, 3) := by decide +kernel
theorem d35_27 : decode jdk_65_method_133_code 27 = .ok (.invokestatic 150, 3) := by decide +kernel
theorem d35_30 : decode jdk_65_method_133_code 30 = .ok (.aload 4, 2) := by decide +kernel
theorem d35_32 : decode jdk_65_method_133_code 32 = .ok (.areturn, 1) := by decide +kernel
set_option maxRecDepth 65536 in
set_option maxHeartbeats 40000000 in
theorem grb (l : Launch) (Z : State) (a0 : Array Value) (hw : ∀ d ∈ tables_1, d.before a0 Z = true) (ws : List Jvm.Cond) (t2 : Addr) (k2 : ClassId) (Y2 : Int32) (c2 : Int32) (xs : List Value) (wO : Addr) (wT : Addr) (kO : ClassId) (kT : ClassId) (iC : Int32) (vF : Value) (vU : Value) (vS : Value) (h0 : Heap) (n0 : Nat) (O0 : Old Z n0 h0) (lc : Ln c2 xs) (bd : Bd c2 Y2) (hcap : xs.length ≤ 100) (hlt : c2 < Y2) (E_t2 : Exa Z h0 t2 "[B") (V_t2 : Arv Z h0 t2 k2 .byte Y2 xs (.int 0)) (WW : World1 Z wO wT kO kT iC vF vU vS) :
    Con l Z mq38 jdk_65_method_133_code 5 (some (.array .byte)) ws ({ frames := 1, cells := 1, slots := 100, locals := 20 } : Room) #[(.ref t2), (.int 0), (.int c2)] h0 (fun v h L => ∃ (b : Addr) (kb : ClassId), v = some (.ref b) ∧ Fr n0 L ∧ h0.size ≤ b ∧ Keep h0 h [] ∧ Arv Z h b kb .byte c2 xs (.int 0)) := by
  refine own_body (plainFor_of_name pn_java_util_Arrays) ?_
  intro p e s m below meth c s₁ hx hby hml hZ hown hnm hlk hret X0 e0
  have N0 := Fr.nil n0
  have D := @hb _ _ hby
  have K0 : Keep h0 h0 [] := Keep.refl _ _
  refine Go.st (T' := s₁) (f' := (mkF m 0 #[rv t2, iv 0, iv c2, .unset, .unset] [])) (fun _ k => castTop (by first | (simp [entryFrame, mkF, argsToLocals, Value.category]; done) | rfl) k) ?_
  have ⟨S_iC, nz_iC, S_vF, r_vF, S_vU, r_vU, S_vS, r_vS, S_wO, E_wO, S_wT, E_wT, V_wO, V_wT⟩ := WW
  have lt_wO := E_wO.lt
  have lt_wT := E_wT.lt
  have lt_t2 := V_t2.lt
  refine zin 1 X0 hx (D d35_0) rfl ?_
  refine zin 2 X0 hx (D d35_1) rfl ?_
  refine gS 5 0 0 0 X0 N0 hx hZ (y := mq37) hown hml (ww hw 184 rfl) (ww hw 185 rfl) (ww hw 146 rfl) (gck l Z a0 hw [] c2 h0 n0 O0 lc.nn) (ww hw 186 rfl) e0 [(.int 0), (.int c2)] [] (lenOf pd__II_V rfl) (D d35_2) ?_
  rintro T1 L1 M1 _ X1 uu1 ⟨rfl, Nq1, kq1⟩
  have N1 := uu1 Nq1
  refine zsk [] ?_
  refine zin 6 X1 hx (D d35_5) rfl ?_
  refine zin 7 X1 hx (D d35_6) rfl ?_
  refine zsb 8 X1 hx (D d35_7) ?_
  rw [Int32.sub_zero c2]
  refine zsn 9 #[rv t2, iv 0, iv c2, iv c2, .unset] X1 hx (D d35_8) ?_
  refine zin 10 X1 hx (D d35_9) rfl ?_
  obtain ⟨T2, h2, kc2, X2, e2, E2, A2, st2⟩ := newP X1 hx hZ (ww hw 20 rfl) kq1 (g := (mkF m 10 #[rv t2, iv 0, iv c2, iv c2, .unset] [(.int c2)])) rfl (D d35_10) rfl lc.nn (cap := 100) (lc.le hcap) (by decide) (by decide) (by decide)
  obtain ⟨b2, g2⟩ : ∃ z, z = h0.size := ⟨_, rfl⟩
  rw [← g2] at A2 st2
  have ne_t2_b2 : t2 ≠ b2 := Nat.ne_of_lt (Nat.lt_of_lt_of_eq lt_t2 g2.symm)
  have ne_wO_b2 : wO ≠ b2 := Nat.ne_of_lt (Nat.lt_of_lt_of_le lt_wO (Nat.le_trans O0.2.1 (Nat.le_of_eq g2.symm)))
  have ne_wT_b2 : wT ≠ b2 := Nat.ne_of_lt (Nat.lt_of_lt_of_le lt_wT (Nat.le_trans O0.2.1 (Nat.le_of_eq g2.symm)))
  have g_b2 : n0 ≤ b2 := Nat.le_trans (O0.1 ▸ O0.2.1) (Nat.le_of_eq g2.symm)
  have O2 : Old Z n0 h2 := O0.ext E2
  have sz_b2 : h0.size ≤ b2 := Nat.le_trans K0.1 (Nat.le_of_eq g2.symm)
  have K2 : Keep h0 h2 [] := K0.ext E2
  have V_b2 : Arv Z h2 b2 kc2 .byte c2 [] (.int (0 : Int32)) := Arv.new A2 lc.nn
  have lt_b2 := A2.lt
  refine zst 12 #[rv t2, iv 0, iv c2, iv c2, .unset] [(.ref b2)] st2 ?_
  refine zrl 14 #[rv t2, iv 0, iv c2, iv c2, rv b2] X2 hx (D d35_12) rfl ?_
  refine zan 15 X2 hx (D d35_14) rfl rfl ?_
  refine zin 16 X2 hx (D d35_15) rfl ?_
  refine zal 18 X2 hx (D d35_16) rfl rfl ?_
  refine zic 19 0 X2 hx (D d35_18) ?_
  refine zan 20 X2 hx (D d35_19) rfl rfl ?_
  have ft4 := (V_t2.ext E2)
  obtain ⟨cl3, Ar3, -, S3, Nx3, -, -⟩ := id ft4
  refine Go.st (T' := T2) (f' := (mkF m 21 #[rv t2, iv 0, iv c2, iv c2, rv b2] [(.int Y2), (.int 0), (.ref b2), (.int 0), (.ref t2)])) (fun _ k => X2.arraylength hx (by rw [e2]; exact Ar3.1) (State.isArrayOf_alike hZ.alike Ar3.2.1) (g := (mkF m 20 #[rv t2, iv 0, iv c2, iv c2, rv b2] [(.ref t2), (.int 0), (.ref b2), (.int 0), (.ref t2)])) rfl rfl (D d35_20) _ (by rw [len_of S3 Nx3]; exact k)) ?_
  refine zin 22 X2 hx (D d35_21) rfl ?_
  refine zsb 23 X2 hx (D d35_22) ?_
  rw [Int32.sub_zero Y2]
  refine zin 24 X2 hx (D d35_23) rfl ?_
  refine gS 27 4 1 100 X2 N1 hx hZ (y := mq17) hown hml (ww hw 148 rfl) (ww hw 149 rfl) (ww hw 140 rfl) (gmB l Z a0 hw [] Y2 c2 h2 n0 O2 hlt) (ww hw 150 rfl) e2 [(.int Y2), (.int c2)] [(.int 0), (.ref b2), (.int 0), (.ref t2)] (lenOf pd__II_I rfl) (D d35_24) ?_
  rintro T5 L5 M5 _ X5 uu5 ⟨rfl, Nq5, kq5⟩
  have N5 := uu5 Nq5
  refine zsk [(.int c2), (.int 0), (.ref b2), (.int 0), (.ref t2)] ?_
  have vp7 := Arv.pad V_b2 (pad_rep [] (.int (0 : Int32)) (xs).length)
  obtain ⟨T8, h8, L8, X8, e8, N8, kq8, vq8, st8⟩ := cpA X5 hx hZ hown (ww hw 151 rfl) (ww hw 104 rfl) (ww hw 102 rfl) (ww hw 103 rfl) kq5 ft4 vp7 (us := xs) (Or.inl ⟨rfl, rfl⟩) (by decide) ln0.nn lc.nn (own_c6 lc bd).1 (by show 0 + _ ≤ _; omega) (own_mapr lc.nat) (own_padl ln0 lc) N5 g_b2 (g := (mkF m 27 #[rv t2, iv 0, iv c2, iv c2, rv b2] [(.int c2), (.int 0), (.ref b2), (.int 0), (.ref t2)])) rfl (by rw [hml]; rfl) rfl (D d35_27) (by decide) (W := 0) (by show 2 * 0 + _ ≤ _; exact Nat.le_of_eq rfl) (by decide)
  rw [own_join ln0.nat lc.nat] at vq8
  have O8 : Old Z n0 h8 := O2.keep kq8 (allS g_b2 all0)
  have K8 : Keep h0 h8 [] := K2.trans kq8 (allS (Or.inr sz_b2) all0)
  refine zst 30 #[rv t2, iv 0, iv c2, iv c2, rv b2] [] st8 ?_
  refine zal 32 X8 hx (D d35_30) rfl rfl ?_
  refine Go.retV X8 hlk hx (t := (.array .byte)) hret rfl (Or.inr (Or.inr (Or.inr (Or.inr ⟨rfl, rfl, rfl⟩)))) (D d35_32) e8 ?_ (by decide) (by decide)
  exact ⟨b2, kc2, rfl, N8, sz_b2, K8, vq8⟩
theorem d34_0 : decode jdk_65_method_132_code 0 = .ok (.iload_n 1, 1) := by decide +kernel
theorem d34_1 : decode jdk_65_method_132_code 1 = .ok (.ifCond .ne 9, 3) := by decide +kernel
theorem d34_4 : decode jdk_65_method_132_code 4 = .ok (.iload_n 2, 1) := by decide +kernel
theorem d34_5 : decode jdk_65_method_132_code 5 = .ok (.aload_n 0, 1) := by decide +kernel
theorem d34_6 : decode jdk_65_method_132_code 6 = .ok (.arraylength, 1) := by decide +kernel
theorem d34_7 : decode jdk_65_method_132_code 7 = .ok (.if_icmp .eq 10, 3) := by decide +kernel
theorem d34_17 : decode jdk_65_method_132_code 17 = .ok (.aload_n 0, 1) := by decide +kernel
theorem d34_18 : decode jdk_65_method_132_code 18 = .ok (.invokevirtual 310, 3) := by decide +kernel
theorem d34_21 : decode jdk_65_method_132_code 21 = .ok (.checkcast 311, 3) := by decide +kernel
theorem d34_24 : decode jdk_65_method_132_code 24 = .ok (.areturn, 1) := by decide +kernel
theorem d34_10 : decode jdk_65_method_132_code 10 = .ok (.aload_n 0, 1) := by decide +kernel
theorem d34_11 : decode jdk_65_method_132_code 11 = .ok (.iload_n 1, 1) := by decide +kernel
theorem d34_12 : decode jdk_65_method_132_code 12 = .ok (.iload_n 2, 1) := by decide +kernel
theorem d34_13 : decode jdk_65_method_132_code 13 = .ok (.invokestatic 339, 3) := by decide +kernel
theorem pd___BII__B : parseMethodDescriptor "([BII)[B" = some ⟨[(.array .byte), .int, .int], some (.array .byte)⟩ := by decide +kernel
theorem d34_16 : decode jdk_65_method_132_code 16 = .ok (.areturn, 1) := by decide +kernel
set_option maxRecDepth 65536 in
set_option maxHeartbeats 40000000 in
theorem gcr (l : Launch) (Z : State) (a0 : Array Value) (hw : ∀ d ∈ tables_1, d.before a0 Z = true) (ws : List Jvm.Cond) (t2 : Addr) (k2 : ClassId) (Y2 : Int32) (c2 : Int32) (xs : List Value) (wO : Addr) (wT : Addr) (kO : ClassId) (kT : ClassId) (iC : Int32) (vF : Value) (vU : Value) (vS : Value) (h0 : Heap) (n0 : Nat) (O0 : Old Z n0 h0) (lc : Ln c2 xs) (bd : Bd c2 Y2) (hcap : xs.length ≤ 100) (E_t2 : Exa Z h0 t2 "[B") (V_t2 : Arv Z h0 t2 k2 .byte Y2 xs (.int 0)) (WW : World1 Z wO wT kO kT iC vF vU vS) :
    Con l Z mq39 jdk_65_method_132_code 3 (some (.array .byte)) ws ({ frames := 2, cells := 1, slots := 200, locals := 36 } : Room) #[(.ref t2), (.int 0), (.int c2)] h0 (fun v h L => ∃ (b : Addr) (kb : ClassId), v = some (.ref b) ∧ Fr n0 L ∧ h0.size ≤ b ∧ Keep h0 h [] ∧ Arv Z h b kb .byte c2 xs (.int 0)) := by
  refine own_body (plainFor_of_name pn_java_util_Arrays) ?_
  intro p e s m below meth c s₁ hx hby hml hZ hown hnm hlk hret X0 e0
  have N0 := Fr.nil n0
  have D := @hb _ _ hby
  have K0 : Keep h0 h0 [] := Keep.refl _ _
  refine Go.st (T' := s₁) (f' := (mkF m 0 #[rv t2, iv 0, iv c2] [])) (fun _ k => castTop (by first | (simp [entryFrame, mkF, argsToLocals, Value.category]; done) | rfl) k) ?_
  have ⟨S_iC, nz_iC, S_vF, r_vF, S_vU, r_vU, S_vS, r_vS, S_wO, E_wO, S_wT, E_wT, V_wO, V_wT⟩ := WW
  have lt_wO := E_wO.lt
  have lt_wT := E_wT.lt
  have lt_t2 := V_t2.lt
  refine zin 1 X0 hx (D d34_0) rfl ?_
  refine zfn 4 X0 hx (D d34_1) (by decide) ?_
  refine zin 5 X0 hx (D d34_4) rfl ?_
  refine zan 6 X0 hx (D d34_5) rfl rfl ?_
  obtain ⟨cl1, Ar1, -, S1, Nx1, -, -⟩ := id V_t2
  refine Go.st (T' := s₁) (f' := (mkF m 7 #[rv t2, iv 0, iv c2] [(.int Y2), (.int c2)])) (fun _ k => X0.arraylength hx (by rw [e0]; exact Ar1.1) (State.isArrayOf_alike hZ.alike Ar1.2.1) (g := (mkF m 6 #[rv t2, iv 0, iv c2] [(.ref t2), (.int c2)])) rfl rfl (D d34_6) _ (by rw [len_of S1 Nx1]; exact k)) ?_
  by_cases cd2 : c2 = Y2
  · refine zcy 17 X0 hx (D d34_7) (teq cd2).1 ?_
    refine zan 18 X0 hx (D d34_17) rfl rfl ?_
    obtain ⟨T4, h4, X4, e4, E4, V4, A4, st4⟩ := cloneH X0 hx hZ hown (ww hw 319 rfl) (ww hw 320 rfl) (ww hw 324 rfl) (ww hw 322 rfl) (ww hw 323 rfl) (ww hw 325 rfl) e0 (Arv.arh V_t2) E_t2 (g := (mkF m 18 #[rv t2, iv 0, iv c2] [(.ref t2)])) rfl (by rw [hml]; rfl) rfl (D d34_18) (by decide) (W := 0) (by show 2 * 0 + _ ≤ _; exact Nat.le_of_eq rfl) (by decide) (cap := 200) (own_c6 lc bd).2 (by decide) (by decide)
    obtain ⟨b4, g4⟩ : ∃ z, z = h0.size := ⟨_, rfl⟩
    rw [← g4] at V4 A4 st4
    have ne_t2_b4 : t2 ≠ b4 := Nat.ne_of_lt (Nat.lt_of_lt_of_eq lt_t2 g4.symm)
    have ne_wO_b4 : wO ≠ b4 := Nat.ne_of_lt (Nat.lt_of_lt_of_le lt_wO (Nat.le_trans O0.2.1 (Nat.le_of_eq g4.symm)))
    have ne_wT_b4 : wT ≠ b4 := Nat.ne_of_lt (Nat.lt_of_lt_of_le lt_wT (Nat.le_trans O0.2.1 (Nat.le_of_eq g4.symm)))
    have g_b4 : n0 ≤ b4 := Nat.le_trans (O0.1 ▸ O0.2.1) (Nat.le_of_eq g4.symm)
    have O4 : Old Z n0 h4 := O0.ext E4
    have sz_b4 : h0.size ≤ b4 := Nat.le_trans K0.1 (Nat.le_of_eq g4.symm)
    have K4 : Keep h0 h4 [] := K0.ext E4
    have V_b4 : Arv Z h4 b4 k2 .byte Y2 xs (.int (0 : Int32)) := V4
    have lt_b4 := A4.lt
    refine zst 21 #[rv t2, iv 0, iv c2] [(.ref b4)] st4 ?_
    obtain ⟨T5, X5, e5, st5⟩ := castY X4 hx hZ hown (ww hw 326 rfl) e4 (Ins.self A4) (g := (mkF m 21 #[rv t2, iv 0, iv c2] [(.ref b4)])) rfl rfl (D d34_21)
    refine zst 24 #[rv t2, iv 0, iv c2] [(.ref b4)] st5 ?_
    refine Go.retV X5 hlk hx (t := (.array .byte)) hret rfl (Or.inr (Or.inr (Or.inr (Or.inr ⟨rfl, rfl, rfl⟩)))) (D d34_24) e5 ?_ (by decide) (by decide)
    exact ⟨b4, k2, rfl, N0, sz_b4, K4, by rw [cd2]; exact V_b4⟩
  · refine zcn 10 X0 hx (D d34_7) (feq cd2).1 ?_
    refine zan 11 X0 hx (D d34_10) rfl rfl ?_
    refine zin 12 X0 hx (D d34_11) rfl ?_
    refine zin 13 X0 hx (D d34_12) rfl ?_
    refine gS 16 0 1 100 X0 N0 hx hZ (y := mq38) hown hml (ww hw 181 rfl) (ww hw 182 rfl) (ww hw 146 rfl) (grb l Z a0 hw [] t2 k2 Y2 c2 xs wO wT kO kT iC vF vU vS h0 n0 O0 lc bd hcap (own_ltN bd cd2) E_t2 V_t2 WW) (ww hw 183 rfl) e0 [(.ref t2), (.int 0), (.int c2)] [] (lenOf pd___BII__B rfl) (D d34_13) ?_
    rintro T6 L6 M6 _ X6 uu6 ⟨b6, kb6, rfl, Nq6, zq6, kq6, vq6⟩
    have N6 := uu6 Nq6
    have ne_t2_b6 : t2 ≠ b6 := Nat.ne_of_lt (Nat.lt_of_lt_of_le lt_t2 zq6)
    have ne_wO_b6 : wO ≠ b6 := Nat.ne_of_lt (Nat.lt_of_lt_of_le lt_wO (Nat.le_trans O0.2.1 zq6))
    have ne_wT_b6 : wT ≠ b6 := Nat.ne_of_lt (Nat.lt_of_lt_of_le lt_wT (Nat.le_trans O0.2.1 zq6))
    have g_b6 : n0 ≤ b6 := Nat.le_trans (O0.1 ▸ O0.2.1) zq6
    have sz_b6 : h0.size ≤ b6 := Nat.le_trans K0.1 zq6
    have O6 : Old Z n0 T6.heap := O0.keep kq6 all0
    have K6 : Keep h0 T6.heap [] := K0.trans kq6 all0
    have lt_b6 := vq6.lt
    refine zsk [(.ref b6)] ?_
    refine Go.retV X6 hlk hx (t := (.array .byte)) hret rfl (Or.inr (Or.inr (Or.inr (Or.inr ⟨rfl, rfl, rfl⟩)))) (D d34_16) rfl ?_ (by decide) (by decide)
    exact ⟨b6, kb6, rfl, N6, sz_b6, K6, vq6⟩
theorem d30_0 : decode jdk_42_method_150_code 0 = .ok (.aload_n 0, 1) := by decide +kernel
theorem d30_1 : decode jdk_42_method_150_code 1 = .ok (.invokespecial 1, 3) := by decide +kernel
theorem d30_4 : decode jdk_42_method_150_code 4 = .ok (.aload_n 1, 1) := by decide +kernel
theorem d30_5 : decode jdk_42_method_150_code 5 = .ok (.invokevirtual 552, 3) := by decide +kernel
theorem pd____B : parseMethodDescriptor "()[B" = some ⟨[], some (.array .byte)⟩ := by decide +kernel
theorem d30_8 : decode jdk_42_method_150_code 8 = .ok (.astore_n 3, 1) := by decide +kernel
theorem d30_9 : decode jdk_42_method_150_code 9 = .ok (.aload_n 1, 1) := by decide +kernel
theorem d30_10 : decode jdk_42_method_150_code 10 = .ok (.invokevirtual 549, 3) := by decide +kernel
theorem d30_13 : decode jdk_42_method_150_code 13 = .ok (.istore 4, 2) := by decide +kernel
theorem d30_15 : decode jdk_42_method_150_code 15 = .ok (.aload_n 1, 1) := by decide +kernel
theorem d30_16 : decode jdk_42_method_150_code 16 = .ok (.invokevirtual 1047, 3) := by decide +kernel
theorem d30_19 : decode jdk_42_method_150_code 19 = .ok (.ifCond .eq 22, 3) := by decide +kernel
theorem d30_22 : decode jdk_42_method_150_code 22 = .ok (.aload_n 0, 1) := by decide +kernel
theorem d30_23 : decode jdk_42_method_150_code 23 = .ok (.iconst 0, 1) := by decide +kernel
theorem d30_24 : decode jdk_42_method_150_code 24 = .ok (.putfield 15, 3) := by decide +kernel
theorem d30_27 : decode jdk_42_method_150_code 27 = .ok (.aload_n 0, 1) := by decide +kernel
theorem d30_28 : decode jdk_42_method_150_code 28 = .ok (.aload_n 3, 1) := by decide +kernel
theorem d30_29 : decode jdk_42_method_150_code 29 = .ok (.iconst 0, 1) := by decide +kernel
theorem d30_30 : decode jdk_42_method_150_code 30 = .ok (.iload 4, 2) := by decide +kernel
theorem d30_32 : decode jdk_42_method_150_code 32 = .ok (.invokestatic 54, 3) := by decide +kernel
theorem d30_35 : decode jdk_42_method_150_code 35 = .ok (.putfield 9, 3) := by decide +kernel
theorem d30_38 : decode jdk_42_method_150_code 38 = .ok (.goto 59, 3) := by decide +kernel
theorem d30_97 : decode jdk_42_method_150_code 97 = .ok (.return_, 1) := by decide +kernel
set_option maxRecDepth 65536 in
set_option maxHeartbeats 40000000 in
theorem gt1 (l : Launch) (Z : State) (a0 : Array Value) (hw : ∀ d ∈ tables_1, d.before a0 Z = true) (ws : List Jvm.Cond) (a1 : Addr) (sb : Addr) (t2 : Addr) (k2 : ClassId) (Y2 : Int32) (c2 : Int32) (xs : List Value) (wO : Addr) (wT : Addr) (kO : ClassId) (kT : ClassId) (iC : Int32) (vF : Value) (vU : Value) (vS : Value) (h0 : Heap) (n0 : Nat) (O0 : Old Z n0 h0) (lc : Ln c2 xs) (bd : Bd c2 Y2) (hcap : xs.length ≤ 100) (g_a1 : n0 ≤ a1) (ne1 : a1 ≠ sb) (ne2 : a1 ≠ t2) (E_a1 : Exa Z h0 a1 "java/lang/String") (F_a1_coder : Fld Z h0 a1 "java/lang/String" "coder" "B" (.int 0)) (F_a1_value : Fld Z h0 a1 "java/lang/String" "value" "[B" .null) (E_sb : Exa Z h0 sb "java/lang/StringBuilder") (F_sb_coder : Fld Z h0 sb "java/lang/AbstractStringBuilder" "coder" "B" (.int 0)) (F_sb_value : Fld Z h0 sb "java/lang/AbstractStringBuilder" "value" "[B" (.ref t2)) (F_sb_count : Fld Z h0 sb "java/lang/AbstractStringBuilder" "count" "I" (.int c2)) (E_t2 : Exa Z h0 t2 "[B") (V_t2 : Arv Z h0 t2 k2 .byte Y2 xs (.int 0)) (WW : World1 Z wO wT kO kT iC vF vU vS) :
    Con l Z mq40 jdk_42_method_150_code 5 none ws ({ frames := 3, cells := 1, slots := 200, locals := 51 } : Room) #[(.ref a1), (.ref sb), .null] h0 (fun v h L => v = none ∧ Fr n0 L ∧ Keep h0 h [a1] ∧ Exa Z h a1 "java/lang/String" ∧ Fld Z h a1 "java/lang/String" "coder" "B" (.int 0) ∧ ∃ (t : Addr) (kt : ClassId), h0.size ≤ t ∧ Fld Z h a1 "java/lang/String" "value" "[B" (.ref t) ∧ Arv Z h t kt .byte c2 xs (.int 0)) := by
  refine own_body (plainFor_of_name pn_java_lang_String) ?_
  intro p e s m below meth c s₁ hx hby hml hZ hown hnm hlk hret X0 e0
  have N0 := Fr.nil n0
  have D := @hb _ _ hby
  have K0 : Keep h0 h0 [a1] := Keep.refl _ _
  refine Go.st (T' := s₁) (f' := (mkF m 0 #[rv a1, rv sb, .val .null, .unset, .unset] [])) (fun _ k => castTop (by first | (simp [entryFrame, mkF, argsToLocals, Value.category]; done) | rfl) k) ?_
  have ⟨S_iC, nz_iC, S_vF, r_vF, S_vU, r_vU, S_vS, r_vS, S_wO, E_wO, S_wT, E_wT, V_wO, V_wT⟩ := WW
  have lt_wO := E_wO.lt
  have lt_wT := E_wT.lt
  have lt_a1 := E_a1.lt
  have ne_wO_a1 : wO ≠ a1 := O0.ne lt_wO g_a1
  have ne_wT_a1 : wT ≠ a1 := O0.ne lt_wT g_a1
  have lt_sb := E_sb.lt
  have lt_t2 := V_t2.lt
  refine zan 1 X0 hx (D d30_0) rfl rfl ?_
  obtain ⟨T1, X1, e1, st1⟩ := initO X0 hx hZ hown (ww hw 12 rfl) (ww hw 13 rfl) (ww hw 14 rfl) e0 (g := (mkF m 1 #[rv a1, rv sb, .val .null, .unset, .unset] [(.ref a1)])) rfl (by rw [hml]; rfl) rfl (D d30_1) (by decide) (W := 0) (by show 2 * 0 + _ ≤ _; exact Nat.le_of_eq rfl) (by decide)
  refine zst 4 #[rv a1, rv sb, .val .null, .unset, .unset] [] st1 ?_
  refine zan 5 X1 hx (D d30_4) rfl rfl ?_
  refine gV 8 0 0 0 X1 N0 hx hZ (y := mq34) hown hml (ww hw 164 rfl) (ww hw 165 rfl) (ww hw 167 rfl) (ww hw 166 rfl) (gv1 l Z a0 hw [] sb t2 h0 n0 O0 E_sb F_sb_value) (ww hw 168 rfl) (ww hw 47 rfl) e1 E_sb [] [] (lenOf pd____B rfl) (D d30_5) ?_
  rintro T2 L2 M2 _ X2 uu2 ⟨rfl, Nq2, kq2⟩
  have N2 := uu2 Nq2
  refine zsk [(.ref t2)] ?_
  refine zrn 9 #[rv a1, rv sb, .val .null, rv t2, .unset] X2 hx (D d30_8) rfl ?_
  refine zan 10 X2 hx (D d30_9) rfl rfl ?_
  obtain ⟨cq3, kq3, q3a, q3b, q3c⟩ := isOf hZ kq2 E_sb
  obtain ⟨_, _, ⟨T3, L3, kk3, nn3⟩, -, X3, ⟨Lc3, hQ3, lq3, yq3, zz3⟩, st3⟩ := X2.virtualBack hx (y := mq35) (z := mq36) hown (mvT hZ (ww hw 169 rfl)) (mvT hZ (ww hw 170 rfl)) (own_nf (args := #[]) (mvT hZ (ww hw 83 rfl)) rfl) (mvT hZ (ww hw 172 rfl)) (mvT hZ (ww hw 173 rfl)) (by decide) (own_back (W := 0) (gv3 l Z a0 hw [] sb c2 h0 n0 O0 E_sb F_sb_count) hZ (ww hw 174 rfl) (ww hw 39 rfl) (by decide) (by decide)) q3a q3c (g := (mkF m 10 #[rv a1, rv sb, .val .null, rv t2, .unset] [(.ref sb)])) rfl (by rw [hml]; rfl) (Steps.refl _) (argsL := []) (rest := []) (lenOf pd___I rfl) rfl (by show 2 * 0 + _ ≤ _; exact Nat.le_of_eq rfl) (D d30_10) (fun _ _ => ⟨rfl, kq2, (by decide : 0 + 0 ≤ _), (by decide : 0 + 0 ≤ _)⟩)
  dsimp only [Pt.U, Pt.locs, Pt.cells, Pt.slots] at X3 lq3 yq3 zz3 st3 hQ3
  subst lq3 yq3 zz3
  obtain ⟨rfl, Nq3, kq3⟩ := hQ3
  have N3 := Fr.app N2 Nq3
  refine Go.tr (f' := (mkF m 13 #[rv a1, rv sb, .val .null, rv t2, .unset] [(.int c2)])) st3 ?_
  refine zsl 15 #[rv a1, rv sb, .val .null, rv t2, iv c2] X3 hx (D d30_13) ?_
  refine zan 16 X3 hx (D d30_15) rfl rfl ?_
  refine gV 19 0 0 0 X3 N3 hx hZ (y := mq23) hown hml (ww hw 177 rfl) (ww hw 119 rfl) (ww hw 121 rfl) (ww hw 120 rfl) (gla l Z a0 hw [] sb wO wT kO kT iC vF vU vS h0 n0 O0 E_sb F_sb_coder WW) (ww hw 122 rfl) (ww hw 47 rfl) kq3 E_sb [] [] (lenOf pd___Z rfl) (D d30_16) ?_
  rintro T4 L4 M4 _ X4 uu4 ⟨rfl, Nq4, kq4⟩
  have N4 := uu4 Nq4
  refine zsk [(.int 1)] ?_
  refine zfn 22 X4 hx (D d30_19) (by decide) ?_
  refine zan 23 X4 hx (D d30_22) rfl rfl ?_
  refine zic 24 0 X4 hx (D d30_23) ?_
  obtain ⟨T5, h5, X5, e5, W5, st5⟩ := putFN X4 hx hZ hown (ww hw 27 rfl) Via.refl kq4 F_a1_coder E_a1 (Or.inr ⟨(ww hw 28 rfl), rfl, hnm⟩) (ww hw 2 rfl) (ty := .byte) (v' := (.int (0 : Int32))) (by decide) rfl (by decide) (g := (mkF m 24 #[rv a1, rv sb, .val .null, rv t2, iv c2] [(.int 0), (.ref a1)])) rfl rfl (D d30_24)
  have N5 := Fr.snoc X5 N4 g_a1
  have O5 : Old Z n0 h5 := O0.wr W5 g_a1
  have K5 : Keep h0 h5 [a1] := K0.wr W5 (Or.inl (List.mem_of_getElem? (i := 0) rfl))
  have Fw5 := F_a1_coder.same W5
  refine zst 27 #[rv a1, rv sb, .val .null, rv t2, iv c2] [] st5 ?_
  refine zan 28 X5 hx (D d30_27) rfl rfl ?_
  refine zan 29 X5 hx (D d30_28) rfl rfl ?_
  refine zic 30 0 X5 hx (D d30_29) ?_
  refine zil 32 X5 hx (D d30_30) rfl ?_
  have ft7 := (E_t2.wr W5)
  have ft8 := (V_t2.other W5 (Ne.symm ne2))
  refine gS 35 1 1 200 X5 N5 hx hZ (y := mq39) hown hml (ww hw 178 rfl) (ww hw 179 rfl) (ww hw 146 rfl) (gcr l Z a0 hw [] t2 k2 Y2 c2 xs wO wT kO kT iC vF vU vS h5 n0 O5 lc bd hcap  ft7 ft8 WW) (ww hw 180 rfl) e5 [(.ref t2), (.int 0), (.int c2)] [(.ref a1)] (lenOf pd___BII__B rfl) (D d30_32) ?_
  rintro T6 L6 M6 _ X6 uu6 ⟨b6, kb6, rfl, Nq6, zq6, kq6, vq6⟩
  have N6 := uu6 Nq6
  have ft9 := (Nat.lt_of_lt_of_eq lt_a1 W5.size.symm)
  have ne_a1_b6 : a1 ≠ b6 := Nat.ne_of_lt (Nat.lt_of_lt_of_le ft9 zq6)
  have ft10 := (Nat.lt_of_lt_of_eq lt_sb W5.size.symm)
  have ne_sb_b6 : sb ≠ b6 := Nat.ne_of_lt (Nat.lt_of_lt_of_le ft10 zq6)
  have ft11 := (Nat.lt_of_lt_of_eq lt_t2 W5.size.symm)
  have ne_t2_b6 : t2 ≠ b6 := Nat.ne_of_lt (Nat.lt_of_lt_of_le ft11 zq6)
  have ne_wO_b6 : wO ≠ b6 := Nat.ne_of_lt (Nat.lt_of_lt_of_le lt_wO (Nat.le_trans O5.2.1 zq6))
  have ne_wT_b6 : wT ≠ b6 := Nat.ne_of_lt (Nat.lt_of_lt_of_le lt_wT (Nat.le_trans O5.2.1 zq6))
  have g_b6 : n0 ≤ b6 := Nat.le_trans (O5.1 ▸ O5.2.1) zq6
  have sz_b6 : h0.size ≤ b6 := Nat.le_trans K5.1 zq6
  have O6 : Old Z n0 T6.heap := O5.keep kq6 all0
  have K6 : Keep h0 T6.heap [a1] := K5.trans kq6 all0
  have lt_b6 := vq6.lt
  refine zsk [(.ref b6), (.ref a1)] ?_
  have ft12 := ((E_a1.wr W5).keep kq6)
  have ft13 := ((F_a1_value.other W5 (Or.inr (slot_ne (Or.inr (ww hw 30 rfl)) (Or.inr (ww hw 28 rfl)) (by decide) (t := (.array .byte)) (t' := .byte) (by decide) (by decide)))).keep kq6 nin0)
  obtain ⟨T14, h14, X14, e14, W14, st14⟩ := putF X6 hx hZ hown (host := "") (Or.inl (ww hw 29 rfl)) Via.refl rfl ft13 ft12 (Or.inr ⟨(ww hw 30 rfl), rfl, hnm⟩) (ww hw 2 rfl) (ty := (.array .byte)) (by decide) rfl rfl (g := (mkF m 35 #[rv a1, rv sb, .val .null, rv t2, iv c2] [(.ref b6), (.ref a1)])) rfl rfl (D d30_35)
  have N14 := Fr.snoc X14 N6 g_a1
  have O14 : Old Z n0 h14 := O6.wr W14 g_a1
  have K14 : Keep h0 h14 [a1] := K6.wr W14 (Or.inl (List.mem_of_getElem? (i := 0) rfl))
  have Fw14 := ft13.same W14
  refine zst 38 #[rv a1, rv sb, .val .null, rv t2, iv c2] [] st14 ?_
  refine zgo 97 X14 hx (D d30_38) ?_
  refine Go.ret0 X14 hlk hx hret (D d30_97) e14 ?_ (by decide) (by decide)
  have ft15 := (ft12.wr W14)
  have ft16 := ((Fw5.keep kq6 nin0).other W14 (Or.inr (slot_ne (Or.inr (ww hw 28 rfl)) (Or.inr (ww hw 30 rfl)) (by decide) (t := .byte) (t' := (.array .byte)) (by decide) (by decide))))
  have ft17 := (vq6.other W14 (Ne.symm ne_a1_b6))
  exact ⟨rfl, N14, K14, ft15, ft16, b6, kb6, sz_b6, Fw14, ft17⟩
theorem d29_0 : decode jdk_42_method_53_code 0 = .ok (.aload_n 0, 1) := by decide +kernel
theorem d29_1 : decode jdk_42_method_53_code 1 = .ok (.aload_n 1, 1) := by decide +kernel
theorem d29_2 : decode jdk_42_method_53_code 2 = .ok (.aconst_null, 1) := by decide +kernel
theorem d29_3 : decode jdk_42_method_53_code 3 = .ok (.invokespecial 489, 3) := by decide +kernel
theorem pd__Ljava_lang_AbstractStringBuilder_Ljava_lang_Void__V : parseMethodDescriptor "(Ljava/lang/AbstractStringBuilder;Ljava/lang/Void;)V" = some ⟨[(.object "java/lang/AbstractStringBuilder"), (.object "java/lang/Void")], none⟩ := by decide +kernel
theorem d29_6 : decode jdk_42_method_53_code 6 = .ok (.return_, 1) := by decide +kernel
set_option maxRecDepth 65536 in
set_option maxHeartbeats 40000000 in
theorem gt2 (l : Launch) (Z : State) (a0 : Array Value) (hw : ∀ d ∈ tables_1, d.before a0 Z = true) (ws : List Jvm.Cond) (a1 : Addr) (sb : Addr) (t2 : Addr) (k2 : ClassId) (Y2 : Int32) (c2 : Int32) (xs : List Value) (wO : Addr) (wT : Addr) (kO : ClassId) (kT : ClassId) (iC : Int32) (vF : Value) (vU : Value) (vS : Value) (h0 : Heap) (n0 : Nat) (O0 : Old Z n0 h0) (lc : Ln c2 xs) (bd : Bd c2 Y2) (hcap : xs.length ≤ 100) (g_a1 : n0 ≤ a1) (ne1 : a1 ≠ sb) (ne2 : a1 ≠ t2) (E_a1 : Exa Z h0 a1 "java/lang/String") (F_a1_coder : Fld Z h0 a1 "java/lang/String" "coder" "B" (.int 0)) (F_a1_value : Fld Z h0 a1 "java/lang/String" "value" "[B" .null) (E_sb : Exa Z h0 sb "java/lang/StringBuilder") (F_sb_coder : Fld Z h0 sb "java/lang/AbstractStringBuilder" "coder" "B" (.int 0)) (F_sb_value : Fld Z h0 sb "java/lang/AbstractStringBuilder" "value" "[B" (.ref t2)) (F_sb_count : Fld Z h0 sb "java/lang/AbstractStringBuilder" "count" "I" (.int c2)) (E_t2 : Exa Z h0 t2 "[B") (V_t2 : Arv Z h0 t2 k2 .byte Y2 xs (.int 0)) (WW : World1 Z wO wT kO kT iC vF vU vS) :
    Con l Z mq41 jdk_42_method_53_code 2 none ws ({ frames := 4, cells := 1, slots := 200, locals := 67 } : Room) #[(.ref a1), (.ref sb)] h0 (fun v h L => v = none ∧ Fr n0 L ∧ Keep h0 h [a1] ∧ Exa Z h a1 "java/lang/String" ∧ Fld Z h a1 "java/lang/String" "coder" "B" (.int 0) ∧ ∃ (t : Addr) (kt : ClassId), h0.size ≤ t ∧ Fld Z h a1 "java/lang/String" "value" "[B" (.ref t) ∧ Arv Z h t kt .byte c2 xs (.int 0)) := by
  refine own_body (plainFor_of_name pn_java_lang_String) ?_
  intro p e s m below meth c s₁ hx hby hml hZ hown hnm hlk hret X0 e0
  have N0 := Fr.nil n0
  have D := @hb _ _ hby
  have K0 : Keep h0 h0 [a1] := Keep.refl _ _
  refine Go.st (T' := s₁) (f' := (mkF m 0 #[rv a1, rv sb] [])) (fun _ k => castTop (by first | (simp [entryFrame, mkF, argsToLocals, Value.category]; done) | rfl) k) ?_
  have ⟨S_iC, nz_iC, S_vF, r_vF, S_vU, r_vU, S_vS, r_vS, S_wO, E_wO, S_wT, E_wT, V_wO, V_wT⟩ := WW
  have lt_wO := E_wO.lt
  have lt_wT := E_wT.lt
  have lt_a1 := E_a1.lt
  have ne_wO_a1 : wO ≠ a1 := O0.ne lt_wO g_a1
  have ne_wT_a1 : wT ≠ a1 := O0.ne lt_wT g_a1
  have lt_sb := E_sb.lt
  have lt_t2 := V_t2.lt
  refine zan 1 X0 hx (D d29_0) rfl rfl ?_
  refine zan 2 X0 hx (D d29_1) rfl rfl ?_
  refine Go.st (f' := (mkF m 3 #[rv a1, rv sb] [.null, (.ref sb), (.ref a1)])) (fun _ k => XS.aconstNull X0.here hx rfl (D d29_2) k) ?_
  obtain ⟨_, _, ⟨T1, L1, kk1, nn1⟩, -, X1, ⟨Lc1, hQ1, lq1, yq1, zz1⟩, st1⟩ := X0.specialBack hx (y := mq40) rfl hown (mvT hZ (ww hw 161 rfl)) (mvT hZ (ww hw 162 rfl)) (mvT hZ (ww hw 163 rfl)) (by decide) (own_back (W := 0) (gt1 l Z a0 hw [] a1 sb t2 k2 Y2 c2 xs wO wT kO kT iC vF vU vS h0 n0 O0 lc bd hcap g_a1 ne1 ne2 E_a1 F_a1_coder F_a1_value E_sb F_sb_coder F_sb_value F_sb_count E_t2 V_t2 WW) hZ (ww hw 163 rfl) (ww hw 3 rfl) (by decide) (by decide)) (g := (mkF m 3 #[rv a1, rv sb] [.null, (.ref sb), (.ref a1)])) rfl (by rw [hml]; rfl) (Steps.refl _) (a := a1) (argsL := [(.ref sb), .null]) (rest := []) (lenOf pd__Ljava_lang_AbstractStringBuilder_Ljava_lang_Void__V rfl) rfl (by show 2 * 0 + _ ≤ _; exact Nat.le_of_eq rfl) (D d29_3) (fun _ _ => ⟨rfl, e0, (by decide : 0 + 1 ≤ _), (by decide : 0 + 200 ≤ _)⟩)
  dsimp only [Pt.U, Pt.locs, Pt.cells, Pt.slots] at X1 lq1 yq1 zz1 st1 hQ1
  subst lq1 yq1 zz1
  obtain ⟨rfl, Nq1, kq1, eq1, cq1, tt1, kt1, zq1, fq1, vq1⟩ := hQ1
  have N1 := Fr.app N0 Nq1
  have ne_a1_tt1 : a1 ≠ tt1 := Nat.ne_of_lt (Nat.lt_of_lt_of_le lt_a1 zq1)
  have ne_sb_tt1 : sb ≠ tt1 := Nat.ne_of_lt (Nat.lt_of_lt_of_le lt_sb zq1)
  have ne_t2_tt1 : t2 ≠ tt1 := Nat.ne_of_lt (Nat.lt_of_lt_of_le lt_t2 zq1)
  have ne_wO_tt1 : wO ≠ tt1 := Nat.ne_of_lt (Nat.lt_of_lt_of_le lt_wO (Nat.le_trans O0.2.1 zq1))
  have ne_wT_tt1 : wT ≠ tt1 := Nat.ne_of_lt (Nat.lt_of_lt_of_le lt_wT (Nat.le_trans O0.2.1 zq1))
  have g_tt1 : n0 ≤ tt1 := Nat.le_trans (O0.1 ▸ O0.2.1) zq1
  have sz_tt1 : h0.size ≤ tt1 := Nat.le_trans K0.1 zq1
  have O1 : Old Z n0 T1.heap := O0.keep kq1 (allS g_a1 all0)
  have K1 : Keep h0 T1.heap [a1] := K0.trans kq1 (allS (Or.inl (List.mem_of_getElem? (i := 0) rfl)) all0)
  have lt_a1 := eq1.lt
  have lt_tt1 := vq1.lt
  refine Go.tr (f' := (mkF m 6 #[rv a1, rv sb] [])) st1 ?_
  refine Go.ret0 X1 hlk hx hret (D d29_6) rfl ?_ (by decide) (by decide)
  exact ⟨rfl, N1, K1, eq1, cq1, tt1, kt1, sz_tt1, fq1, vq1⟩
theorem d28_0 : decode jdk_67_method_42_code 0 = .ok (.new 18, 3) := by decide +kernel
theorem d28_3 : decode jdk_67_method_42_code 3 = .ok (.dup, 1) := by decide +kernel
theorem d28_4 : decode jdk_67_method_42_code 4 = .ok (.aload_n 0, 1) := by decide +kernel
theorem d28_5 : decode jdk_67_method_42_code 5 = .ok (.invokespecial 137, 3) := by decide +kernel
theorem pd__Ljava_lang_StringBuilder__V : parseMethodDescriptor "(Ljava/lang/StringBuilder;)V" = some ⟨[(.object "java/lang/StringBuilder")], none⟩ := by decide +kernel
theorem d28_8 : decode jdk_67_method_42_code 8 = .ok (.areturn, 1) := by decide +kernel
set_option maxRecDepth 65536 in
set_option maxHeartbeats 40000000 in
theorem gt3 (l : Launch) (Z : State) (a0 : Array Value) (hw : ∀ d ∈ tables_1, d.before a0 Z = true) (ws : List Jvm.Cond) (sb : Addr) (t2 : Addr) (k2 : ClassId) (Y2 : Int32) (c2 : Int32) (xs : List Value) (wO : Addr) (wT : Addr) (kO : ClassId) (kT : ClassId) (iC : Int32) (vF : Value) (vU : Value) (vS : Value) (h0 : Heap) (n0 : Nat) (O0 : Old Z n0 h0) (lc : Ln c2 xs) (bd : Bd c2 Y2) (hcap : xs.length ≤ 100) (E_sb : Exa Z h0 sb "java/lang/StringBuilder") (F_sb_coder : Fld Z h0 sb "java/lang/AbstractStringBuilder" "coder" "B" (.int 0)) (F_sb_value : Fld Z h0 sb "java/lang/AbstractStringBuilder" "value" "[B" (.ref t2)) (F_sb_count : Fld Z h0 sb "java/lang/AbstractStringBuilder" "count" "I" (.int c2)) (E_t2 : Exa Z h0 t2 "[B") (V_t2 : Arv Z h0 t2 k2 .byte Y2 xs (.int 0)) (WW : World1 Z wO wT kO kT iC vF vU vS) :
    Con l Z mq42 jdk_67_method_42_code 1 (some (.object "java/lang/String")) ws ({ frames := 5, cells := 2, slots := 204, locals := 81 } : Room) #[(.ref sb)] h0 (fun v h L => ∃ b : Addr, v = some (.ref b) ∧ Fr n0 L ∧ h0.size ≤ b ∧ Keep h0 h [] ∧ Exa Z h b "java/lang/String" ∧ Fld Z h b "java/lang/String" "coder" "B" (.int 0) ∧ ∃ (t : Addr) (kt : ClassId), h0.size ≤ t ∧ Fld Z h b "java/lang/String" "value" "[B" (.ref t) ∧ Arv Z h t kt .byte c2 xs (.int 0)) := by
  refine own_body (plainFor_of_name pn_java_lang_StringBuilder) ?_
  intro p e s m below meth c s₁ hx hby hml hZ hown hnm hlk hret X0 e0
  have N0 := Fr.nil n0
  have D := @hb _ _ hby
  have K0 : Keep h0 h0 [] := Keep.refl _ _
  refine Go.st (T' := s₁) (f' := (mkF m 0 #[rv sb] [])) (fun _ k => castTop (by first | (simp [entryFrame, mkF, argsToLocals, Value.category]; done) | rfl) k) ?_
  have ⟨S_iC, nz_iC, S_vF, r_vF, S_vU, r_vU, S_vS, r_vS, S_wO, E_wO, S_wT, E_wT, V_wO, V_wT⟩ := WW
  have lt_wO := E_wO.lt
  have lt_wT := E_wT.lt
  have lt_sb := E_sb.lt
  have lt_t2 := V_t2.lt
  obtain ⟨T1, h1, X1, e1, E1, A1, D1, -, st1⟩ := newO X0 hx hZ hown (ww hw 157 rfl) (ww hw 2 rfl) (ww hw 3 rfl) e0 (g := (mkF m 0 #[rv sb] [])) rfl (D d28_0) (by decide) (by decide)
  obtain ⟨b1, g1⟩ : ∃ z, z = h0.size := ⟨_, rfl⟩
  rw [← g1] at A1 D1 st1
  have ne_sb_b1 : sb ≠ b1 := Nat.ne_of_lt (Nat.lt_of_lt_of_eq lt_sb g1.symm)
  have ne_t2_b1 : t2 ≠ b1 := Nat.ne_of_lt (Nat.lt_of_lt_of_eq lt_t2 g1.symm)
  have ne_wO_b1 : wO ≠ b1 := Nat.ne_of_lt (Nat.lt_of_lt_of_le lt_wO (Nat.le_trans O0.2.1 (Nat.le_of_eq g1.symm)))
  have ne_wT_b1 : wT ≠ b1 := Nat.ne_of_lt (Nat.lt_of_lt_of_le lt_wT (Nat.le_trans O0.2.1 (Nat.le_of_eq g1.symm)))
  have g_b1 : n0 ≤ b1 := Nat.le_trans (O0.1 ▸ O0.2.1) (Nat.le_of_eq g1.symm)
  have O1 : Old Z n0 h1 := O0.ext E1
  have sz_b1 : h0.size ≤ b1 := Nat.le_trans K0.1 (Nat.le_of_eq g1.symm)
  have K1 : Keep h0 h1 [] := K0.ext E1
  have lt_b1 := A1.lt
  have F_coder_b1 : Fld Z h1 b1 "java/lang/String" "coder" "B" (.int (0 : Int32)) := D1 (Or.inr (ww hw 28 rfl)) (ty := .byte) (by decide)
  have F_value_b1 : Fld Z h1 b1 "java/lang/String" "value" "[B" .null := D1 (Or.inr (ww hw 30 rfl)) (ty := (.array .byte)) (by decide)
  refine zst 3 #[rv sb] [(.ref b1)] st1 ?_
  refine Go.st (f' := (mkF m 4 #[rv sb] [(.ref b1), (.ref b1)])) (fun _ k => XS.dup X1.here hx rfl (D d28_3) rfl rfl k) ?_
  refine zan 5 X1 hx (D d28_4) rfl rfl ?_
  have ft3 := (E_sb.ext E1)
  have ft4 := (F_sb_coder.ext E1)
  have ft5 := (F_sb_value.ext E1)
  have ft6 := (F_sb_count.ext E1)
  have ft7 := (E_t2.ext E1)
  have ft8 := (V_t2.ext E1)
  obtain ⟨_, _, ⟨T2, L2, kk2, nn2⟩, -, X2, ⟨Lc2, hQ2, lq2, yq2, zz2⟩, st2⟩ := X1.specialBack hx (y := mq41) rfl hown (mvT hZ (ww hw 158 rfl)) (mvT hZ (ww hw 159 rfl)) (mvT hZ (ww hw 160 rfl)) (by decide) (own_back (W := 1) (gt2 l Z a0 hw [] b1 sb t2 k2 Y2 c2 xs wO wT kO kT iC vF vU vS h1 n0 O1 lc bd hcap g_b1 (Ne.symm ne_sb_b1) (Ne.symm ne_t2_b1) A1 F_coder_b1 F_value_b1 ft3 ft4 ft5 ft6 ft7 ft8 WW) hZ (ww hw 160 rfl) (ww hw 3 rfl) (by decide) (by decide)) (g := (mkF m 5 #[rv sb] [(.ref sb), (.ref b1), (.ref b1)])) rfl (by rw [hml]; rfl) (Steps.refl _) (a := b1) (argsL := [(.ref sb)]) (rest := [(.ref b1)]) (lenOf pd__Ljava_lang_StringBuilder__V rfl) rfl (by show 2 * 0 + _ ≤ _; exact Nat.le_of_eq rfl) (D d28_5) (fun _ _ => ⟨rfl, e1, (by decide : 1 + 1 ≤ _), (by decide : 4 + 200 ≤ _)⟩)
  dsimp only [Pt.U, Pt.locs, Pt.cells, Pt.slots] at X2 lq2 yq2 zz2 st2 hQ2
  subst lq2 yq2 zz2
  obtain ⟨rfl, Nq2, kq2, eq2, cq2, tt2, kt2, zq2, fq2, vq2⟩ := hQ2
  have N2 := Fr.app N0 Nq2
  have ft9 := (Nat.lt_of_lt_of_le lt_sb E1.1)
  have ne_sb_tt2 : sb ≠ tt2 := Nat.ne_of_lt (Nat.lt_of_lt_of_le ft9 zq2)
  have ft10 := (Nat.lt_of_lt_of_le lt_t2 E1.1)
  have ne_t2_tt2 : t2 ≠ tt2 := Nat.ne_of_lt (Nat.lt_of_lt_of_le ft10 zq2)
  have ne_b1_tt2 : b1 ≠ tt2 := Nat.ne_of_lt (Nat.lt_of_lt_of_le lt_b1 zq2)
  have ne_wO_tt2 : wO ≠ tt2 := Nat.ne_of_lt (Nat.lt_of_lt_of_le lt_wO (Nat.le_trans O1.2.1 zq2))
  have ne_wT_tt2 : wT ≠ tt2 := Nat.ne_of_lt (Nat.lt_of_lt_of_le lt_wT (Nat.le_trans O1.2.1 zq2))
  have g_tt2 : n0 ≤ tt2 := Nat.le_trans (O1.1 ▸ O1.2.1) zq2
  have sz_tt2 : h0.size ≤ tt2 := Nat.le_trans K1.1 zq2
  have O2 : Old Z n0 T2.heap := O1.keep kq2 (allS g_b1 all0)
  have K2 : Keep h0 T2.heap [] := K1.trans kq2 (allS (Or.inr sz_b1) all0)
  have lt_b1 := eq2.lt
  have lt_tt2 := vq2.lt
  refine Go.tr (f' := (mkF m 8 #[rv sb] [(.ref b1)])) st2 ?_
  refine Go.retV X2 hlk hx (t := (.object "java/lang/String")) hret rfl (Or.inr (Or.inr (Or.inr (Or.inr ⟨rfl, rfl, rfl⟩)))) (D d28_8) rfl ?_ (by decide) (by decide)
  exact ⟨b1, rfl, N2, sz_b1, K2, eq2, cq2, tt2, kt2, sz_tt2, fq2, vq2⟩
theorem own_lg {a c : Int32} {m k : Nat} (h : ¬ a < c) (e : a.toInt = (m : Int)) (f : c.toInt = ((k : Nat) : Int)) : k ≤ m := by rw [Int32.lt_iff_toInt_lt] at h; omega
theorem own_ll {a c : Int32} {m k : Nat} (h : a < c) (e : a.toInt = (m : Int)) (f : c.toInt = ((k : Nat) : Int)) : m < k := by rw [Int32.lt_iff_toInt_lt] at h; omega
theorem own_dc {m k : Nat} {r : Int32} (h : dgs m = k) (e : r.toInt = (k : Int)) : r.toInt = (dgs m : Int) := by rw [h]; exact e
/-- the digits of m stand from p on -/
def Dg (p n nt : Int32) (m : Nat) (es : List Value) : Prop := m ≤ 2 ^ 31 ∧ n.toInt = (dgs m : Int) ∧ 0 ≤ p.toInt ∧ p.toInt + n.toInt ≤ nt.toInt ∧ nt.toInt ≤ 200 ∧ ∀ j, j < dgs m → es.getD (p.toNatClampNeg + j) (.int (0 : Int32)) = dgv m (dgs m - 1 - j)
theorem dg_e {p n nt q : Int32} {m : Nat} {es : List Value} (G : Dg p n nt m es) (q0 : 0 ≤ q.toInt) (h : q < n) : ((n - (1 : Int32)) - q).toInt = ((dgs m - 1 - q.toInt.toNat : Nat) : Int) ∧ dgs m - 1 - q.toInt.toNat ≤ 9 := by
  obtain ⟨g0, g1, g2, g3, g4, g5⟩ := G
  have a := c_isub n 1
  have r := rng32 (n - 1)
  have b := c_isub (n - 1) q
  have r2 := rng32 ((n - 1) - q)
  have e1 : (1 : Int32).toInt = 1 := by decide
  have d := dgs_b m
  rw [Int32.lt_iff_toInt_lt] at h
  constructor <;> omega
theorem dg_i {p n nt q : Int32} {m : Nat} {es : List Value} (G : Dg p n nt m es) (q0 : 0 ≤ q.toInt) (h : q < n) : ¬ (p + q) < (0 : Int32) ∧ (p + q) < nt ∧ es.getD (p + q).toNatClampNeg (.int (0 : Int32)) = .int (Int32.ofNat (48 + m / 10 ^ (dgs m - 1 - q.toInt.toNat) % 10)) := by
  obtain ⟨g0, g1, g2, g3, g4, g5⟩ := G
  have a := c_iadd p q
  have r := rng32 (p + q)
  have e0 : (0 : Int32).toInt = 0 := by decide
  have d := dgs_b m
  rw [Int32.lt_iff_toInt_lt] at h
  have k := g5 q.toInt.toNat (by omega)
  have i : p.toNatClampNeg + q.toInt.toNat = (p + q).toNatClampNeg := by simp only [Int32.toNatClampNeg]; omega
  rw [i] at k
  refine ⟨?_, ?_, k⟩
  · rw [Int32.lt_iff_toInt_lt]; omega
  · rw [Int32.lt_iff_toInt_lt]; omega
theorem dg_nz {r : Int64} {e : Nat} (h : r.toInt = ((10 ^ e : Nat) : Int)) : r ≠ 0 := fun q => by
  subst q; have e0 : (0 : Int64).toInt = 0 := by decide
  have : 0 < 10 ^ e := Nat.pos_of_ne_zero (by simp)
  omega
theorem dg_c {w y : Int32} {r : Int64} {m e : Nat} (hm : m ≤ 2 ^ 31) (hw : w.toInt = (m : Int)) (he : e ≤ 9) (hr : r.toInt = ((10 ^ e : Nat) : Int)) (hd : y = (((w.toInt64 / r) - ((w.toInt64 / r) / (10 : Int64)) * (10 : Int64)).toInt32)) : (caL (Int32.ofNat (48 + m / 10 ^ e % 10))) = (((48 : Int32) + y).toUInt32.toUInt16.toUInt32.toInt32) := by
  have hv : w.toInt64.toInt = (m : Int) := by rw [c_i2l]; exact hw
  generalize w.toInt64 = v at hv hd
  have p1 : 0 < 10 ^ e := Nat.pos_of_ne_zero (by simp)
  have hm1 : r ≠ -1 := fun q => by
    subst q; have e0 : (-1 : Int64).toInt = -1 := by decide
    omega
  have q1 := (c_ldiv v r _ hr hm1).1 (by omega)
  have e10 : (10 : Int64).toInt = 10 := by decide
  have q0 : (v / r).toInt = ((m / 10 ^ e : Nat) : Int) := by rw [q1, hv]; exact (Int.natCast_ediv _ _).symm
  have q2 := (c_lrem (v / r) (10 : Int64) 10 e10).1 (by rw [q0]; exact Int.natCast_nonneg _)
  have l := c_l2i ((v / r) - ((v / r) / (10 : Int64)) * (10 : Int64))
  rw [← hd, q2, q0] at l
  have k : ∀ j : Fin 10, (caL (Int32.ofNat (48 + j.val))) = Int32.ofNat (48 + j.val) := by decide
  have hj : m / 10 ^ e % 10 < 10 := Nat.mod_lt _ (by decide)
  rw [k ⟨_, hj⟩]
  have rl := rng32 y
  have a := c_iadd 48 y
  have ra := rng32 (48 + y)
  have c := c_i2c (48 + y)
  have e48 : (48 : Int32).toInt = 48 := by decide
  have t : (Int32.ofNat (48 + m / 10 ^ e % 10)).toInt = ((48 + m / 10 ^ e % 10 : Nat) : Int) := Int32.toInt_ofNat_of_lt (by omega)
  rw [← Int32.toInt_inj, t]
  generalize (48 + y).toUInt32.toUInt16.toUInt32.toInt32 = z at *
  generalize m / 10 ^ e = N at *
  omega
def p10L : List Value := [(Value.long (1 : Int64)), (Value.long (10 : Int64)), (Value.long (100 : Int64)), (Value.long (1000 : Int64)), (Value.long (10000 : Int64)), (Value.long (100000 : Int64)), (Value.long (1000000 : Int64)), (Value.long (10000000 : Int64)), (Value.long (100000000 : Int64)), (Value.long (1000000000 : Int64))]
theorem own_p10 (k : Nat) (h : k < 10) : p10L.getD k (.long (0 : Int64)) = .long (Int64.ofNat (10 ^ k)) := by
  match k, h with
  | 0, _ => rfl
  | 1, _ => rfl
  | 2, _ => rfl
  | 3, _ => rfl
  | 4, _ => rfl
  | 5, _ => rfl
  | 6, _ => rfl
  | 7, _ => rfl
  | 8, _ => rfl
  | 9, _ => rfl
theorem own_p11 {q : Int32} {k : Nat} (e : q.toInt = (k : Int)) (h : k ≤ 9) : ¬ q < (0 : Int32) ∧ q < (10 : Int32) ∧ p10L.getD q.toNatClampNeg (.long (0 : Int64)) = .long (Int64.ofNat (10 ^ k)) := by
  have e0 : (0 : Int32).toInt = 0 := by decide
  have e1 : (10 : Int32).toInt = 10 := by decide
  have i : q.toNatClampNeg = k := by simp only [Int32.toNatClampNeg]; omega
  refine ⟨?_, ?_, by rw [i]; exact own_p10 k (by omega)⟩
  · rw [Int32.lt_iff_toInt_lt]; omega
  · rw [Int32.lt_iff_toInt_lt]; omega
theorem own_p12 {k : Nat} (h : k ≤ 9) : (Int64.ofNat (10 ^ k)).toInt = ((10 ^ k : Nat) : Int) :=
  Int64.toInt_ofNat_of_lt (Nat.lt_of_le_of_lt (Nat.pow_le_pow_right (by decide) h) (by decide))
theorem pn_com_example_hearsay_rules_hearsayrules_InvalidJsonExceptionAtPinLaw : plainName "com/example/hearsay_rules/hearsayrules/InvalidJsonExceptionAtPinLaw" = true := by first | (simp [plainName, overriddenIn]; done) | decide +kernel
theorem d43_0 : decode method_3_code 0 = .ok (.iload_n 0, 1) := by decide +kernel
theorem d43_1 : decode method_3_code 1 = .ok (.bipush 10, 2) := by decide +kernel
theorem d43_3 : decode method_3_code 3 = .ok (.if_icmp .ge 5, 3) := by decide +kernel
theorem d43_6 : decode method_3_code 6 = .ok (.iconst 1, 1) := by decide +kernel
theorem d43_7 : decode method_3_code 7 = .ok (.ireturn, 1) := by decide +kernel
theorem d43_8 : decode method_3_code 8 = .ok (.iload_n 0, 1) := by decide +kernel
theorem d43_9 : decode method_3_code 9 = .ok (.bipush 100, 2) := by decide +kernel
theorem d43_11 : decode method_3_code 11 = .ok (.if_icmp .ge 5, 3) := by decide +kernel
theorem d43_14 : decode method_3_code 14 = .ok (.iconst 2, 1) := by decide +kernel
theorem d43_15 : decode method_3_code 15 = .ok (.ireturn, 1) := by decide +kernel
theorem d43_16 : decode method_3_code 16 = .ok (.iload_n 0, 1) := by decide +kernel
theorem d43_17 : decode method_3_code 17 = .ok (.sipush 1000, 3) := by decide +kernel
theorem d43_20 : decode method_3_code 20 = .ok (.if_icmp .ge 5, 3) := by decide +kernel
theorem d43_23 : decode method_3_code 23 = .ok (.iconst 3, 1) := by decide +kernel
theorem d43_24 : decode method_3_code 24 = .ok (.ireturn, 1) := by decide +kernel
theorem d43_25 : decode method_3_code 25 = .ok (.iload_n 0, 1) := by decide +kernel
theorem d43_26 : decode method_3_code 26 = .ok (.sipush 10000, 3) := by decide +kernel
theorem d43_29 : decode method_3_code 29 = .ok (.if_icmp .ge 5, 3) := by decide +kernel
theorem d43_32 : decode method_3_code 32 = .ok (.iconst 4, 1) := by decide +kernel
theorem d43_33 : decode method_3_code 33 = .ok (.ireturn, 1) := by decide +kernel
theorem d43_34 : decode method_3_code 34 = .ok (.iload_n 0, 1) := by decide +kernel
theorem d43_35 : decode method_3_code 35 = .ok (.ldc 55, 2) := by decide +kernel
theorem d43_37 : decode method_3_code 37 = .ok (.if_icmp .ge 5, 3) := by decide +kernel
theorem d43_40 : decode method_3_code 40 = .ok (.iconst 5, 1) := by decide +kernel
theorem d43_41 : decode method_3_code 41 = .ok (.ireturn, 1) := by decide +kernel
theorem d43_42 : decode method_3_code 42 = .ok (.iload_n 0, 1) := by decide +kernel
theorem d43_43 : decode method_3_code 43 = .ok (.ldc 56, 2) := by decide +kernel
theorem d43_45 : decode method_3_code 45 = .ok (.if_icmp .ge 6, 3) := by decide +kernel
theorem d43_48 : decode method_3_code 48 = .ok (.bipush 6, 2) := by decide +kernel
theorem d43_50 : decode method_3_code 50 = .ok (.ireturn, 1) := by decide +kernel
theorem d43_51 : decode method_3_code 51 = .ok (.iload_n 0, 1) := by decide +kernel
theorem d43_52 : decode method_3_code 52 = .ok (.ldc 57, 2) := by decide +kernel
theorem d43_54 : decode method_3_code 54 = .ok (.if_icmp .ge 6, 3) := by decide +kernel
theorem d43_57 : decode method_3_code 57 = .ok (.bipush 7, 2) := by decide +kernel
theorem d43_59 : decode method_3_code 59 = .ok (.ireturn, 1) := by decide +kernel
theorem d43_60 : decode method_3_code 60 = .ok (.iload_n 0, 1) := by decide +kernel
theorem d43_61 : decode method_3_code 61 = .ok (.ldc 58, 2) := by decide +kernel
theorem d43_63 : decode method_3_code 63 = .ok (.if_icmp .ge 6, 3) := by decide +kernel
theorem d43_66 : decode method_3_code 66 = .ok (.bipush 8, 2) := by decide +kernel
theorem d43_68 : decode method_3_code 68 = .ok (.ireturn, 1) := by decide +kernel
theorem d43_69 : decode method_3_code 69 = .ok (.iload_n 0, 1) := by decide +kernel
theorem d43_70 : decode method_3_code 70 = .ok (.ldc 59, 2) := by decide +kernel
theorem d43_72 : decode method_3_code 72 = .ok (.if_icmp .ge 6, 3) := by decide +kernel
theorem d43_75 : decode method_3_code 75 = .ok (.bipush 9, 2) := by decide +kernel
theorem d43_77 : decode method_3_code 77 = .ok (.ireturn, 1) := by decide +kernel
theorem d43_78 : decode method_3_code 78 = .ok (.bipush 10, 2) := by decide +kernel
theorem d43_80 : decode method_3_code 80 = .ok (.ireturn, 1) := by decide +kernel
set_option maxRecDepth 65536 in
set_option maxHeartbeats 40000000 in
theorem rmDc (l : Launch) (Z : State) (a0 : Array Value) (hw : ∀ d ∈ tables_1, d.before a0 Z = true) (ws : List Jvm.Cond) (w1 : Int32) (m0 : Nat) (h0 : Heap) (n0 : Nat) (O0 : Old Z n0 h0) (hm : w1.toInt = (m0 : Int)) :
    Con l Z mq43 method_3_code 1 (some .int) ws ({ frames := 0, cells := 0, slots := 0, locals := 0 } : Room) #[(.int w1)] h0 (fun v h L => ∃ r : Int32, v = some (.int r) ∧ Fr n0 L ∧ h = h0 ∧ r.toInt = (dgs m0 : Int)) := by
  refine own_body (plainFor_of_name pn_com_example_hearsay_rules_hearsayrules_InvalidJsonExceptionAtPinLaw) ?_
  intro p e s m below meth c s₁ hx hby hml hZ hown hnm hlk hret X0 e0
  have N0 := Fr.nil n0
  have D := @hb _ _ hby
  refine Go.st (T' := s₁) (f' := (mkF m 0 #[iv w1] [])) (fun _ k => castTop (by first | (simp [entryFrame, mkF, argsToLocals, Value.category]; done) | rfl) k) ?_
  refine zin 1 X0 hx (D d43_0) rfl ?_
  refine zbp 3 10 X0 hx (D d43_1) ?_
  by_cases cd1 : w1 < (10 : Int32)
  · refine zcn 6 X0 hx (D d43_3) (tlt cd1).2.1 ?_
    refine zic 7 1 X0 hx (D d43_6) ?_
    refine Go.retV X0 hlk hx (t := .int) hret rfl (Or.inl ⟨rfl, Or.inl rfl, _, rfl⟩) (D d43_7) e0 ?_ (by decide) (by decide)
    exact ⟨_, rfl, N0, rfl, own_dc (k := 1) (dgs_of (by decide) (by decide) (Or.inl rfl) (Or.inr (own_ll cd1 hm (by decide)))) (by decide)⟩
  · refine zcy 8 X0 hx (D d43_3) (flt cd1).2.1 ?_
    refine zin 9 X0 hx (D d43_8) rfl ?_
    refine zbp 11 100 X0 hx (D d43_9) ?_
    by_cases cd2 : w1 < (100 : Int32)
    · refine zcn 14 X0 hx (D d43_11) (tlt cd2).2.1 ?_
      refine zic 15 2 X0 hx (D d43_14) ?_
      refine Go.retV X0 hlk hx (t := .int) hret rfl (Or.inl ⟨rfl, Or.inl rfl, _, rfl⟩) (D d43_15) e0 ?_ (by decide) (by decide)
      exact ⟨_, rfl, N0, rfl, own_dc (k := 2) (dgs_of (by decide) (by decide) (Or.inr (own_lg cd1 hm (by decide))) (Or.inr (own_ll cd2 hm (by decide)))) (by decide)⟩
    · refine zcy 16 X0 hx (D d43_11) (flt cd2).2.1 ?_
      refine zin 17 X0 hx (D d43_16) rfl ?_
      refine Go.st (f' := (mkF m 20 #[iv w1] [(.int 1000), (.int w1)])) (fun _ k => XS.sipush X0.here hx rfl (D d43_17) k) ?_
      by_cases cd3 : w1 < (1000 : Int32)
      · refine zcn 23 X0 hx (D d43_20) (tlt cd3).2.1 ?_
        refine zic 24 3 X0 hx (D d43_23) ?_
        refine Go.retV X0 hlk hx (t := .int) hret rfl (Or.inl ⟨rfl, Or.inl rfl, _, rfl⟩) (D d43_24) e0 ?_ (by decide) (by decide)
        exact ⟨_, rfl, N0, rfl, own_dc (k := 3) (dgs_of (by decide) (by decide) (Or.inr (own_lg cd2 hm (by decide))) (Or.inr (own_ll cd3 hm (by decide)))) (by decide)⟩
      · refine zcy 25 X0 hx (D d43_20) (flt cd3).2.1 ?_
        refine zin 26 X0 hx (D d43_25) rfl ?_
        refine Go.st (f' := (mkF m 29 #[iv w1] [(.int 10000), (.int w1)])) (fun _ k => XS.sipush X0.here hx rfl (D d43_26) k) ?_
        by_cases cd4 : w1 < (10000 : Int32)
        · refine zcn 32 X0 hx (D d43_29) (tlt cd4).2.1 ?_
          refine zic 33 4 X0 hx (D d43_32) ?_
          refine Go.retV X0 hlk hx (t := .int) hret rfl (Or.inl ⟨rfl, Or.inl rfl, _, rfl⟩) (D d43_33) e0 ?_ (by decide) (by decide)
          exact ⟨_, rfl, N0, rfl, own_dc (k := 4) (dgs_of (by decide) (by decide) (Or.inr (own_lg cd3 hm (by decide))) (Or.inr (own_ll cd4 hm (by decide)))) (by decide)⟩
        · refine zcy 34 X0 hx (D d43_29) (flt cd4).2.1 ?_
          refine zin 35 X0 hx (D d43_34) rfl ?_
          refine Go.st (f' := (mkF m 37 #[iv w1] [(.int 100000), (.int w1)])) (fun _ k => X0.ldcInt hx hown (mvT hZ (ww hw 313 rfl)) (g := (mkF m 35 #[iv w1] [(.int w1)])) rfl (D d43_35) _ k) ?_
          by_cases cd5 : w1 < (100000 : Int32)
          · refine zcn 40 X0 hx (D d43_37) (tlt cd5).2.1 ?_
            refine zic 41 5 X0 hx (D d43_40) ?_
            refine Go.retV X0 hlk hx (t := .int) hret rfl (Or.inl ⟨rfl, Or.inl rfl, _, rfl⟩) (D d43_41) e0 ?_ (by decide) (by decide)
            exact ⟨_, rfl, N0, rfl, own_dc (k := 5) (dgs_of (by decide) (by decide) (Or.inr (own_lg cd4 hm (by decide))) (Or.inr (own_ll cd5 hm (by decide)))) (by decide)⟩
          · refine zcy 42 X0 hx (D d43_37) (flt cd5).2.1 ?_
            refine zin 43 X0 hx (D d43_42) rfl ?_
            refine Go.st (f' := (mkF m 45 #[iv w1] [(.int 1000000), (.int w1)])) (fun _ k => X0.ldcInt hx hown (mvT hZ (ww hw 314 rfl)) (g := (mkF m 43 #[iv w1] [(.int w1)])) rfl (D d43_43) _ k) ?_
            by_cases cd6 : w1 < (1000000 : Int32)
            · refine zcn 48 X0 hx (D d43_45) (tlt cd6).2.1 ?_
              refine zbp 50 6 X0 hx (D d43_48) ?_
              refine Go.retV X0 hlk hx (t := .int) hret rfl (Or.inl ⟨rfl, Or.inl rfl, _, rfl⟩) (D d43_50) e0 ?_ (by decide) (by decide)
              exact ⟨_, rfl, N0, rfl, own_dc (k := 6) (dgs_of (by decide) (by decide) (Or.inr (own_lg cd5 hm (by decide))) (Or.inr (own_ll cd6 hm (by decide)))) (by decide)⟩
            · refine zcy 51 X0 hx (D d43_45) (flt cd6).2.1 ?_
              refine zin 52 X0 hx (D d43_51) rfl ?_
              refine Go.st (f' := (mkF m 54 #[iv w1] [(.int 10000000), (.int w1)])) (fun _ k => X0.ldcInt hx hown (mvT hZ (ww hw 315 rfl)) (g := (mkF m 52 #[iv w1] [(.int w1)])) rfl (D d43_52) _ k) ?_
              by_cases cd7 : w1 < (10000000 : Int32)
              · refine zcn 57 X0 hx (D d43_54) (tlt cd7).2.1 ?_
                refine zbp 59 7 X0 hx (D d43_57) ?_
                refine Go.retV X0 hlk hx (t := .int) hret rfl (Or.inl ⟨rfl, Or.inl rfl, _, rfl⟩) (D d43_59) e0 ?_ (by decide) (by decide)
                exact ⟨_, rfl, N0, rfl, own_dc (k := 7) (dgs_of (by decide) (by decide) (Or.inr (own_lg cd6 hm (by decide))) (Or.inr (own_ll cd7 hm (by decide)))) (by decide)⟩
              · refine zcy 60 X0 hx (D d43_54) (flt cd7).2.1 ?_
                refine zin 61 X0 hx (D d43_60) rfl ?_
                refine Go.st (f' := (mkF m 63 #[iv w1] [(.int 100000000), (.int w1)])) (fun _ k => X0.ldcInt hx hown (mvT hZ (ww hw 316 rfl)) (g := (mkF m 61 #[iv w1] [(.int w1)])) rfl (D d43_61) _ k) ?_
                by_cases cd8 : w1 < (100000000 : Int32)
                · refine zcn 66 X0 hx (D d43_63) (tlt cd8).2.1 ?_
                  refine zbp 68 8 X0 hx (D d43_66) ?_
                  refine Go.retV X0 hlk hx (t := .int) hret rfl (Or.inl ⟨rfl, Or.inl rfl, _, rfl⟩) (D d43_68) e0 ?_ (by decide) (by decide)
                  exact ⟨_, rfl, N0, rfl, own_dc (k := 8) (dgs_of (by decide) (by decide) (Or.inr (own_lg cd7 hm (by decide))) (Or.inr (own_ll cd8 hm (by decide)))) (by decide)⟩
                · refine zcy 69 X0 hx (D d43_63) (flt cd8).2.1 ?_
                  refine zin 70 X0 hx (D d43_69) rfl ?_
                  refine Go.st (f' := (mkF m 72 #[iv w1] [(.int 1000000000), (.int w1)])) (fun _ k => X0.ldcInt hx hown (mvT hZ (ww hw 317 rfl)) (g := (mkF m 70 #[iv w1] [(.int w1)])) rfl (D d43_70) _ k) ?_
                  by_cases cd9 : w1 < (1000000000 : Int32)
                  · refine zcn 75 X0 hx (D d43_72) (tlt cd9).2.1 ?_
                    refine zbp 77 9 X0 hx (D d43_75) ?_
                    refine Go.retV X0 hlk hx (t := .int) hret rfl (Or.inl ⟨rfl, Or.inl rfl, _, rfl⟩) (D d43_77) e0 ?_ (by decide) (by decide)
                    exact ⟨_, rfl, N0, rfl, own_dc (k := 9) (dgs_of (by decide) (by decide) (Or.inr (own_lg cd8 hm (by decide))) (Or.inr (own_ll cd9 hm (by decide)))) (by decide)⟩
                  · refine zcy 78 X0 hx (D d43_72) (flt cd9).2.1 ?_
                    refine zbp 80 10 X0 hx (D d43_78) ?_
                    refine Go.retV X0 hlk hx (t := .int) hret rfl (Or.inl ⟨rfl, Or.inl rfl, _, rfl⟩) (D d43_80) e0 ?_ (by decide) (by decide)
                    exact ⟨_, rfl, N0, rfl, own_dc (k := 10) (dgs_of (by decide) (by decide) (Or.inr (own_lg cd9 hm (by decide))) (Or.inl rfl)) (by decide)⟩
theorem own_na {x : Int32} (h : 0 ≤ x.toInt) : x.toInt = (nAbs x : Int) := by unfold nAbs; omega
theorem d53_0 : decode method_4_code 0 = .ok (.bipush 10, 2) := by decide +kernel
theorem d53_2 : decode method_4_code 2 = .ok (.newarray .long, 2) := by decide +kernel
theorem d53_4 : decode method_4_code 4 = .ok (.dup, 1) := by decide +kernel
theorem d53_5 : decode method_4_code 5 = .ok (.iconst 0, 1) := by decide +kernel
theorem d53_6 : decode method_4_code 6 = .ok (.lconst 1, 1) := by decide +kernel
theorem d53_7 : decode method_4_code 7 = .ok (.lastore, 1) := by decide +kernel
theorem d53_8 : decode method_4_code 8 = .ok (.dup, 1) := by decide +kernel
theorem d53_9 : decode method_4_code 9 = .ok (.iconst 1, 1) := by decide +kernel
theorem d53_10 : decode method_4_code 10 = .ok (.ldc2_w 60, 3) := by decide +kernel
theorem d53_13 : decode method_4_code 13 = .ok (.lastore, 1) := by decide +kernel
theorem d53_14 : decode method_4_code 14 = .ok (.dup, 1) := by decide +kernel
theorem d53_15 : decode method_4_code 15 = .ok (.iconst 2, 1) := by decide +kernel
theorem d53_16 : decode method_4_code 16 = .ok (.ldc2_w 62, 3) := by decide +kernel
theorem d53_19 : decode method_4_code 19 = .ok (.lastore, 1) := by decide +kernel
theorem d53_20 : decode method_4_code 20 = .ok (.dup, 1) := by decide +kernel
theorem d53_21 : decode method_4_code 21 = .ok (.iconst 3, 1) := by decide +kernel
theorem d53_22 : decode method_4_code 22 = .ok (.ldc2_w 64, 3) := by decide +kernel
theorem d53_25 : decode method_4_code 25 = .ok (.lastore, 1) := by decide +kernel
theorem d53_26 : decode method_4_code 26 = .ok (.dup, 1) := by decide +kernel
theorem d53_27 : decode method_4_code 27 = .ok (.iconst 4, 1) := by decide +kernel
theorem d53_28 : decode method_4_code 28 = .ok (.ldc2_w 66, 3) := by decide +kernel
theorem d53_31 : decode method_4_code 31 = .ok (.lastore, 1) := by decide +kernel
theorem d53_32 : decode method_4_code 32 = .ok (.dup, 1) := by decide +kernel
theorem d53_33 : decode method_4_code 33 = .ok (.iconst 5, 1) := by decide +kernel
theorem d53_34 : decode method_4_code 34 = .ok (.ldc2_w 68, 3) := by decide +kernel
theorem d53_37 : decode method_4_code 37 = .ok (.lastore, 1) := by decide +kernel
theorem d53_38 : decode method_4_code 38 = .ok (.dup, 1) := by decide +kernel
theorem d53_39 : decode method_4_code 39 = .ok (.bipush 6, 2) := by decide +kernel
theorem d53_41 : decode method_4_code 41 = .ok (.ldc2_w 70, 3) := by decide +kernel
theorem d53_44 : decode method_4_code 44 = .ok (.lastore, 1) := by decide +kernel
theorem d53_45 : decode method_4_code 45 = .ok (.dup, 1) := by decide +kernel
theorem d53_46 : decode method_4_code 46 = .ok (.bipush 7, 2) := by decide +kernel
theorem d53_48 : decode method_4_code 48 = .ok (.ldc2_w 72, 3) := by decide +kernel
theorem d53_51 : decode method_4_code 51 = .ok (.lastore, 1) := by decide +kernel
theorem d53_52 : decode method_4_code 52 = .ok (.dup, 1) := by decide +kernel
theorem d53_53 : decode method_4_code 53 = .ok (.bipush 8, 2) := by decide +kernel
theorem d53_55 : decode method_4_code 55 = .ok (.ldc2_w 74, 3) := by decide +kernel
theorem d53_58 : decode method_4_code 58 = .ok (.lastore, 1) := by decide +kernel
theorem d53_59 : decode method_4_code 59 = .ok (.dup, 1) := by decide +kernel
theorem d53_60 : decode method_4_code 60 = .ok (.bipush 9, 2) := by decide +kernel
theorem d53_62 : decode method_4_code 62 = .ok (.ldc2_w 76, 3) := by decide +kernel
theorem d53_65 : decode method_4_code 65 = .ok (.lastore, 1) := by decide +kernel
theorem d53_66 : decode method_4_code 66 = .ok (.astore_n 1, 1) := by decide +kernel
theorem d53_67 : decode method_4_code 67 = .ok (.aload_n 1, 1) := by decide +kernel
theorem d53_68 : decode method_4_code 68 = .ok (.iload_n 0, 1) := by decide +kernel
theorem d53_69 : decode method_4_code 69 = .ok (.laload, 1) := by decide +kernel
theorem d53_70 : decode method_4_code 70 = .ok (.lreturn, 1) := by decide +kernel
set_option maxRecDepth 65536 in
set_option maxHeartbeats 40000000 in
theorem rmPw (l : Launch) (Z : State) (a0 : Array Value) (hw : ∀ d ∈ tables_1, d.before a0 Z = true) (ws : List Jvm.Cond) (q1 : Int32) (k0 : Nat) (h0 : Heap) (n0 : Nat) (O0 : Old Z n0 h0) (hk : q1.toInt = (k0 : Int)) (hk9 : k0 ≤ 9) :
    Con l Z mq44 method_4_code 2 (some .long) ws ({ frames := 0, cells := 1, slots := 10, locals := 0 } : Room) #[(.int q1)] h0 (fun v h L => ∃ r : Int64, v = some (.long r) ∧ Fr n0 L ∧ Keep h0 h [] ∧ r.toInt = ((10 ^ k0 : Nat) : Int)) := by
  refine own_body (plainFor_of_name pn_com_example_hearsay_rules_hearsayrules_InvalidJsonExceptionAtPinLaw) ?_
  intro p e s m below meth c s₁ hx hby hml hZ hown hnm hlk hret X0 e0
  have N0 := Fr.nil n0
  have D := @hb _ _ hby
  have K0 : Keep h0 h0 [] := Keep.refl _ _
  refine Go.st (T' := s₁) (f' := (mkF m 0 #[iv q1, .unset] [])) (fun _ k => castTop (by first | (simp [entryFrame, mkF, argsToLocals, Value.category]; done) | rfl) k) ?_
  refine zbp 2 10 X0 hx (D d53_0) ?_
  obtain ⟨T1, h1, kc1, X1, e1, E1, A1, st1⟩ := newP X0 hx hZ (ww hw 287 rfl) e0 (g := (mkF m 2 #[iv q1, .unset] [(.int 10)])) rfl (D d53_2) rfl (by decide) (cap := 10) (by decide) (by decide) (by decide) (by decide)
  obtain ⟨b1, g1⟩ : ∃ z, z = h0.size := ⟨_, rfl⟩
  rw [← g1] at A1 st1
  have g_b1 : n0 ≤ b1 := Nat.le_trans (O0.1 ▸ O0.2.1) (Nat.le_of_eq g1.symm)
  have O1 : Old Z n0 h1 := O0.ext E1
  have sz_b1 : h0.size ≤ b1 := Nat.le_trans K0.1 (Nat.le_of_eq g1.symm)
  have K1 : Keep h0 h1 [] := K0.ext E1
  have V_b1 : Arv Z h1 b1 kc1 .long (10 : Int32) [(.long (0 : Int64)), (.long (0 : Int64)), (.long (0 : Int64)), (.long (0 : Int64)), (.long (0 : Int64)), (.long (0 : Int64)), (.long (0 : Int64)), (.long (0 : Int64)), (.long (0 : Int64)), (.long (0 : Int64))] (.long (0 : Int64)) := (Arv.new A1 (by decide)).pad (pad_rep [] (.long (0 : Int64)) 10)
  have lt_b1 := V_b1.lt
  refine zst 4 #[iv q1, .unset] [(.ref b1)] st1 ?_
  refine Go.st (f' := (mkF m 5 #[iv q1, .unset] [(.ref b1), (.ref b1)])) (fun _ k => XS.dup X1.here hx rfl (D d53_4) rfl rfl k) ?_
  refine zic 6 0 X1 hx (D d53_5) ?_
  refine Go.st (f' := (mkF m 7 #[iv q1, .unset] [(.long (1 : Int64)), (.int 0), (.ref b1), (.ref b1)])) (fun _ k => XS.lconst X1.here hx rfl (D d53_6) k) ?_
  obtain ⟨cl2, Ar2, q2, S2, Nx2, H2, G2⟩ := id V_b1
  have hin2 : ¬ ((0 : Int32) < 0 ∨ cl2.slots.size ≤ ((0 : Int32)).toNatClampNeg) := inb_of S2 ⟨by decide, by decide⟩
  obtain ⟨T3, h3, X3, e3, W3, st3⟩ := stJ X1 hx hZ e1 Ar2 (j := (0 : Int32)) hin2 (g := (mkF m 7 #[iv q1, .unset] [(.long (1 : Int64)), (.int 0), (.ref b1), (.ref b1)])) rfl rfl (D d53_7)
  have V_b1_3 : Arv Z h3 b1 kc1 .long (10 : Int32) [(.long (1 : Int64)), (.long (0 : Int64)), (.long (0 : Int64)), (.long (0 : Int64)), (.long (0 : Int64)), (.long (0 : Int64)), (.long (0 : Int64)), (.long (0 : Int64)), (.long (0 : Int64)), (.long (0 : Int64))] (.long (0 : Int64)) := Arv.set Ar2 q2 S2 Nx2 H2 G2 rfl W3 0 rfl (Nat.le_of_ble_eq_true rfl)
  have N3 := Fr.snoc X3 N0 g_b1
  have O3 : Old Z n0 h3 := O1.wr W3 g_b1
  have K3 : Keep h0 h3 [] := K1.wr W3 (Or.inr sz_b1)
  refine zst 8 #[iv q1, .unset] [(.ref b1)] st3 ?_
  refine Go.st (f' := (mkF m 9 #[iv q1, .unset] [(.ref b1), (.ref b1)])) (fun _ k => XS.dup X3.here hx rfl (D d53_8) rfl rfl k) ?_
  refine zic 10 1 X3 hx (D d53_9) ?_
  refine Go.st (f' := (mkF m 13 #[iv q1, .unset] [(.long (10 : Int64)), (.int 1), (.ref b1), (.ref b1)])) (fun _ k => X3.ldc2Long hx hown (mvT hZ (ww hw 288 rfl)) (g := (mkF m 10 #[iv q1, .unset] [(.int 1), (.ref b1), (.ref b1)])) rfl (D d53_10) _ k) ?_
  obtain ⟨cl4, Ar4, q4, S4, Nx4, H4, G4⟩ := id V_b1_3
  have hin4 : ¬ ((1 : Int32) < 0 ∨ cl4.slots.size ≤ ((1 : Int32)).toNatClampNeg) := inb_of S4 ⟨by decide, by decide⟩
  obtain ⟨T5, h5, X5, e5, W5, st5⟩ := stJ X3 hx hZ e3 Ar4 (j := (1 : Int32)) hin4 (g := (mkF m 13 #[iv q1, .unset] [(.long (10 : Int64)), (.int 1), (.ref b1), (.ref b1)])) rfl rfl (D d53_13)
  have V_b1_5 : Arv Z h5 b1 kc1 .long (10 : Int32) [(.long (1 : Int64)), (.long (10 : Int64)), (.long (0 : Int64)), (.long (0 : Int64)), (.long (0 : Int64)), (.long (0 : Int64)), (.long (0 : Int64)), (.long (0 : Int64)), (.long (0 : Int64)), (.long (0 : Int64))] (.long (0 : Int64)) := Arv.set Ar4 q4 S4 Nx4 H4 G4 rfl W5 1 rfl (Nat.le_of_ble_eq_true rfl)
  have N5 := Fr.snoc X5 N3 g_b1
  have O5 : Old Z n0 h5 := O3.wr W5 g_b1
  have K5 : Keep h0 h5 [] := K3.wr W5 (Or.inr sz_b1)
  refine zst 14 #[iv q1, .unset] [(.ref b1)] st5 ?_
  refine Go.st (f' := (mkF m 15 #[iv q1, .unset] [(.ref b1), (.ref b1)])) (fun _ k => XS.dup X5.here hx rfl (D d53_14) rfl rfl k) ?_
  refine zic 16 2 X5 hx (D d53_15) ?_
  refine Go.st (f' := (mkF m 19 #[iv q1, .unset] [(.long (100 : Int64)), (.int 2), (.ref b1), (.ref b1)])) (fun _ k => X5.ldc2Long hx hown (mvT hZ (ww hw 289 rfl)) (g := (mkF m 16 #[iv q1, .unset] [(.int 2), (.ref b1), (.ref b1)])) rfl (D d53_16) _ k) ?_
  obtain ⟨cl6, Ar6, q6, S6, Nx6, H6, G6⟩ := id V_b1_5
  have hin6 : ¬ ((2 : Int32) < 0 ∨ cl6.slots.size ≤ ((2 : Int32)).toNatClampNeg) := inb_of S6 ⟨by decide, by decide⟩
  obtain ⟨T7, h7, X7, e7, W7, st7⟩ := stJ X5 hx hZ e5 Ar6 (j := (2 : Int32)) hin6 (g := (mkF m 19 #[iv q1, .unset] [(.long (100 : Int64)), (.int 2), (.ref b1), (.ref b1)])) rfl rfl (D d53_19)
  have V_b1_7 : Arv Z h7 b1 kc1 .long (10 : Int32) [(.long (1 : Int64)), (.long (10 : Int64)), (.long (100 : Int64)), (.long (0 : Int64)), (.long (0 : Int64)), (.long (0 : Int64)), (.long (0 : Int64)), (.long (0 : Int64)), (.long (0 : Int64)), (.long (0 : Int64))] (.long (0 : Int64)) := Arv.set Ar6 q6 S6 Nx6 H6 G6 rfl W7 2 rfl (Nat.le_of_ble_eq_true rfl)
  have N7 := Fr.snoc X7 N5 g_b1
  have O7 : Old Z n0 h7 := O5.wr W7 g_b1
  have K7 : Keep h0 h7 [] := K5.wr W7 (Or.inr sz_b1)
  refine zst 20 #[iv q1, .unset] [(.ref b1)] st7 ?_
  refine Go.st (f' := (mkF m 21 #[iv q1, .unset] [(.ref b1), (.ref b1)])) (fun _ k => XS.dup X7.here hx rfl (D d53_20) rfl rfl k) ?_
  refine zic 22 3 X7 hx (D d53_21) ?_
  refine Go.st (f' := (mkF m 25 #[iv q1, .unset] [(.long (1000 : Int64)), (.int 3), (.ref b1), (.ref b1)])) (fun _ k => X7.ldc2Long hx hown (mvT hZ (ww hw 290 rfl)) (g := (mkF m 22 #[iv q1, .unset] [(.int 3), (.ref b1), (.ref b1)])) rfl (D d53_22) _ k) ?_
  obtain ⟨cl8, Ar8, q8, S8, Nx8, H8, G8⟩ := id V_b1_7
  have hin8 : ¬ ((3 : Int32) < 0 ∨ cl8.slots.size ≤ ((3 : Int32)).toNatClampNeg) := inb_of S8 ⟨by decide, by decide⟩
  obtain ⟨T9, h9, X9, e9, W9, st9⟩ := stJ X7 hx hZ e7 Ar8 (j := (3 : Int32)) hin8 (g := (mkF m 25 #[iv q1, .unset] [(.long (1000 : Int64)), (.int 3), (.ref b1), (.ref b1)])) rfl rfl (D d53_25)
  have V_b1_9 : Arv Z h9 b1 kc1 .long (10 : Int32) [(.long (1 : Int64)), (.long (10 : Int64)), (.long (100 : Int64)), (.long (1000 : Int64)), (.long (0 : Int64)), (.long (0 : Int64)), (.long (0 : Int64)), (.long (0 : Int64)), (.long (0 : Int64)), (.long (0 : Int64))] (.long (0 : Int64)) := Arv.set Ar8 q8 S8 Nx8 H8 G8 rfl W9 3 rfl (Nat.le_of_ble_eq_true rfl)
  have N9 := Fr.snoc X9 N7 g_b1
  have O9 : Old Z n0 h9 := O7.wr W9 g_b1
  have K9 : Keep h0 h9 [] := K7.wr W9 (Or.inr sz_b1)
  refine zst 26 #[iv q1, .unset] [(.ref b1)] st9 ?_
  refine Go.st (f' := (mkF m 27 #[iv q1, .unset] [(.ref b1), (.ref b1)])) (fun _ k => XS.dup X9.here hx rfl (D d53_26) rfl rfl k) ?_
  refine zic 28 4 X9 hx (D d53_27) ?_
  refine Go.st (f' := (mkF m 31 #[iv q1, .unset] [(.long (10000 : Int64)), (.int 4), (.ref b1), (.ref b1)])) (fun _ k => X9.ldc2Long hx hown (mvT hZ (ww hw 291 rfl)) (g := (mkF m 28 #[iv q1, .unset] [(.int 4), (.ref b1), (.ref b1)])) rfl (D d53_28) _ k) ?_
  obtain ⟨cl10, Ar10, q10, S10, Nx10, H10, G10⟩ := id V_b1_9
  have hin10 : ¬ ((4 : Int32) < 0 ∨ cl10.slots.size ≤ ((4 : Int32)).toNatClampNeg) := inb_of S10 ⟨by decide, by decide⟩
  obtain ⟨T11, h11, X11, e11, W11, st11⟩ := stJ X9 hx hZ e9 Ar10 (j := (4 : Int32)) hin10 (g := (mkF m 31 #[iv q1, .unset] [(.long (10000 : Int64)), (.int 4), (.ref b1), (.ref b1)])) rfl rfl (D d53_31)
  have V_b1_11 : Arv Z h11 b1 kc1 .long (10 : Int32) [(.long (1 : Int64)), (.long (10 : Int64)), (.long (100 : Int64)), (.long (1000 : Int64)), (.long (10000 : Int64)), (.long (0 : Int64)), (.long (0 : Int64)), (.long (0 : Int64)), (.long (0 : Int64)), (.long (0 : Int64))] (.long (0 : Int64)) := Arv.set Ar10 q10 S10 Nx10 H10 G10 rfl W11 4 rfl (Nat.le_of_ble_eq_true rfl)
  have N11 := Fr.snoc X11 N9 g_b1
  have O11 : Old Z n0 h11 := O9.wr W11 g_b1
  have K11 : Keep h0 h11 [] := K9.wr W11 (Or.inr sz_b1)
  refine zst 32 #[iv q1, .unset] [(.ref b1)] st11 ?_
  refine Go.st (f' := (mkF m 33 #[iv q1, .unset] [(.ref b1), (.ref b1)])) (fun _ k => XS.dup X11.here hx rfl (D d53_32) rfl rfl k) ?_
  refine zic 34 5 X11 hx (D d53_33) ?_
  refine Go.st (f' := (mkF m 37 #[iv q1, .unset] [(.long (100000 : Int64)), (.int 5), (.ref b1), (.ref b1)])) (fun _ k => X11.ldc2Long hx hown (mvT hZ (ww hw 292 rfl)) (g := (mkF m 34 #[iv q1, .unset] [(.int 5), (.ref b1), (.ref b1)])) rfl (D d53_34) _ k) ?_
  obtain ⟨cl12, Ar12, q12, S12, Nx12, H12, G12⟩ := id V_b1_11
  have hin12 : ¬ ((5 : Int32) < 0 ∨ cl12.slots.size ≤ ((5 : Int32)).toNatClampNeg) := inb_of S12 ⟨by decide, by decide⟩
  obtain ⟨T13, h13, X13, e13, W13, st13⟩ := stJ X11 hx hZ e11 Ar12 (j := (5 : Int32)) hin12 (g := (mkF m 37 #[iv q1, .unset] [(.long (100000 : Int64)), (.int 5), (.ref b1), (.ref b1)])) rfl rfl (D d53_37)
  have V_b1_13 : Arv Z h13 b1 kc1 .long (10 : Int32) [(.long (1 : Int64)), (.long (10 : Int64)), (.long (100 : Int64)), (.long (1000 : Int64)), (.long (10000 : Int64)), (.long (100000 : Int64)), (.long (0 : Int64)), (.long (0 : Int64)), (.long (0 : Int64)), (.long (0 : Int64))] (.long (0 : Int64)) := Arv.set Ar12 q12 S12 Nx12 H12 G12 rfl W13 5 rfl (Nat.le_of_ble_eq_true rfl)
  have N13 := Fr.snoc X13 N11 g_b1
  have O13 : Old Z n0 h13 := O11.wr W13 g_b1
  have K13 : Keep h0 h13 [] := K11.wr W13 (Or.inr sz_b1)
  refine zst 38 #[iv q1, .unset] [(.ref b1)] st13 ?_
  refine Go.st (f' := (mkF m 39 #[iv q1, .unset] [(.ref b1), (.ref b1)])) (fun _ k => XS.dup X13.here hx rfl (D d53_38) rfl rfl k) ?_
  refine zbp 41 6 X13 hx (D d53_39) ?_
  refine Go.st (f' := (mkF m 44 #[iv q1, .unset] [(.long (1000000 : Int64)), (.int 6), (.ref b1), (.ref b1)])) (fun _ k => X13.ldc2Long hx hown (mvT hZ (ww hw 293 rfl)) (g := (mkF m 41 #[iv q1, .unset] [(.int 6), (.ref b1), (.ref b1)])) rfl (D d53_41) _ k) ?_
  obtain ⟨cl14, Ar14, q14, S14, Nx14, H14, G14⟩ := id V_b1_13
  have hin14 : ¬ ((6 : Int32) < 0 ∨ cl14.slots.size ≤ ((6 : Int32)).toNatClampNeg) := inb_of S14 ⟨by decide, by decide⟩
  obtain ⟨T15, h15, X15, e15, W15, st15⟩ := stJ X13 hx hZ e13 Ar14 (j := (6 : Int32)) hin14 (g := (mkF m 44 #[iv q1, .unset] [(.long (1000000 : Int64)), (.int 6), (.ref b1), (.ref b1)])) rfl rfl (D d53_44)
  have V_b1_15 : Arv Z h15 b1 kc1 .long (10 : Int32) [(.long (1 : Int64)), (.long (10 : Int64)), (.long (100 : Int64)), (.long (1000 : Int64)), (.long (10000 : Int64)), (.long (100000 : Int64)), (.long (1000000 : Int64)), (.long (0 : Int64)), (.long (0 : Int64)), (.long (0 : Int64))] (.long (0 : Int64)) := Arv.set Ar14 q14 S14 Nx14 H14 G14 rfl W15 6 rfl (Nat.le_of_ble_eq_true rfl)
  have N15 := Fr.snoc X15 N13 g_b1
  have O15 : Old Z n0 h15 := O13.wr W15 g_b1
  have K15 : Keep h0 h15 [] := K13.wr W15 (Or.inr sz_b1)
  refine zst 45 #[iv q1, .unset] [(.ref b1)] st15 ?_
  refine Go.st (f' := (mkF m 46 #[iv q1, .unset] [(.ref b1), (.ref b1)])) (fun _ k => XS.dup X15.here hx rfl (D d53_45) rfl rfl k) ?_
  refine zbp 48 7 X15 hx (D d53_46) ?_
  refine Go.st (f' := (mkF m 51 #[iv q1, .unset] [(.long (10000000 : Int64)), (.int 7), (.ref b1), (.ref b1)])) (fun _ k => X15.ldc2Long hx hown (mvT hZ (ww hw 294 rfl)) (g := (mkF m 48 #[iv q1, .unset] [(.int 7), (.ref b1), (.ref b1)])) rfl (D d53_48) _ k) ?_
  obtain ⟨cl16, Ar16, q16, S16, Nx16, H16, G16⟩ := id V_b1_15
  have hin16 : ¬ ((7 : Int32) < 0 ∨ cl16.slots.size ≤ ((7 : Int32)).toNatClampNeg) := inb_of S16 ⟨by decide, by decide⟩
  obtain ⟨T17, h17, X17, e17, W17, st17⟩ := stJ X15 hx hZ e15 Ar16 (j := (7 : Int32)) hin16 (g := (mkF m 51 #[iv q1, .unset] [(.long (10000000 : Int64)), (.int 7), (.ref b1), (.ref b1)])) rfl rfl (D d53_51)
  have V_b1_17 : Arv Z h17 b1 kc1 .long (10 : Int32) [(.long (1 : Int64)), (.long (10 : Int64)), (.long (100 : Int64)), (.long (1000 : Int64)), (.long (10000 : Int64)), (.long (100000 : Int64)), (.long (1000000 : Int64)), (.long (10000000 : Int64)), (.long (0 : Int64)), (.long (0 : Int64))] (.long (0 : Int64)) := Arv.set Ar16 q16 S16 Nx16 H16 G16 rfl W17 7 rfl (Nat.le_of_ble_eq_true rfl)
  have N17 := Fr.snoc X17 N15 g_b1
  have O17 : Old Z n0 h17 := O15.wr W17 g_b1
  have K17 : Keep h0 h17 [] := K15.wr W17 (Or.inr sz_b1)
  refine zst 52 #[iv q1, .unset] [(.ref b1)] st17 ?_
  refine Go.st (f' := (mkF m 53 #[iv q1, .unset] [(.ref b1), (.ref b1)])) (fun _ k => XS.dup X17.here hx rfl (D d53_52) rfl rfl k) ?_
  refine zbp 55 8 X17 hx (D d53_53) ?_
  refine Go.st (f' := (mkF m 58 #[iv q1, .unset] [(.long (100000000 : Int64)), (.int 8), (.ref b1), (.ref b1)])) (fun _ k => X17.ldc2Long hx hown (mvT hZ (ww hw 295 rfl)) (g := (mkF m 55 #[iv q1, .unset] [(.int 8), (.ref b1), (.ref b1)])) rfl (D d53_55) _ k) ?_
  obtain ⟨cl18, Ar18, q18, S18, Nx18, H18, G18⟩ := id V_b1_17
  have hin18 : ¬ ((8 : Int32) < 0 ∨ cl18.slots.size ≤ ((8 : Int32)).toNatClampNeg) := inb_of S18 ⟨by decide, by decide⟩
  obtain ⟨T19, h19, X19, e19, W19, st19⟩ := stJ X17 hx hZ e17 Ar18 (j := (8 : Int32)) hin18 (g := (mkF m 58 #[iv q1, .unset] [(.long (100000000 : Int64)), (.int 8), (.ref b1), (.ref b1)])) rfl rfl (D d53_58)
  have V_b1_19 : Arv Z h19 b1 kc1 .long (10 : Int32) [(.long (1 : Int64)), (.long (10 : Int64)), (.long (100 : Int64)), (.long (1000 : Int64)), (.long (10000 : Int64)), (.long (100000 : Int64)), (.long (1000000 : Int64)), (.long (10000000 : Int64)), (.long (100000000 : Int64)), (.long (0 : Int64))] (.long (0 : Int64)) := Arv.set Ar18 q18 S18 Nx18 H18 G18 rfl W19 8 rfl (Nat.le_of_ble_eq_true rfl)
  have N19 := Fr.snoc X19 N17 g_b1
  have O19 : Old Z n0 h19 := O17.wr W19 g_b1
  have K19 : Keep h0 h19 [] := K17.wr W19 (Or.inr sz_b1)
  refine zst 59 #[iv q1, .unset] [(.ref b1)] st19 ?_
  refine Go.st (f' := (mkF m 60 #[iv q1, .unset] [(.ref b1), (.ref b1)])) (fun _ k => XS.dup X19.here hx rfl (D d53_59) rfl rfl k) ?_
  refine zbp 62 9 X19 hx (D d53_60) ?_
  refine Go.st (f' := (mkF m 65 #[iv q1, .unset] [(.long (1000000000 : Int64)), (.int 9), (.ref b1), (.ref b1)])) (fun _ k => X19.ldc2Long hx hown (mvT hZ (ww hw 296 rfl)) (g := (mkF m 62 #[iv q1, .unset] [(.int 9), (.ref b1), (.ref b1)])) rfl (D d53_62) _ k) ?_
  obtain ⟨cl20, Ar20, q20, S20, Nx20, H20, G20⟩ := id V_b1_19
  have hin20 : ¬ ((9 : Int32) < 0 ∨ cl20.slots.size ≤ ((9 : Int32)).toNatClampNeg) := inb_of S20 ⟨by decide, by decide⟩
  obtain ⟨T21, h21, X21, e21, W21, st21⟩ := stJ X19 hx hZ e19 Ar20 (j := (9 : Int32)) hin20 (g := (mkF m 65 #[iv q1, .unset] [(.long (1000000000 : Int64)), (.int 9), (.ref b1), (.ref b1)])) rfl rfl (D d53_65)
  have V_b1_21 : Arv Z h21 b1 kc1 .long (10 : Int32) [(.long (1 : Int64)), (.long (10 : Int64)), (.long (100 : Int64)), (.long (1000 : Int64)), (.long (10000 : Int64)), (.long (100000 : Int64)), (.long (1000000 : Int64)), (.long (10000000 : Int64)), (.long (100000000 : Int64)), (.long (1000000000 : Int64))] (.long (0 : Int64)) := Arv.set Ar20 q20 S20 Nx20 H20 G20 rfl W21 9 rfl (Nat.le_of_ble_eq_true rfl)
  have N21 := Fr.snoc X21 N19 g_b1
  have O21 : Old Z n0 h21 := O19.wr W21 g_b1
  have K21 : Keep h0 h21 [] := K19.wr W21 (Or.inr sz_b1)
  refine zst 66 #[iv q1, .unset] [(.ref b1)] st21 ?_
  refine zrn 67 #[iv q1, rv b1] X21 hx (D d53_66) rfl ?_
  refine zan 68 X21 hx (D d53_67) rfl rfl ?_
  refine zin 69 X21 hx (D d53_68) rfl ?_
  obtain ⟨cl22, Ar22, -, S22, -, H22, -⟩ := id V_b1_21
  have hin22 : ¬ (q1 < 0 ∨ cl22.slots.size ≤ (q1).toNatClampNeg) := inb_of S22 ⟨(own_p11 hk hk9).1, (own_p11 hk hk9).2.1⟩
  have hat22 : cl22.slots[(q1).toNatClampNeg]? = some (.long (Int64.ofNat (10 ^ k0))) := H22.at hin22 (own_p11 hk hk9).2.2
  refine Go.st (f' := (mkF m 70 #[iv q1, rv b1] [(.long (Int64.ofNat (10 ^ k0)))])) (fun _ k => X21.laload hx (j := q1) (v := (.long (Int64.ofNat (10 ^ k0)))) (by rw [e21]; exact Ar22.1) (State.isArrayOf_alike hZ.alike Ar22.2.1) Ar22.2.2 hin22 hat22 (g := (mkF m 69 #[iv q1, rv b1] [(.int q1), (.ref b1)])) rfl rfl (D d53_69) _ k) ?_
  refine Go.retV X21 hlk hx (t := .long) hret rfl (Or.inr (Or.inl ⟨rfl, rfl, _, rfl⟩)) (D d53_70) e21 ?_ (by decide) (by decide)
  exact ⟨_, rfl, N21, K21, own_p12 hk9⟩
theorem d52_0 : decode method_7_code 0 = .ok (.iload 4, 2) := by decide +kernel
theorem d52_2 : decode method_7_code 2 = .ok (.iload_n 3, 1) := by decide +kernel
theorem d52_3 : decode method_7_code 3 = .ok (.if_icmp .lt 5, 3) := by decide +kernel
theorem d52_8 : decode method_7_code 8 = .ok (.iload_n 2, 1) := by decide +kernel
theorem d52_9 : decode method_7_code 9 = .ok (.i2l, 1) := by decide +kernel
theorem d52_10 : decode method_7_code 10 = .ok (.iload_n 3, 1) := by decide +kernel
theorem d52_11 : decode method_7_code 11 = .ok (.iconst 1, 1) := by decide +kernel
theorem d52_12 : decode method_7_code 12 = .ok (.isub, 1) := by decide +kernel
theorem d52_13 : decode method_7_code 13 = .ok (.iload 4, 2) := by decide +kernel
theorem d52_15 : decode method_7_code 15 = .ok (.isub, 1) := by decide +kernel
theorem d52_16 : decode method_7_code 16 = .ok (.invokestatic 82, 3) := by decide +kernel
theorem pd__I_J : parseMethodDescriptor "(I)J" = some ⟨[.int], some .long⟩ := by decide +kernel
theorem d52_19 : decode method_7_code 19 = .ok (.ldiv, 1) := by decide +kernel
theorem d52_20 : decode method_7_code 20 = .ok (.ldc2_w 60, 3) := by decide +kernel
theorem d52_23 : decode method_7_code 23 = .ok (.lrem, 1) := by decide +kernel
theorem d52_24 : decode method_7_code 24 = .ok (.l2i, 1) := by decide +kernel
theorem d52_25 : decode method_7_code 25 = .ok (.istore 5, 2) := by decide +kernel
theorem d52_27 : decode method_7_code 27 = .ok (.aload_n 0, 1) := by decide +kernel
theorem d52_28 : decode method_7_code 28 = .ok (.iload_n 1, 1) := by decide +kernel
theorem d52_29 : decode method_7_code 29 = .ok (.iload 4, 2) := by decide +kernel
theorem d52_31 : decode method_7_code 31 = .ok (.iadd, 1) := by decide +kernel
theorem d52_32 : decode method_7_code 32 = .ok (.invokevirtual 51, 3) := by decide +kernel
theorem pd__I_C : parseMethodDescriptor "(I)C" = some ⟨[.int], some .char⟩ := by decide +kernel
theorem d52_35 : decode method_7_code 35 = .ok (.bipush 48, 2) := by decide +kernel
theorem d52_37 : decode method_7_code 37 = .ok (.iload 5, 2) := by decide +kernel
theorem d52_39 : decode method_7_code 39 = .ok (.iadd, 1) := by decide +kernel
theorem d52_40 : decode method_7_code 40 = .ok (.i2c, 1) := by decide +kernel
theorem d52_41 : decode method_7_code 41 = .ok (.if_icmp .ne 7, 3) := by decide +kernel
theorem d52_44 : decode method_7_code 44 = .ok (.iconst 1, 1) := by decide +kernel
theorem d52_45 : decode method_7_code 45 = .ok (.goto 4, 3) := by decide +kernel
theorem d52_49 : decode method_7_code 49 = .ok (.ireturn, 1) := by decide +kernel
theorem d52_6 : decode method_7_code 6 = .ok (.iconst 1, 1) := by decide +kernel
theorem d52_7 : decode method_7_code 7 = .ok (.ireturn, 1) := by decide +kernel
set_option maxRecDepth 65536 in
set_option maxHeartbeats 40000000 in
theorem rmDk (l : Launch) (Z : State) (a0 : Array Value) (hw : ∀ d ∈ tables_1, d.before a0 Z = true) (ws : List Jvm.Cond) (a1 : Addr) (t1 : Addr) (k1 : ClassId) (nt : Int32) (es : List Value) (p1 : Int32) (w1 : Int32) (m0 : Nat) (n : Int32) (q5 : Int32) (wO : Addr) (wT : Addr) (kO : ClassId) (kT : ClassId) (iC : Int32) (vF : Value) (vU : Value) (vS : Value) (h0 : Heap) (n0 : Nat) (O0 : Old Z n0 h0) (G : Dg p1 n nt m0 es) (hv : w1.toInt = (m0 : Int)) (q0 : 0 ≤ q5.toInt) (E_a1 : Exa Z h0 a1 "java/lang/String") (F_a1_coder : Fld Z h0 a1 "java/lang/String" "coder" "B" (.int 0)) (F_a1_value : Fld Z h0 a1 "java/lang/String" "value" "[B" (.ref t1)) (V_t1 : Arv Z h0 t1 k1 .byte nt es (.int 0)) (WW : World1 Z wO wT kO kT iC vF vU vS) :
    Con l Z mq45 method_7_code 6 (some .boolean) ws ({ frames := 4, cells := 1, slots := 10, locals := 53 } : Room) #[(.ref a1), (.int p1), (.int w1), (.int n), (.int q5)] h0 (fun v h L => v = some (.int 1) ∧ Fr n0 L ∧ Keep h0 h []) := by
  refine own_body (plainFor_of_name pn_com_example_hearsay_rules_hearsayrules_InvalidJsonExceptionAtPinLaw) ?_
  intro p e s m below meth c s₁ hx hby hml hZ hown hnm hlk hret X0 e0
  have N0 := Fr.nil n0
  have D := @hb _ _ hby
  have K0 : Keep h0 h0 [] := Keep.refl _ _
  refine Go.st (T' := s₁) (f' := (mkF m 0 #[rv a1, iv p1, iv w1, iv n, iv q5, .unset] [])) (fun _ k => castTop (by first | (simp [entryFrame, mkF, argsToLocals, Value.category]; done) | rfl) k) ?_
  have ⟨S_iC, nz_iC, S_vF, r_vF, S_vU, r_vU, S_vS, r_vS, S_wO, E_wO, S_wT, E_wT, V_wO, V_wT⟩ := WW
  have lt_wO := E_wO.lt
  have lt_wT := E_wT.lt
  have lt_a1 := E_a1.lt
  have lt_t1 := V_t1.lt
  refine zil 2 X0 hx (D d52_0) rfl ?_
  refine zin 3 X0 hx (D d52_2) rfl ?_
  by_cases cd1 : q5 < n
  · refine zcy 8 X0 hx (D d52_3) (tlt cd1).1 ?_
    refine zin 9 X0 hx (D d52_8) rfl ?_
    refine Go.st (f' := (mkF m 10 #[rv a1, iv p1, iv w1, iv n, iv q5, .unset] [(.long (w1.toInt64))])) (fun _ k => XS.i2l X0.here hx rfl (D d52_9) rfl k) ?_
    refine zin 11 X0 hx (D d52_10) rfl ?_
    refine zic 12 1 X0 hx (D d52_11) ?_
    refine zsb 13 X0 hx (D d52_12) ?_
    refine zil 15 X0 hx (D d52_13) rfl ?_
    refine zsb 16 X0 hx (D d52_15) ?_
    refine gS 19 2 1 10 X0 N0 hx hZ (y := mq44) hown hml (ww hw 284 rfl) (ww hw 285 rfl) (ww hw 246 rfl) (rmPw l Z a0 hw [] ((n - (1 : Int32)) - q5) (dgs m0 - 1 - q5.toInt.toNat) h0 n0 O0 (dg_e G q0 cd1).1 (dg_e G q0 cd1).2) (ww hw 286 rfl) e0 [(.int ((n - (1 : Int32)) - q5))] [(.long (w1.toInt64))] (lenOf pd__I_J rfl) (D d52_16) ?_
    rintro T2 L2 M2 _ X2 uu2 ⟨pw2, rfl, Nq2, kq2, ep2⟩
    have N2 := uu2 Nq2
    have O2 : Old Z n0 T2.heap := O0.keep kq2 all0
    have K2 : Keep h0 T2.heap [] := K0.trans kq2 all0
    refine zsk [(.long pw2), (.long (w1.toInt64))] ?_
    refine Go.st (f' := (mkF m 20 #[rv a1, iv p1, iv w1, iv n, iv q5, .unset] [(.long ((w1.toInt64) / pw2))])) (fun _ k => XS.ldiv X2.here hx rfl (D d52_19) rfl (dg_nz ep2) k) ?_
    refine Go.st (f' := (mkF m 23 #[rv a1, iv p1, iv w1, iv n, iv q5, .unset] [(.long (10 : Int64)), (.long ((w1.toInt64) / pw2))])) (fun _ k => X2.ldc2Long hx hown (mvT hZ (ww hw 288 rfl)) (g := (mkF m 20 #[rv a1, iv p1, iv w1, iv n, iv q5, .unset] [(.long ((w1.toInt64) / pw2))])) rfl (D d52_20) _ k) ?_
    refine Go.st (f' := (mkF m 24 #[rv a1, iv p1, iv w1, iv n, iv q5, .unset] [(.long (((w1.toInt64) / pw2) - (((w1.toInt64) / pw2) / (10 : Int64)) * (10 : Int64)))])) (fun _ k => XS.lrem X2.here hx rfl (D d52_23) rfl (by decide) k) ?_
    refine Go.st (f' := (mkF m 25 #[rv a1, iv p1, iv w1, iv n, iv q5, .unset] [(.int ((((w1.toInt64) / pw2) - (((w1.toInt64) / pw2) / (10 : Int64)) * (10 : Int64)).toInt32))])) (fun _ k => XS.l2i X2.here hx rfl (D d52_24) rfl k) ?_
    obtain ⟨yy3, hyy3⟩ : ∃ z, z = ((((w1.toInt64) / pw2) - (((w1.toInt64) / pw2) / (10 : Int64)) * (10 : Int64)).toInt32) := ⟨_, rfl⟩
    rw [← hyy3]
    refine zsl 27 #[rv a1, iv p1, iv w1, iv n, iv q5, iv yy3] X2 hx (D d52_25) ?_
    refine zan 28 X2 hx (D d52_27) rfl rfl ?_
    refine zin 29 X2 hx (D d52_28) rfl ?_
    refine zil 31 X2 hx (D d52_29) rfl ?_
    refine zad 32 X2 hx (D d52_31) ?_
    have ft5 := (E_a1.keep kq2)
    have ft6 := (F_a1_coder.keep kq2 nin0)
    have ft7 := (F_a1_value.keep kq2 nin0)
    have ft8 := (V_t1.keep kq2 nin0)
    refine gV 35 0 1 10 X2 N2 hx hZ (y := mq15) hown hml (ww hw 256 rfl) (ww hw 257 rfl) (ww hw 259 rfl) (ww hw 258 rfl) (ca0 l Z a0 hw [] a1 t1 k1 nt es (p1 + q5) (Int32.ofNat (48 + m0 / 10 ^ (dgs m0 - 1 - q5.toInt.toNat) % 10)) wO wT kO kT iC vF vU vS T2.heap n0 O2 (dg_i G q0 cd1).1 (dg_i G q0 cd1).2.1 (dg_i G q0 cd1).2.2 ft5 ft6 ft7 ft8 WW) (ww hw 260 rfl) (ww hw 3 rfl) rfl ft5 [(.int (p1 + q5))] [] (lenOf pd__I_C rfl) (D d52_32) ?_
    rintro T4 L4 M4 _ X4 uu4 ⟨rfl, Nq4, kq4⟩
    have N4 := uu4 Nq4
    refine zsk [(.int (caL (Int32.ofNat (48 + m0 / 10 ^ (dgs m0 - 1 - q5.toInt.toNat) % 10))))] ?_
    refine zbp 37 48 X4 hx (D d52_35) ?_
    refine zil 39 X4 hx (D d52_37) rfl ?_
    refine zad 40 X4 hx (D d52_39) ?_
    refine Go.st (f' := (mkF m 41 #[rv a1, iv p1, iv w1, iv n, iv q5, iv yy3] [(.int (((48 : Int32) + yy3).toUInt32.toUInt16.toUInt32.toInt32)), (.int (caL (Int32.ofNat (48 + m0 / 10 ^ (dgs m0 - 1 - q5.toInt.toNat) % 10))))])) (fun _ k => XS.i2c X4.here hx rfl (D d52_40) rfl k) ?_
    refine zcn 44 X4 hx (D d52_41) (teq (dg_c G.1 hv (dg_e G q0 cd1).2 ep2 hyy3)).2 ?_
    refine zic 45 1 X4 hx (D d52_44) ?_
    refine zgo 49 X4 hx (D d52_45) ?_
    refine Go.retB X4 hlk hx (t := .boolean) hret (by simp) (D d52_49) kq4 ?_ (by decide) (by decide)
    exact ⟨rfl, N4, K2⟩
  · refine zcn 6 X0 hx (D d52_3) (flt cd1).1 ?_
    refine zic 7 1 X0 hx (D d52_6) ?_
    refine Go.retB X0 hlk hx (t := .boolean) hret (by simp) (D d52_7) e0 ?_ (by decide) (by decide)
    exact ⟨rfl, N0, K0⟩
theorem d51_0 : decode method_8_code 0 = .ok (.aload_n 0, 1) := by decide +kernel
theorem d51_1 : decode method_8_code 1 = .ok (.iload_n 1, 1) := by decide +kernel
theorem d51_2 : decode method_8_code 2 = .ok (.iload_n 2, 1) := by decide +kernel
theorem d51_3 : decode method_8_code 3 = .ok (.iload_n 3, 1) := by decide +kernel
theorem d51_4 : decode method_8_code 4 = .ok (.iconst 0, 1) := by decide +kernel
theorem d51_5 : decode method_8_code 5 = .ok (.invokestatic 86, 3) := by decide +kernel
theorem pd__Ljava_lang_String_IIII_Z : parseMethodDescriptor "(Ljava/lang/String;IIII)Z" = some ⟨[(.object "java/lang/String"), .int, .int, .int, .int], some .boolean⟩ := by decide +kernel
theorem d51_8 : decode method_8_code 8 = .ok (.ifCond .eq 110, 3) := by decide +kernel
theorem d51_11 : decode method_8_code 11 = .ok (.aload_n 0, 1) := by decide +kernel
theorem d51_12 : decode method_8_code 12 = .ok (.iload_n 1, 1) := by decide +kernel
theorem d51_13 : decode method_8_code 13 = .ok (.iload_n 2, 1) := by decide +kernel
theorem d51_14 : decode method_8_code 14 = .ok (.iload_n 3, 1) := by decide +kernel
theorem d51_15 : decode method_8_code 15 = .ok (.iconst 1, 1) := by decide +kernel
theorem d51_16 : decode method_8_code 16 = .ok (.invokestatic 86, 3) := by decide +kernel
theorem d51_19 : decode method_8_code 19 = .ok (.ifCond .eq 99, 3) := by decide +kernel
theorem d51_22 : decode method_8_code 22 = .ok (.aload_n 0, 1) := by decide +kernel
theorem d51_23 : decode method_8_code 23 = .ok (.iload_n 1, 1) := by decide +kernel
theorem d51_24 : decode method_8_code 24 = .ok (.iload_n 2, 1) := by decide +kernel
theorem d51_25 : decode method_8_code 25 = .ok (.iload_n 3, 1) := by decide +kernel
theorem d51_26 : decode method_8_code 26 = .ok (.iconst 2, 1) := by decide +kernel
theorem d51_27 : decode method_8_code 27 = .ok (.invokestatic 86, 3) := by decide +kernel
theorem d51_30 : decode method_8_code 30 = .ok (.ifCond .eq 88, 3) := by decide +kernel
theorem d51_33 : decode method_8_code 33 = .ok (.aload_n 0, 1) := by decide +kernel
theorem d51_34 : decode method_8_code 34 = .ok (.iload_n 1, 1) := by decide +kernel
theorem d51_35 : decode method_8_code 35 = .ok (.iload_n 2, 1) := by decide +kernel
theorem d51_36 : decode method_8_code 36 = .ok (.iload_n 3, 1) := by decide +kernel
theorem d51_37 : decode method_8_code 37 = .ok (.iconst 3, 1) := by decide +kernel
theorem d51_38 : decode method_8_code 38 = .ok (.invokestatic 86, 3) := by decide +kernel
theorem d51_41 : decode method_8_code 41 = .ok (.ifCond .eq 77, 3) := by decide +kernel
theorem d51_44 : decode method_8_code 44 = .ok (.aload_n 0, 1) := by decide +kernel
theorem d51_45 : decode method_8_code 45 = .ok (.iload_n 1, 1) := by decide +kernel
theorem d51_46 : decode method_8_code 46 = .ok (.iload_n 2, 1) := by decide +kernel
theorem d51_47 : decode method_8_code 47 = .ok (.iload_n 3, 1) := by decide +kernel
theorem d51_48 : decode method_8_code 48 = .ok (.iconst 4, 1) := by decide +kernel
theorem d51_49 : decode method_8_code 49 = .ok (.invokestatic 86, 3) := by decide +kernel
theorem d51_52 : decode method_8_code 52 = .ok (.ifCond .eq 66, 3) := by decide +kernel
theorem d51_55 : decode method_8_code 55 = .ok (.aload_n 0, 1) := by decide +kernel
theorem d51_56 : decode method_8_code 56 = .ok (.iload_n 1, 1) := by decide +kernel
theorem d51_57 : decode method_8_code 57 = .ok (.iload_n 2, 1) := by decide +kernel
theorem d51_58 : decode method_8_code 58 = .ok (.iload_n 3, 1) := by decide +kernel
theorem d51_59 : decode method_8_code 59 = .ok (.iconst 5, 1) := by decide +kernel
theorem d51_60 : decode method_8_code 60 = .ok (.invokestatic 86, 3) := by decide +kernel
theorem d51_63 : decode method_8_code 63 = .ok (.ifCond .eq 55, 3) := by decide +kernel
theorem d51_66 : decode method_8_code 66 = .ok (.aload_n 0, 1) := by decide +kernel
theorem d51_67 : decode method_8_code 67 = .ok (.iload_n 1, 1) := by decide +kernel
theorem d51_68 : decode method_8_code 68 = .ok (.iload_n 2, 1) := by decide +kernel
theorem d51_69 : decode method_8_code 69 = .ok (.iload_n 3, 1) := by decide +kernel
theorem d51_70 : decode method_8_code 70 = .ok (.bipush 6, 2) := by decide +kernel
theorem d51_72 : decode method_8_code 72 = .ok (.invokestatic 86, 3) := by decide +kernel
theorem d51_75 : decode method_8_code 75 = .ok (.ifCond .eq 43, 3) := by decide +kernel
theorem d51_78 : decode method_8_code 78 = .ok (.aload_n 0, 1) := by decide +kernel
theorem d51_79 : decode method_8_code 79 = .ok (.iload_n 1, 1) := by decide +kernel
theorem d51_80 : decode method_8_code 80 = .ok (.iload_n 2, 1) := by decide +kernel
theorem d51_81 : decode method_8_code 81 = .ok (.iload_n 3, 1) := by decide +kernel
theorem d51_82 : decode method_8_code 82 = .ok (.bipush 7, 2) := by decide +kernel
theorem d51_84 : decode method_8_code 84 = .ok (.invokestatic 86, 3) := by decide +kernel
theorem d51_87 : decode method_8_code 87 = .ok (.ifCond .eq 31, 3) := by decide +kernel
theorem d51_90 : decode method_8_code 90 = .ok (.aload_n 0, 1) := by decide +kernel
theorem d51_91 : decode method_8_code 91 = .ok (.iload_n 1, 1) := by decide +kernel
theorem d51_92 : decode method_8_code 92 = .ok (.iload_n 2, 1) := by decide +kernel
theorem d51_93 : decode method_8_code 93 = .ok (.iload_n 3, 1) := by decide +kernel
theorem d51_94 : decode method_8_code 94 = .ok (.bipush 8, 2) := by decide +kernel
theorem d51_96 : decode method_8_code 96 = .ok (.invokestatic 86, 3) := by decide +kernel
theorem d51_99 : decode method_8_code 99 = .ok (.ifCond .eq 19, 3) := by decide +kernel
theorem d51_102 : decode method_8_code 102 = .ok (.aload_n 0, 1) := by decide +kernel
theorem d51_103 : decode method_8_code 103 = .ok (.iload_n 1, 1) := by decide +kernel
theorem d51_104 : decode method_8_code 104 = .ok (.iload_n 2, 1) := by decide +kernel
theorem d51_105 : decode method_8_code 105 = .ok (.iload_n 3, 1) := by decide +kernel
theorem d51_106 : decode method_8_code 106 = .ok (.bipush 9, 2) := by decide +kernel
theorem d51_108 : decode method_8_code 108 = .ok (.invokestatic 86, 3) := by decide +kernel
theorem d51_111 : decode method_8_code 111 = .ok (.ifCond .eq 7, 3) := by decide +kernel
theorem d51_114 : decode method_8_code 114 = .ok (.iconst 1, 1) := by decide +kernel
theorem d51_115 : decode method_8_code 115 = .ok (.goto 4, 3) := by decide +kernel
theorem d51_119 : decode method_8_code 119 = .ok (.ireturn, 1) := by decide +kernel
set_option maxRecDepth 65536 in
set_option maxHeartbeats 40000000 in
theorem rmNm (l : Launch) (Z : State) (a0 : Array Value) (hw : ∀ d ∈ tables_1, d.before a0 Z = true) (ws : List Jvm.Cond) (a1 : Addr) (t1 : Addr) (k1 : ClassId) (nt : Int32) (es : List Value) (p1 : Int32) (w1 : Int32) (m0 : Nat) (n : Int32) (wO : Addr) (wT : Addr) (kO : ClassId) (kT : ClassId) (iC : Int32) (vF : Value) (vU : Value) (vS : Value) (h0 : Heap) (n0 : Nat) (O0 : Old Z n0 h0) (G : Dg p1 n nt m0 es) (hv : w1.toInt = (m0 : Int)) (E_a1 : Exa Z h0 a1 "java/lang/String") (F_a1_coder : Fld Z h0 a1 "java/lang/String" "coder" "B" (.int 0)) (F_a1_value : Fld Z h0 a1 "java/lang/String" "value" "[B" (.ref t1)) (V_t1 : Arv Z h0 t1 k1 .byte nt es (.int 0)) (WW : World1 Z wO wT kO kT iC vF vU vS) :
    Con l Z mq46 method_8_code 4 (some .boolean) ws ({ frames := 5, cells := 10, slots := 100, locals := 70 } : Room) #[(.ref a1), (.int p1), (.int w1), (.int n)] h0 (fun v h L => v = some (.int 1) ∧ Fr n0 L ∧ Keep h0 h []) := by
  refine own_body (plainFor_of_name pn_com_example_hearsay_rules_hearsayrules_InvalidJsonExceptionAtPinLaw) ?_
  intro p e s m below meth c s₁ hx hby hml hZ hown hnm hlk hret X0 e0
  have N0 := Fr.nil n0
  have D := @hb _ _ hby
  have K0 : Keep h0 h0 [] := Keep.refl _ _
  refine Go.st (T' := s₁) (f' := (mkF m 0 #[rv a1, iv p1, iv w1, iv n] [])) (fun _ k => castTop (by first | (simp [entryFrame, mkF, argsToLocals, Value.category]; done) | rfl) k) ?_
  have ⟨S_iC, nz_iC, S_vF, r_vF, S_vU, r_vU, S_vS, r_vS, S_wO, E_wO, S_wT, E_wT, V_wO, V_wT⟩ := WW
  have lt_wO := E_wO.lt
  have lt_wT := E_wT.lt
  have lt_a1 := E_a1.lt
  have lt_t1 := V_t1.lt
  refine zan 1 X0 hx (D d51_0) rfl rfl ?_
  refine zin 2 X0 hx (D d51_1) rfl ?_
  refine zin 3 X0 hx (D d51_2) rfl ?_
  refine zin 4 X0 hx (D d51_3) rfl ?_
  refine zic 5 0 X0 hx (D d51_4) ?_
  refine gS 8 0 1 10 X0 N0 hx hZ (y := mq45) hown hml (ww hw 281 rfl) (ww hw 282 rfl) (ww hw 246 rfl) (rmDk l Z a0 hw [] a1 t1 k1 nt es p1 w1 m0 n (0 : Int32) wO wT kO kT iC vF vU vS h0 n0 O0 G hv (by decide) E_a1 F_a1_coder F_a1_value V_t1 WW) (ww hw 283 rfl) e0 [(.ref a1), (.int p1), (.int w1), (.int n), (.int 0)] [] (lenOf pd__Ljava_lang_String_IIII_Z rfl) (D d51_5) ?_
  rintro T1 L1 M1 _ X1 uu1 ⟨rfl, Nq1, kq1⟩
  have N1 := uu1 Nq1
  have O1 : Old Z n0 T1.heap := O0.keep kq1 all0
  have K1 : Keep h0 T1.heap [] := K0.trans kq1 all0
  refine zsk [(.int 1)] ?_
  refine zfn 11 X1 hx (D d51_8) (by decide) ?_
  refine zan 12 X1 hx (D d51_11) rfl rfl ?_
  refine zin 13 X1 hx (D d51_12) rfl ?_
  refine zin 14 X1 hx (D d51_13) rfl ?_
  refine zin 15 X1 hx (D d51_14) rfl ?_
  refine zic 16 1 X1 hx (D d51_15) ?_
  have ft3 := (E_a1.keep kq1)
  have ft4 := (F_a1_coder.keep kq1 nin0)
  have ft5 := (F_a1_value.keep kq1 nin0)
  have ft6 := (V_t1.keep kq1 nin0)
  refine gS 19 0 2 20 X1 N1 hx hZ (y := mq45) hown hml (ww hw 281 rfl) (ww hw 282 rfl) (ww hw 246 rfl) (rmDk l Z a0 hw [] a1 t1 k1 nt es p1 w1 m0 n (1 : Int32) wO wT kO kT iC vF vU vS T1.heap n0 O1 G hv (by decide) ft3 ft4 ft5 ft6 WW) (ww hw 283 rfl) rfl [(.ref a1), (.int p1), (.int w1), (.int n), (.int 1)] [] (lenOf pd__Ljava_lang_String_IIII_Z rfl) (D d51_16) ?_
  rintro T2 L2 M2 _ X2 uu2 ⟨rfl, Nq2, kq2⟩
  have N2 := uu2 Nq2
  have O2 : Old Z n0 T2.heap := O1.keep kq2 all0
  have K2 : Keep h0 T2.heap [] := K1.trans kq2 all0
  refine zsk [(.int 1)] ?_
  refine zfn 22 X2 hx (D d51_19) (by decide) ?_
  refine zan 23 X2 hx (D d51_22) rfl rfl ?_
  refine zin 24 X2 hx (D d51_23) rfl ?_
  refine zin 25 X2 hx (D d51_24) rfl ?_
  refine zin 26 X2 hx (D d51_25) rfl ?_
  refine zic 27 2 X2 hx (D d51_26) ?_
  have ft8 := (ft3.keep kq2)
  have ft9 := (ft4.keep kq2 nin0)
  have ft10 := (ft5.keep kq2 nin0)
  have ft11 := (ft6.keep kq2 nin0)
  refine gS 30 0 3 30 X2 N2 hx hZ (y := mq45) hown hml (ww hw 281 rfl) (ww hw 282 rfl) (ww hw 246 rfl) (rmDk l Z a0 hw [] a1 t1 k1 nt es p1 w1 m0 n (2 : Int32) wO wT kO kT iC vF vU vS T2.heap n0 O2 G hv (by decide) ft8 ft9 ft10 ft11 WW) (ww hw 283 rfl) rfl [(.ref a1), (.int p1), (.int w1), (.int n), (.int 2)] [] (lenOf pd__Ljava_lang_String_IIII_Z rfl) (D d51_27) ?_
  rintro T7 L7 M7 _ X7 uu7 ⟨rfl, Nq7, kq7⟩
  have N7 := uu7 Nq7
  have O7 : Old Z n0 T7.heap := O2.keep kq7 all0
  have K7 : Keep h0 T7.heap [] := K2.trans kq7 all0
  refine zsk [(.int 1)] ?_
  refine zfn 33 X7 hx (D d51_30) (by decide) ?_
  refine zan 34 X7 hx (D d51_33) rfl rfl ?_
  refine zin 35 X7 hx (D d51_34) rfl ?_
  refine zin 36 X7 hx (D d51_35) rfl ?_
  refine zin 37 X7 hx (D d51_36) rfl ?_
  refine zic 38 3 X7 hx (D d51_37) ?_
  have ft13 := (ft8.keep kq7)
  have ft14 := (ft9.keep kq7 nin0)
  have ft15 := (ft10.keep kq7 nin0)
  have ft16 := (ft11.keep kq7 nin0)
  refine gS 41 0 4 40 X7 N7 hx hZ (y := mq45) hown hml (ww hw 281 rfl) (ww hw 282 rfl) (ww hw 246 rfl) (rmDk l Z a0 hw [] a1 t1 k1 nt es p1 w1 m0 n (3 : Int32) wO wT kO kT iC vF vU vS T7.heap n0 O7 G hv (by decide) ft13 ft14 ft15 ft16 WW) (ww hw 283 rfl) rfl [(.ref a1), (.int p1), (.int w1), (.int n), (.int 3)] [] (lenOf pd__Ljava_lang_String_IIII_Z rfl) (D d51_38) ?_
  rintro T12 L12 M12 _ X12 uu12 ⟨rfl, Nq12, kq12⟩
  have N12 := uu12 Nq12
  have O12 : Old Z n0 T12.heap := O7.keep kq12 all0
  have K12 : Keep h0 T12.heap [] := K7.trans kq12 all0
  refine zsk [(.int 1)] ?_
  refine zfn 44 X12 hx (D d51_41) (by decide) ?_
  refine zan 45 X12 hx (D d51_44) rfl rfl ?_
  refine zin 46 X12 hx (D d51_45) rfl ?_
  refine zin 47 X12 hx (D d51_46) rfl ?_
  refine zin 48 X12 hx (D d51_47) rfl ?_
  refine zic 49 4 X12 hx (D d51_48) ?_
  have ft18 := (ft13.keep kq12)
  have ft19 := (ft14.keep kq12 nin0)
  have ft20 := (ft15.keep kq12 nin0)
  have ft21 := (ft16.keep kq12 nin0)
  refine gS 52 0 5 50 X12 N12 hx hZ (y := mq45) hown hml (ww hw 281 rfl) (ww hw 282 rfl) (ww hw 246 rfl) (rmDk l Z a0 hw [] a1 t1 k1 nt es p1 w1 m0 n (4 : Int32) wO wT kO kT iC vF vU vS T12.heap n0 O12 G hv (by decide) ft18 ft19 ft20 ft21 WW) (ww hw 283 rfl) rfl [(.ref a1), (.int p1), (.int w1), (.int n), (.int 4)] [] (lenOf pd__Ljava_lang_String_IIII_Z rfl) (D d51_49) ?_
  rintro T17 L17 M17 _ X17 uu17 ⟨rfl, Nq17, kq17⟩
  have N17 := uu17 Nq17
  have O17 : Old Z n0 T17.heap := O12.keep kq17 all0
  have K17 : Keep h0 T17.heap [] := K12.trans kq17 all0
  refine zsk [(.int 1)] ?_
  refine zfn 55 X17 hx (D d51_52) (by decide) ?_
  refine zan 56 X17 hx (D d51_55) rfl rfl ?_
  refine zin 57 X17 hx (D d51_56) rfl ?_
  refine zin 58 X17 hx (D d51_57) rfl ?_
  refine zin 59 X17 hx (D d51_58) rfl ?_
  refine zic 60 5 X17 hx (D d51_59) ?_
  have ft23 := (ft18.keep kq17)
  have ft24 := (ft19.keep kq17 nin0)
  have ft25 := (ft20.keep kq17 nin0)
  have ft26 := (ft21.keep kq17 nin0)
  refine gS 63 0 6 60 X17 N17 hx hZ (y := mq45) hown hml (ww hw 281 rfl) (ww hw 282 rfl) (ww hw 246 rfl) (rmDk l Z a0 hw [] a1 t1 k1 nt es p1 w1 m0 n (5 : Int32) wO wT kO kT iC vF vU vS T17.heap n0 O17 G hv (by decide) ft23 ft24 ft25 ft26 WW) (ww hw 283 rfl) rfl [(.ref a1), (.int p1), (.int w1), (.int n), (.int 5)] [] (lenOf pd__Ljava_lang_String_IIII_Z rfl) (D d51_60) ?_
  rintro T22 L22 M22 _ X22 uu22 ⟨rfl, Nq22, kq22⟩
  have N22 := uu22 Nq22
  have O22 : Old Z n0 T22.heap := O17.keep kq22 all0
  have K22 : Keep h0 T22.heap [] := K17.trans kq22 all0
  refine zsk [(.int 1)] ?_
  refine zfn 66 X22 hx (D d51_63) (by decide) ?_
  refine zan 67 X22 hx (D d51_66) rfl rfl ?_
  refine zin 68 X22 hx (D d51_67) rfl ?_
  refine zin 69 X22 hx (D d51_68) rfl ?_
  refine zin 70 X22 hx (D d51_69) rfl ?_
  refine zbp 72 6 X22 hx (D d51_70) ?_
  have ft28 := (ft23.keep kq22)
  have ft29 := (ft24.keep kq22 nin0)
  have ft30 := (ft25.keep kq22 nin0)
  have ft31 := (ft26.keep kq22 nin0)
  refine gS 75 0 7 70 X22 N22 hx hZ (y := mq45) hown hml (ww hw 281 rfl) (ww hw 282 rfl) (ww hw 246 rfl) (rmDk l Z a0 hw [] a1 t1 k1 nt es p1 w1 m0 n (6 : Int32) wO wT kO kT iC vF vU vS T22.heap n0 O22 G hv (by decide) ft28 ft29 ft30 ft31 WW) (ww hw 283 rfl) rfl [(.ref a1), (.int p1), (.int w1), (.int n), (.int 6)] [] (lenOf pd__Ljava_lang_String_IIII_Z rfl) (D d51_72) ?_
  rintro T27 L27 M27 _ X27 uu27 ⟨rfl, Nq27, kq27⟩
  have N27 := uu27 Nq27
  have O27 : Old Z n0 T27.heap := O22.keep kq27 all0
  have K27 : Keep h0 T27.heap [] := K22.trans kq27 all0
  refine zsk [(.int 1)] ?_
  refine zfn 78 X27 hx (D d51_75) (by decide) ?_
  refine zan 79 X27 hx (D d51_78) rfl rfl ?_
  refine zin 80 X27 hx (D d51_79) rfl ?_
  refine zin 81 X27 hx (D d51_80) rfl ?_
  refine zin 82 X27 hx (D d51_81) rfl ?_
  refine zbp 84 7 X27 hx (D d51_82) ?_
  have ft33 := (ft28.keep kq27)
  have ft34 := (ft29.keep kq27 nin0)
  have ft35 := (ft30.keep kq27 nin0)
  have ft36 := (ft31.keep kq27 nin0)
  refine gS 87 0 8 80 X27 N27 hx hZ (y := mq45) hown hml (ww hw 281 rfl) (ww hw 282 rfl) (ww hw 246 rfl) (rmDk l Z a0 hw [] a1 t1 k1 nt es p1 w1 m0 n (7 : Int32) wO wT kO kT iC vF vU vS T27.heap n0 O27 G hv (by decide) ft33 ft34 ft35 ft36 WW) (ww hw 283 rfl) rfl [(.ref a1), (.int p1), (.int w1), (.int n), (.int 7)] [] (lenOf pd__Ljava_lang_String_IIII_Z rfl) (D d51_84) ?_
  rintro T32 L32 M32 _ X32 uu32 ⟨rfl, Nq32, kq32⟩
  have N32 := uu32 Nq32
  have O32 : Old Z n0 T32.heap := O27.keep kq32 all0
  have K32 : Keep h0 T32.heap [] := K27.trans kq32 all0
  refine zsk [(.int 1)] ?_
  refine zfn 90 X32 hx (D d51_87) (by decide) ?_
  refine zan 91 X32 hx (D d51_90) rfl rfl ?_
  refine zin 92 X32 hx (D d51_91) rfl ?_
  refine zin 93 X32 hx (D d51_92) rfl ?_
  refine zin 94 X32 hx (D d51_93) rfl ?_
  refine zbp 96 8 X32 hx (D d51_94) ?_
  have ft38 := (ft33.keep kq32)
  have ft39 := (ft34.keep kq32 nin0)
  have ft40 := (ft35.keep kq32 nin0)
  have ft41 := (ft36.keep kq32 nin0)
  refine gS 99 0 9 90 X32 N32 hx hZ (y := mq45) hown hml (ww hw 281 rfl) (ww hw 282 rfl) (ww hw 246 rfl) (rmDk l Z a0 hw [] a1 t1 k1 nt es p1 w1 m0 n (8 : Int32) wO wT kO kT iC vF vU vS T32.heap n0 O32 G hv (by decide) ft38 ft39 ft40 ft41 WW) (ww hw 283 rfl) rfl [(.ref a1), (.int p1), (.int w1), (.int n), (.int 8)] [] (lenOf pd__Ljava_lang_String_IIII_Z rfl) (D d51_96) ?_
  rintro T37 L37 M37 _ X37 uu37 ⟨rfl, Nq37, kq37⟩
  have N37 := uu37 Nq37
  have O37 : Old Z n0 T37.heap := O32.keep kq37 all0
  have K37 : Keep h0 T37.heap [] := K32.trans kq37 all0
  refine zsk [(.int 1)] ?_
  refine zfn 102 X37 hx (D d51_99) (by decide) ?_
  refine zan 103 X37 hx (D d51_102) rfl rfl ?_
  refine zin 104 X37 hx (D d51_103) rfl ?_
  refine zin 105 X37 hx (D d51_104) rfl ?_
  refine zin 106 X37 hx (D d51_105) rfl ?_
  refine zbp 108 9 X37 hx (D d51_106) ?_
  have ft43 := (ft38.keep kq37)
  have ft44 := (ft39.keep kq37 nin0)
  have ft45 := (ft40.keep kq37 nin0)
  have ft46 := (ft41.keep kq37 nin0)
  refine gS 111 0 10 100 X37 N37 hx hZ (y := mq45) hown hml (ww hw 281 rfl) (ww hw 282 rfl) (ww hw 246 rfl) (rmDk l Z a0 hw [] a1 t1 k1 nt es p1 w1 m0 n (9 : Int32) wO wT kO kT iC vF vU vS T37.heap n0 O37 G hv (by decide) ft43 ft44 ft45 ft46 WW) (ww hw 283 rfl) rfl [(.ref a1), (.int p1), (.int w1), (.int n), (.int 9)] [] (lenOf pd__Ljava_lang_String_IIII_Z rfl) (D d51_108) ?_
  rintro T42 L42 M42 _ X42 uu42 ⟨rfl, Nq42, kq42⟩
  have N42 := uu42 Nq42
  have O42 : Old Z n0 T42.heap := O37.keep kq42 all0
  have K42 : Keep h0 T42.heap [] := K37.trans kq42 all0
  refine zsk [(.int 1)] ?_
  refine zfn 114 X42 hx (D d51_111) (by decide) ?_
  refine zic 115 1 X42 hx (D d51_114) ?_
  refine zgo 119 X42 hx (D d51_115) ?_
  refine Go.retB X42 hlk hx (t := .boolean) hret (by simp) (D d51_119) rfl ?_ (by decide) (by decide)
  exact ⟨rfl, N42, K42⟩
/-- the signs fs stand from p on -/
def Lq (p nt : Int32) (es : List Value) (n2 : Int32) (fs : List Value) : Prop := 0 ≤ p.toInt ∧ p.toInt + n2.toInt ≤ nt.toInt ∧ nt.toInt ≤ 200 ∧ 0 ≤ n2.toInt ∧ ∀ j : Nat, (j : Int) < n2.toInt → ∃ x : Int32, es.getD (p.toNatClampNeg + j) (.int (0 : Int32)) = .int x ∧ fs.getD j (.int (0 : Int32)) = .int x
theorem lq_i {p nt n2 k : Int32} {es fs : List Value} (G : Lq p nt es n2 fs) (k0 : 0 ≤ k.toInt) (h : k < n2) : ∃ x : Int32, ¬ (p + k) < (0 : Int32) ∧ (p + k) < nt ∧ es.getD (p + k).toNatClampNeg (.int (0 : Int32)) = .int x ∧ ¬ k < (0 : Int32) ∧ fs.getD k.toNatClampNeg (.int (0 : Int32)) = .int x := by
  obtain ⟨g1, g2, g3, g4, g5⟩ := G
  rw [Int32.lt_iff_toInt_lt] at h
  have a := c_iadd p k
  have r := rng32 (p + k)
  have e0 : (0 : Int32).toInt = 0 := by decide
  obtain ⟨x, q1, q2⟩ := g5 k.toInt.toNat (by omega)
  have i : p.toNatClampNeg + k.toInt.toNat = (p + k).toNatClampNeg := by simp only [Int32.toNatClampNeg]; omega
  rw [i] at q1
  refine ⟨x, ?_, ?_, q1, ?_, q2⟩ <;> (rw [Int32.lt_iff_toInt_lt]; omega)
theorem d45_0 : decode method_5_code 0 = .ok (.iload_n 3, 1) := by decide +kernel
theorem d45_1 : decode method_5_code 1 = .ok (.aload_n 2, 1) := by decide +kernel
theorem d45_2 : decode method_5_code 2 = .ok (.invokevirtual 33, 3) := by decide +kernel
theorem d45_5 : decode method_5_code 5 = .ok (.if_icmp .ge 18, 3) := by decide +kernel
theorem d45_8 : decode method_5_code 8 = .ok (.aload_n 0, 1) := by decide +kernel
theorem d45_9 : decode method_5_code 9 = .ok (.iload_n 1, 1) := by decide +kernel
theorem d45_10 : decode method_5_code 10 = .ok (.iload_n 3, 1) := by decide +kernel
theorem d45_11 : decode method_5_code 11 = .ok (.iadd, 1) := by decide +kernel
theorem d45_12 : decode method_5_code 12 = .ok (.invokevirtual 51, 3) := by decide +kernel
theorem d45_15 : decode method_5_code 15 = .ok (.aload_n 2, 1) := by decide +kernel
theorem d45_16 : decode method_5_code 16 = .ok (.iload_n 3, 1) := by decide +kernel
theorem d45_17 : decode method_5_code 17 = .ok (.invokevirtual 51, 3) := by decide +kernel
theorem d45_20 : decode method_5_code 20 = .ok (.if_icmp .ne 7, 3) := by decide +kernel
theorem d45_23 : decode method_5_code 23 = .ok (.iconst 1, 1) := by decide +kernel
theorem d45_24 : decode method_5_code 24 = .ok (.goto 4, 3) := by decide +kernel
theorem d45_28 : decode method_5_code 28 = .ok (.ireturn, 1) := by decide +kernel
set_option maxRecDepth 65536 in
set_option maxHeartbeats 40000000 in
theorem rmCh (l : Launch) (Z : State) (a0 : Array Value) (hw : ∀ d ∈ tables_1, d.before a0 Z = true) (ws : List Jvm.Cond) (a1 : Addr) (t1 : Addr) (k1 : ClassId) (nt : Int32) (es : List Value) (p1 : Int32) (a2 : Addr) (t2 : Addr) (k2 : ClassId) (n2 : Int32) (fs : List Value) (k4 : Int32) (wO : Addr) (wT : Addr) (kO : ClassId) (kT : ClassId) (iC : Int32) (vF : Value) (vU : Value) (vS : Value) (h0 : Heap) (n0 : Nat) (O0 : Old Z n0 h0) (G : Lq p1 nt es n2 fs) (k0 : 0 ≤ k4.toInt) (E_a1 : Exa Z h0 a1 "java/lang/String") (F_a1_coder : Fld Z h0 a1 "java/lang/String" "coder" "B" (.int 0)) (F_a1_value : Fld Z h0 a1 "java/lang/String" "value" "[B" (.ref t1)) (V_t1 : Arv Z h0 t1 k1 .byte nt es (.int 0)) (E_a2 : Exa Z h0 a2 "java/lang/String") (F_a2_coder : Fld Z h0 a2 "java/lang/String" "coder" "B" (.int 0)) (F_a2_value : Fld Z h0 a2 "java/lang/String" "value" "[B" (.ref t2)) (V_t2 : Arv Z h0 t2 k2 .byte n2 fs (.int 0)) (WW : World1 Z wO wT kO kT iC vF vU vS) :
    Con l Z mq47 method_5_code 4 (some .boolean) ws ({ frames := 4, cells := 0, slots := 0, locals := 54 } : Room) #[(.ref a1), (.int p1), (.ref a2), (.int k4)] h0 (fun v h L => v = some (.int 1) ∧ Fr n0 L ∧ h = h0) := by
  refine own_body (plainFor_of_name pn_com_example_hearsay_rules_hearsayrules_InvalidJsonExceptionAtPinLaw) ?_
  intro p e s m below meth c s₁ hx hby hml hZ hown hnm hlk hret X0 e0
  have N0 := Fr.nil n0
  have D := @hb _ _ hby
  refine Go.st (T' := s₁) (f' := (mkF m 0 #[rv a1, iv p1, rv a2, iv k4] [])) (fun _ k => castTop (by first | (simp [entryFrame, mkF, argsToLocals, Value.category]; done) | rfl) k) ?_
  have ⟨S_iC, nz_iC, S_vF, r_vF, S_vU, r_vU, S_vS, r_vS, S_wO, E_wO, S_wT, E_wT, V_wO, V_wT⟩ := WW
  have lt_wO := E_wO.lt
  have lt_wT := E_wT.lt
  have lt_a1 := E_a1.lt
  have lt_t1 := V_t1.lt
  have lt_a2 := E_a2.lt
  have lt_t2 := V_t2.lt
  refine zin 1 X0 hx (D d45_0) rfl ?_
  refine zan 2 X0 hx (D d45_1) rfl rfl ?_
  refine gV 5 1 0 0 X0 N0 hx hZ (y := mq11) hown hml (ww hw 248 rfl) (ww hw 69 rfl) (ww hw 71 rfl) (ww hw 70 rfl) (slen l Z a0 hw [] a2 t2 k2 n2 fs wO wT kO kT iC vF vU vS h0 n0 O0 E_a2 F_a2_coder F_a2_value V_t2 WW) (ww hw 72 rfl) (ww hw 3 rfl) e0 E_a2 [] [(.int k4)] (lenOf pd___I rfl) (D d45_2) ?_
  rintro T1 L1 M1 _ X1 uu1 ⟨rfl, Nq1, kq1⟩
  have N1 := uu1 Nq1
  refine zsk [(.int n2), (.int k4)] ?_
  by_cases cd2 : k4 < n2
  · refine zcn 8 X1 hx (D d45_5) (tlt cd2).2.1 ?_
    obtain ⟨x, i1, i2, i3, i4, i5⟩ := lq_i G k0 cd2
    refine zan 9 X1 hx (D d45_8) rfl rfl ?_
    refine zin 10 X1 hx (D d45_9) rfl ?_
    refine zin 11 X1 hx (D d45_10) rfl ?_
    refine zad 12 X1 hx (D d45_11) ?_
    refine gV 15 0 0 0 X1 N1 hx hZ (y := mq15) hown hml (ww hw 256 rfl) (ww hw 257 rfl) (ww hw 259 rfl) (ww hw 258 rfl) (ca0 l Z a0 hw [] a1 t1 k1 nt es (p1 + k4) x wO wT kO kT iC vF vU vS h0 n0 O0 i1 i2 i3 E_a1 F_a1_coder F_a1_value V_t1 WW) (ww hw 260 rfl) (ww hw 3 rfl) kq1 E_a1 [(.int (p1 + k4))] [] (lenOf pd__I_C rfl) (D d45_12) ?_
    rintro T3 L3 M3 _ X3 uu3 ⟨rfl, Nq3, kq3⟩
    have N3 := uu3 Nq3
    refine zsk [(.int (caL x))] ?_
    refine zan 16 X3 hx (D d45_15) rfl rfl ?_
    refine zin 17 X3 hx (D d45_16) rfl ?_
    refine gV 20 1 0 0 X3 N3 hx hZ (y := mq15) hown hml (ww hw 256 rfl) (ww hw 257 rfl) (ww hw 259 rfl) (ww hw 258 rfl) (ca0 l Z a0 hw [] a2 t2 k2 n2 fs k4 x wO wT kO kT iC vF vU vS h0 n0 O0 i4 cd2 i5 E_a2 F_a2_coder F_a2_value V_t2 WW) (ww hw 260 rfl) (ww hw 3 rfl) kq3 E_a2 [(.int k4)] [(.int (caL x))] (lenOf pd__I_C rfl) (D d45_17) ?_
    rintro T4 L4 M4 _ X4 uu4 ⟨rfl, Nq4, kq4⟩
    have N4 := uu4 Nq4
    refine zsk [(.int (caL x)), (.int (caL x))] ?_
    refine zcn 23 X4 hx (D d45_20) (teq (rfl : (caL x) = (caL x))).2 ?_
    refine zic 24 1 X4 hx (D d45_23) ?_
    refine zgo 28 X4 hx (D d45_24) ?_
    refine Go.retB X4 hlk hx (t := .boolean) hret (by simp) (D d45_28) kq4 ?_ (by decide) (by decide)
    exact ⟨rfl, N4, rfl⟩
  · refine zcy 23 X1 hx (D d45_5) (flt cd2).2.1 ?_
    refine zic 24 1 X1 hx (D d45_23) ?_
    refine zgo 28 X1 hx (D d45_24) ?_
    refine Go.retB X1 hlk hx (t := .boolean) hret (by simp) (D d45_28) kq1 ?_ (by decide) (by decide)
    exact ⟨rfl, N1, rfl⟩
theorem d44_0 : decode method_6_code 0 = .ok (.aload_n 0, 1) := by decide +kernel
theorem d44_1 : decode method_6_code 1 = .ok (.iload_n 1, 1) := by decide +kernel
theorem d44_2 : decode method_6_code 2 = .ok (.aload_n 2, 1) := by decide +kernel
theorem d44_3 : decode method_6_code 3 = .ok (.iconst 0, 1) := by decide +kernel
theorem d44_4 : decode method_6_code 4 = .ok (.invokestatic 78, 3) := by decide +kernel
theorem pd__Ljava_lang_String_ILjava_lang_String_I_Z : parseMethodDescriptor "(Ljava/lang/String;ILjava/lang/String;I)Z" = some ⟨[(.object "java/lang/String"), .int, (.object "java/lang/String"), .int], some .boolean⟩ := by decide +kernel
theorem d44_7 : decode method_6_code 7 = .ok (.ifCond .eq 90, 3) := by decide +kernel
theorem d44_10 : decode method_6_code 10 = .ok (.aload_n 0, 1) := by decide +kernel
theorem d44_11 : decode method_6_code 11 = .ok (.iload_n 1, 1) := by decide +kernel
theorem d44_12 : decode method_6_code 12 = .ok (.aload_n 2, 1) := by decide +kernel
theorem d44_13 : decode method_6_code 13 = .ok (.iconst 1, 1) := by decide +kernel
theorem d44_14 : decode method_6_code 14 = .ok (.invokestatic 78, 3) := by decide +kernel
theorem d44_17 : decode method_6_code 17 = .ok (.ifCond .eq 80, 3) := by decide +kernel
theorem d44_20 : decode method_6_code 20 = .ok (.aload_n 0, 1) := by decide +kernel
theorem d44_21 : decode method_6_code 21 = .ok (.iload_n 1, 1) := by decide +kernel
theorem d44_22 : decode method_6_code 22 = .ok (.aload_n 2, 1) := by decide +kernel
theorem d44_23 : decode method_6_code 23 = .ok (.iconst 2, 1) := by decide +kernel
theorem d44_24 : decode method_6_code 24 = .ok (.invokestatic 78, 3) := by decide +kernel
theorem d44_27 : decode method_6_code 27 = .ok (.ifCond .eq 70, 3) := by decide +kernel
theorem d44_30 : decode method_6_code 30 = .ok (.aload_n 0, 1) := by decide +kernel
theorem d44_31 : decode method_6_code 31 = .ok (.iload_n 1, 1) := by decide +kernel
theorem d44_32 : decode method_6_code 32 = .ok (.aload_n 2, 1) := by decide +kernel
theorem d44_33 : decode method_6_code 33 = .ok (.iconst 3, 1) := by decide +kernel
theorem d44_34 : decode method_6_code 34 = .ok (.invokestatic 78, 3) := by decide +kernel
theorem d44_37 : decode method_6_code 37 = .ok (.ifCond .eq 60, 3) := by decide +kernel
theorem d44_40 : decode method_6_code 40 = .ok (.aload_n 0, 1) := by decide +kernel
theorem d44_41 : decode method_6_code 41 = .ok (.iload_n 1, 1) := by decide +kernel
theorem d44_42 : decode method_6_code 42 = .ok (.aload_n 2, 1) := by decide +kernel
theorem d44_43 : decode method_6_code 43 = .ok (.iconst 4, 1) := by decide +kernel
theorem d44_44 : decode method_6_code 44 = .ok (.invokestatic 78, 3) := by decide +kernel
theorem d44_47 : decode method_6_code 47 = .ok (.ifCond .eq 50, 3) := by decide +kernel
theorem d44_50 : decode method_6_code 50 = .ok (.aload_n 0, 1) := by decide +kernel
theorem d44_51 : decode method_6_code 51 = .ok (.iload_n 1, 1) := by decide +kernel
theorem d44_52 : decode method_6_code 52 = .ok (.aload_n 2, 1) := by decide +kernel
theorem d44_53 : decode method_6_code 53 = .ok (.iconst 5, 1) := by decide +kernel
theorem d44_54 : decode method_6_code 54 = .ok (.invokestatic 78, 3) := by decide +kernel
theorem d44_57 : decode method_6_code 57 = .ok (.ifCond .eq 40, 3) := by decide +kernel
theorem d44_60 : decode method_6_code 60 = .ok (.aload_n 0, 1) := by decide +kernel
theorem d44_61 : decode method_6_code 61 = .ok (.iload_n 1, 1) := by decide +kernel
theorem d44_62 : decode method_6_code 62 = .ok (.aload_n 2, 1) := by decide +kernel
theorem d44_63 : decode method_6_code 63 = .ok (.bipush 6, 2) := by decide +kernel
theorem d44_65 : decode method_6_code 65 = .ok (.invokestatic 78, 3) := by decide +kernel
theorem d44_68 : decode method_6_code 68 = .ok (.ifCond .eq 29, 3) := by decide +kernel
theorem d44_71 : decode method_6_code 71 = .ok (.aload_n 0, 1) := by decide +kernel
theorem d44_72 : decode method_6_code 72 = .ok (.iload_n 1, 1) := by decide +kernel
theorem d44_73 : decode method_6_code 73 = .ok (.aload_n 2, 1) := by decide +kernel
theorem d44_74 : decode method_6_code 74 = .ok (.bipush 7, 2) := by decide +kernel
theorem d44_76 : decode method_6_code 76 = .ok (.invokestatic 78, 3) := by decide +kernel
theorem d44_79 : decode method_6_code 79 = .ok (.ifCond .eq 18, 3) := by decide +kernel
theorem d44_82 : decode method_6_code 82 = .ok (.aload_n 0, 1) := by decide +kernel
theorem d44_83 : decode method_6_code 83 = .ok (.iload_n 1, 1) := by decide +kernel
theorem d44_84 : decode method_6_code 84 = .ok (.aload_n 2, 1) := by decide +kernel
theorem d44_85 : decode method_6_code 85 = .ok (.bipush 8, 2) := by decide +kernel
theorem d44_87 : decode method_6_code 87 = .ok (.invokestatic 78, 3) := by decide +kernel
theorem d44_90 : decode method_6_code 90 = .ok (.ifCond .eq 7, 3) := by decide +kernel
theorem d44_93 : decode method_6_code 93 = .ok (.iconst 1, 1) := by decide +kernel
theorem d44_94 : decode method_6_code 94 = .ok (.goto 4, 3) := by decide +kernel
theorem d44_98 : decode method_6_code 98 = .ok (.ireturn, 1) := by decide +kernel
set_option maxRecDepth 65536 in
set_option maxHeartbeats 40000000 in
theorem rmLt (l : Launch) (Z : State) (a0 : Array Value) (hw : ∀ d ∈ tables_1, d.before a0 Z = true) (ws : List Jvm.Cond) (a1 : Addr) (t1 : Addr) (k1 : ClassId) (nt : Int32) (es : List Value) (p1 : Int32) (a2 : Addr) (t2 : Addr) (k2 : ClassId) (n2 : Int32) (fs : List Value) (wO : Addr) (wT : Addr) (kO : ClassId) (kT : ClassId) (iC : Int32) (vF : Value) (vU : Value) (vS : Value) (h0 : Heap) (n0 : Nat) (O0 : Old Z n0 h0) (G : Lq p1 nt es n2 fs) (E_a1 : Exa Z h0 a1 "java/lang/String") (F_a1_coder : Fld Z h0 a1 "java/lang/String" "coder" "B" (.int 0)) (F_a1_value : Fld Z h0 a1 "java/lang/String" "value" "[B" (.ref t1)) (V_t1 : Arv Z h0 t1 k1 .byte nt es (.int 0)) (E_a2 : Exa Z h0 a2 "java/lang/String") (F_a2_coder : Fld Z h0 a2 "java/lang/String" "coder" "B" (.int 0)) (F_a2_value : Fld Z h0 a2 "java/lang/String" "value" "[B" (.ref t2)) (V_t2 : Arv Z h0 t2 k2 .byte n2 fs (.int 0)) (WW : World1 Z wO wT kO kT iC vF vU vS) :
    Con l Z mq48 method_6_code 3 (some .boolean) ws ({ frames := 5, cells := 0, slots := 0, locals := 69 } : Room) #[(.ref a1), (.int p1), (.ref a2)] h0 (fun v h L => v = some (.int 1) ∧ Fr n0 L ∧ h = h0) := by
  refine own_body (plainFor_of_name pn_com_example_hearsay_rules_hearsayrules_InvalidJsonExceptionAtPinLaw) ?_
  intro p e s m below meth c s₁ hx hby hml hZ hown hnm hlk hret X0 e0
  have N0 := Fr.nil n0
  have D := @hb _ _ hby
  refine Go.st (T' := s₁) (f' := (mkF m 0 #[rv a1, iv p1, rv a2] [])) (fun _ k => castTop (by first | (simp [entryFrame, mkF, argsToLocals, Value.category]; done) | rfl) k) ?_
  have ⟨S_iC, nz_iC, S_vF, r_vF, S_vU, r_vU, S_vS, r_vS, S_wO, E_wO, S_wT, E_wT, V_wO, V_wT⟩ := WW
  have lt_wO := E_wO.lt
  have lt_wT := E_wT.lt
  have lt_a1 := E_a1.lt
  have lt_t1 := V_t1.lt
  have lt_a2 := E_a2.lt
  have lt_t2 := V_t2.lt
  refine zan 1 X0 hx (D d44_0) rfl rfl ?_
  refine zin 2 X0 hx (D d44_1) rfl ?_
  refine zan 3 X0 hx (D d44_2) rfl rfl ?_
  refine zic 4 0 X0 hx (D d44_3) ?_
  refine gS 7 0 0 0 X0 N0 hx hZ (y := mq47) hown hml (ww hw 253 rfl) (ww hw 254 rfl) (ww hw 246 rfl) (rmCh l Z a0 hw [] a1 t1 k1 nt es p1 a2 t2 k2 n2 fs (0 : Int32) wO wT kO kT iC vF vU vS h0 n0 O0 G (by decide) E_a1 F_a1_coder F_a1_value V_t1 E_a2 F_a2_coder F_a2_value V_t2 WW) (ww hw 255 rfl) e0 [(.ref a1), (.int p1), (.ref a2), (.int 0)] [] (lenOf pd__Ljava_lang_String_ILjava_lang_String_I_Z rfl) (D d44_4) ?_
  rintro T1 L1 M1 _ X1 uu1 ⟨rfl, Nq1, kq1⟩
  have N1 := uu1 Nq1
  refine zsk [(.int 1)] ?_
  refine zfn 10 X1 hx (D d44_7) (by decide) ?_
  refine zan 11 X1 hx (D d44_10) rfl rfl ?_
  refine zin 12 X1 hx (D d44_11) rfl ?_
  refine zan 13 X1 hx (D d44_12) rfl rfl ?_
  refine zic 14 1 X1 hx (D d44_13) ?_
  refine gS 17 0 0 0 X1 N1 hx hZ (y := mq47) hown hml (ww hw 253 rfl) (ww hw 254 rfl) (ww hw 246 rfl) (rmCh l Z a0 hw [] a1 t1 k1 nt es p1 a2 t2 k2 n2 fs (1 : Int32) wO wT kO kT iC vF vU vS h0 n0 O0 G (by decide) E_a1 F_a1_coder F_a1_value V_t1 E_a2 F_a2_coder F_a2_value V_t2 WW) (ww hw 255 rfl) kq1 [(.ref a1), (.int p1), (.ref a2), (.int 1)] [] (lenOf pd__Ljava_lang_String_ILjava_lang_String_I_Z rfl) (D d44_14) ?_
  rintro T2 L2 M2 _ X2 uu2 ⟨rfl, Nq2, kq2⟩
  have N2 := uu2 Nq2
  refine zsk [(.int 1)] ?_
  refine zfn 20 X2 hx (D d44_17) (by decide) ?_
  refine zan 21 X2 hx (D d44_20) rfl rfl ?_
  refine zin 22 X2 hx (D d44_21) rfl ?_
  refine zan 23 X2 hx (D d44_22) rfl rfl ?_
  refine zic 24 2 X2 hx (D d44_23) ?_
  refine gS 27 0 0 0 X2 N2 hx hZ (y := mq47) hown hml (ww hw 253 rfl) (ww hw 254 rfl) (ww hw 246 rfl) (rmCh l Z a0 hw [] a1 t1 k1 nt es p1 a2 t2 k2 n2 fs (2 : Int32) wO wT kO kT iC vF vU vS h0 n0 O0 G (by decide) E_a1 F_a1_coder F_a1_value V_t1 E_a2 F_a2_coder F_a2_value V_t2 WW) (ww hw 255 rfl) kq2 [(.ref a1), (.int p1), (.ref a2), (.int 2)] [] (lenOf pd__Ljava_lang_String_ILjava_lang_String_I_Z rfl) (D d44_24) ?_
  rintro T3 L3 M3 _ X3 uu3 ⟨rfl, Nq3, kq3⟩
  have N3 := uu3 Nq3
  refine zsk [(.int 1)] ?_
  refine zfn 30 X3 hx (D d44_27) (by decide) ?_
  refine zan 31 X3 hx (D d44_30) rfl rfl ?_
  refine zin 32 X3 hx (D d44_31) rfl ?_
  refine zan 33 X3 hx (D d44_32) rfl rfl ?_
  refine zic 34 3 X3 hx (D d44_33) ?_
  refine gS 37 0 0 0 X3 N3 hx hZ (y := mq47) hown hml (ww hw 253 rfl) (ww hw 254 rfl) (ww hw 246 rfl) (rmCh l Z a0 hw [] a1 t1 k1 nt es p1 a2 t2 k2 n2 fs (3 : Int32) wO wT kO kT iC vF vU vS h0 n0 O0 G (by decide) E_a1 F_a1_coder F_a1_value V_t1 E_a2 F_a2_coder F_a2_value V_t2 WW) (ww hw 255 rfl) kq3 [(.ref a1), (.int p1), (.ref a2), (.int 3)] [] (lenOf pd__Ljava_lang_String_ILjava_lang_String_I_Z rfl) (D d44_34) ?_
  rintro T4 L4 M4 _ X4 uu4 ⟨rfl, Nq4, kq4⟩
  have N4 := uu4 Nq4
  refine zsk [(.int 1)] ?_
  refine zfn 40 X4 hx (D d44_37) (by decide) ?_
  refine zan 41 X4 hx (D d44_40) rfl rfl ?_
  refine zin 42 X4 hx (D d44_41) rfl ?_
  refine zan 43 X4 hx (D d44_42) rfl rfl ?_
  refine zic 44 4 X4 hx (D d44_43) ?_
  refine gS 47 0 0 0 X4 N4 hx hZ (y := mq47) hown hml (ww hw 253 rfl) (ww hw 254 rfl) (ww hw 246 rfl) (rmCh l Z a0 hw [] a1 t1 k1 nt es p1 a2 t2 k2 n2 fs (4 : Int32) wO wT kO kT iC vF vU vS h0 n0 O0 G (by decide) E_a1 F_a1_coder F_a1_value V_t1 E_a2 F_a2_coder F_a2_value V_t2 WW) (ww hw 255 rfl) kq4 [(.ref a1), (.int p1), (.ref a2), (.int 4)] [] (lenOf pd__Ljava_lang_String_ILjava_lang_String_I_Z rfl) (D d44_44) ?_
  rintro T5 L5 M5 _ X5 uu5 ⟨rfl, Nq5, kq5⟩
  have N5 := uu5 Nq5
  refine zsk [(.int 1)] ?_
  refine zfn 50 X5 hx (D d44_47) (by decide) ?_
  refine zan 51 X5 hx (D d44_50) rfl rfl ?_
  refine zin 52 X5 hx (D d44_51) rfl ?_
  refine zan 53 X5 hx (D d44_52) rfl rfl ?_
  refine zic 54 5 X5 hx (D d44_53) ?_
  refine gS 57 0 0 0 X5 N5 hx hZ (y := mq47) hown hml (ww hw 253 rfl) (ww hw 254 rfl) (ww hw 246 rfl) (rmCh l Z a0 hw [] a1 t1 k1 nt es p1 a2 t2 k2 n2 fs (5 : Int32) wO wT kO kT iC vF vU vS h0 n0 O0 G (by decide) E_a1 F_a1_coder F_a1_value V_t1 E_a2 F_a2_coder F_a2_value V_t2 WW) (ww hw 255 rfl) kq5 [(.ref a1), (.int p1), (.ref a2), (.int 5)] [] (lenOf pd__Ljava_lang_String_ILjava_lang_String_I_Z rfl) (D d44_54) ?_
  rintro T6 L6 M6 _ X6 uu6 ⟨rfl, Nq6, kq6⟩
  have N6 := uu6 Nq6
  refine zsk [(.int 1)] ?_
  refine zfn 60 X6 hx (D d44_57) (by decide) ?_
  refine zan 61 X6 hx (D d44_60) rfl rfl ?_
  refine zin 62 X6 hx (D d44_61) rfl ?_
  refine zan 63 X6 hx (D d44_62) rfl rfl ?_
  refine zbp 65 6 X6 hx (D d44_63) ?_
  refine gS 68 0 0 0 X6 N6 hx hZ (y := mq47) hown hml (ww hw 253 rfl) (ww hw 254 rfl) (ww hw 246 rfl) (rmCh l Z a0 hw [] a1 t1 k1 nt es p1 a2 t2 k2 n2 fs (6 : Int32) wO wT kO kT iC vF vU vS h0 n0 O0 G (by decide) E_a1 F_a1_coder F_a1_value V_t1 E_a2 F_a2_coder F_a2_value V_t2 WW) (ww hw 255 rfl) kq6 [(.ref a1), (.int p1), (.ref a2), (.int 6)] [] (lenOf pd__Ljava_lang_String_ILjava_lang_String_I_Z rfl) (D d44_65) ?_
  rintro T7 L7 M7 _ X7 uu7 ⟨rfl, Nq7, kq7⟩
  have N7 := uu7 Nq7
  refine zsk [(.int 1)] ?_
  refine zfn 71 X7 hx (D d44_68) (by decide) ?_
  refine zan 72 X7 hx (D d44_71) rfl rfl ?_
  refine zin 73 X7 hx (D d44_72) rfl ?_
  refine zan 74 X7 hx (D d44_73) rfl rfl ?_
  refine zbp 76 7 X7 hx (D d44_74) ?_
  refine gS 79 0 0 0 X7 N7 hx hZ (y := mq47) hown hml (ww hw 253 rfl) (ww hw 254 rfl) (ww hw 246 rfl) (rmCh l Z a0 hw [] a1 t1 k1 nt es p1 a2 t2 k2 n2 fs (7 : Int32) wO wT kO kT iC vF vU vS h0 n0 O0 G (by decide) E_a1 F_a1_coder F_a1_value V_t1 E_a2 F_a2_coder F_a2_value V_t2 WW) (ww hw 255 rfl) kq7 [(.ref a1), (.int p1), (.ref a2), (.int 7)] [] (lenOf pd__Ljava_lang_String_ILjava_lang_String_I_Z rfl) (D d44_76) ?_
  rintro T8 L8 M8 _ X8 uu8 ⟨rfl, Nq8, kq8⟩
  have N8 := uu8 Nq8
  refine zsk [(.int 1)] ?_
  refine zfn 82 X8 hx (D d44_79) (by decide) ?_
  refine zan 83 X8 hx (D d44_82) rfl rfl ?_
  refine zin 84 X8 hx (D d44_83) rfl ?_
  refine zan 85 X8 hx (D d44_84) rfl rfl ?_
  refine zbp 87 8 X8 hx (D d44_85) ?_
  refine gS 90 0 0 0 X8 N8 hx hZ (y := mq47) hown hml (ww hw 253 rfl) (ww hw 254 rfl) (ww hw 246 rfl) (rmCh l Z a0 hw [] a1 t1 k1 nt es p1 a2 t2 k2 n2 fs (8 : Int32) wO wT kO kT iC vF vU vS h0 n0 O0 G (by decide) E_a1 F_a1_coder F_a1_value V_t1 E_a2 F_a2_coder F_a2_value V_t2 WW) (ww hw 255 rfl) kq8 [(.ref a1), (.int p1), (.ref a2), (.int 8)] [] (lenOf pd__Ljava_lang_String_ILjava_lang_String_I_Z rfl) (D d44_87) ?_
  rintro T9 L9 M9 _ X9 uu9 ⟨rfl, Nq9, kq9⟩
  have N9 := uu9 Nq9
  refine zsk [(.int 1)] ?_
  refine zfn 93 X9 hx (D d44_90) (by decide) ?_
  refine zic 94 1 X9 hx (D d44_93) ?_
  refine zgo 98 X9 hx (D d44_94) ?_
  refine Go.retB X9 hlk hx (t := .boolean) hret (by simp) (D d44_98) kq9 ?_ (by decide) (by decide)
  exact ⟨rfl, N9, rfl⟩

/-- Throwable's parts in the tables; 'suppressedExceptions' is known of the class rc alone -/
theorem own_thr {args : Array Value} {s : State} {pl : Platform} {rc : String} (g1 : pl.frameOwnsMonitors = true) (g2 : pl.finalization = false) (g3 : pl.magicAccessors = ({} : Platform).magicAccessors)
    (w1 : (Cond.initialized tN).before args s = true) (w2 : (Cond.superclass tN "java/lang/Object").before args s = true) (w3 : (Cond.instanceMethod tFill).before args s = true) (w4 : (Cond.codeSync tFill LibCode.Throwable.Fill.code 1 (some (.object tN))).before args s = true)
    (w5 : (Cond.instanceMethod tFill0).before args s = true) (w6 : (Cond.native tFill0).before args s = true) (w7 : (Cond.instanceMethod oInit).before args s = true) (w8 : (Cond.code oInit ⟨#[0xb1]⟩ 1 none).before args s = true)
    (w9 : (Cond.methodLink tN 1 oInit).before args s = true) (w10 : (Cond.methodLink tN 27 tFill).before args s = true) (w11 : (Cond.methodLink tN 202 tFill0).before args s = true)
    (w12 : (Cond.fieldLink tN 7 tN "cause" "Ljava/lang/Throwable;").before args s = true) (w13 : (Cond.lays rc tN "cause" "Ljava/lang/Throwable;").before args s = true)
    (w14 : (Cond.fieldLink tN 17 tN "stackTrace" steD).before args s = true) (w15 : (Cond.lays rc tN "stackTrace" steD).before args s = true)
    (w16 : (Cond.fieldLink tN 24 tN "suppressedExceptions" listD).before args s = true) (w17 : (Cond.lays rc tN "suppressedExceptions" listD).before args s = true)
    (w18 : (Cond.fieldLink tN 13 tN "UNASSIGNED_STACK" steD).before args s = true) (w19 : (Cond.laysStatic tN "UNASSIGNED_STACK" steD).before args s = true)
    (w20 : (Cond.fieldLink tN 20 tN "SUPPRESSED_SENTINEL" listD).before args s = true) (w21 : (Cond.laysStatic tN "SUPPRESSED_SENTINEL" listD).before args s = true) (w22 : (Cond.lays rc tN "detailMessage" "Ljava/lang/String;").before args s = true) :
    ∃ T : ThrowableC, T.Links pl s ∧ s.vm.findClass tN = some T.cT ∧ s.methodNamed? tFill = some T.fill ∧ s.methodNamed? tFill0 = some T.fill0 ∧ s.fieldFound? tN "stackTrace" steD = some (T.cT, T.kT, T.i17, T.fStack) ∧ T.fStack.name = "stackTrace" ∧ T.fStack.type = .array (.object "java/lang/StackTraceElement") ∧ s.fieldFound? tN "UNASSIGNED_STACK" steD = some (T.cT, T.kT, T.i13, T.fUnassigned) := by
  -- the two methods and the class
  obtain ⟨⟨c, j0⟩, mN, n1, n2, n3, n4, n5, n6⟩ := Cond.native_spec w6
  have hc : s.vm.findClass tN = some c := findClass_of_methodNamed n1
  obtain ⟨k, hk, hnm⟩ := Vm.findClass_spec hc
  obtain ⟨_, k1, _, _, p1, _, _, p2, _, p3⟩ := Cond.superclass_spec hc w2
  cases Option.some.inj (hk.symm.trans p1)
  obtain ⟨jF, mF, f1, f2, f3, f4, f5, -, -⟩ := Cond.ownMethod (x := tFill) hc hk w3
  obtain ⟨mF', cF, f6, f7, f8, f9, f10, f11, -, f12⟩ := Cond.codeSync_spec f1 w4
  cases Option.some.inj (f2.symm.trans f6)
  obtain ⟨j0', mN', o1, o2, o3, o4, o5, o6, o7⟩ := Cond.ownMethod (x := tFill0) hc hk w5
  have ej : j0 = j0' := by have q := Option.some.inj (n1.symm.trans o1); simpa using q
  subst ej
  cases Option.some.inj (n2.symm.trans o2)
  -- Object's constructor
  obtain ⟨mO, xO, b1, b2, b3, b4⟩ := Cond.instanceMethod_spec w7
  obtain ⟨xO', cO, b5, b6, b7, b8, -, b9, -, b10⟩ := Cond.code_spec b1 w8
  cases Option.some.inj (b2.symm.trans b5)
  obtain ⟨kO, b11, b12⟩ := Vm.findClass_spec (findClass_of_methodNamed b1)
  obtain ⟨b13, b14⟩ := name_of_methodNamed b1 b2
  -- the links
  obtain ⟨ci1, e1, cf, l1, l2, l3, l4⟩ := Cond.linkedMethod hc hk b1 w9 pl g3
  obtain ⟨ci27, e27, cf2, l5, l6, l7, l8⟩ := Cond.linkedMethod hc hk f1 w10 pl g3
  cases Option.some.inj (l3.symm.trans l7)
  obtain ⟨ci202, e202, cf3, l9, l10, l11, l12⟩ := Cond.linkedMethod hc hk n1 w11 pl g3
  cases Option.some.inj (l3.symm.trans l11)
  obtain ⟨ci7, i7, x7, a1, a2, a3, a4, a5, a6, a7, a8⟩ := Cond.ownField (t := .object tN) hc hk (by decide +kernel) w12 w13 pl g3
  obtain ⟨ci17, i17, x17, d1, d2, d3, d4, d5, d6, d7, d8⟩ := Cond.ownField (t := .array (.object "java/lang/StackTraceElement")) hc hk (by decide +kernel) w14 w15 pl g3
  obtain ⟨ci24, i24, x24, h1, h2, h3, h4, h5, h6, h7, h8⟩ := Cond.ownField (t := .object "java/util/List") hc hk (by decide +kernel) w16 w17 pl g3
  obtain ⟨ci13, i13, x13, aS, cS, r1, r2, r3, r4, -, -, r5, -, -, -, -, r6⟩ := Cond.ownStatic (t := .array (.object "java/lang/StackTraceElement")) hc hk (by decide +kernel) w18 w19 pl g3
  obtain ⟨ci20, i20, x20, _, _, t1, t2, t3, t4, -, -, -, -, -, -, -, -⟩ := Cond.ownStatic (t := .object "java/util/List") hc hk (by decide +kernel) w20 w21 pl g3
  obtain ⟨cR, kR, _, _, _, xM, v1, v2, v3, v4, v5, -⟩ := Cond.lays_spec w22
  -- two slots are apart, by rc's layout
  obtain ⟨-, y1, z1, z2⟩ := Cond.laysAt v1 v2 d8 w15
  obtain ⟨-, y2, z3, z4⟩ := Cond.laysAt v1 v2 h8 w17
  have ap : x17.slot ≠ x24.slot := Cond.laysApart z1 z3 z2 z4 (by rw [d6, h6]; decide)
  have pF : mF.sig.parameters = [] := by
    have q : (parseMethodDescriptor tFill.desc).map (·.parameters) = some [] := by decide +kernel
    rw [f12] at q; simpa using q
  have pN : mN.sig.parameters = [.int] := by
    have q : (parseMethodDescriptor tFill0.desc).map (·.parameters) = some [.int] := by decide +kernel
    rw [n6] at q; simpa using q
  have pO : xO.sig.parameters.length = 0 := by
    have q : (parseMethodDescriptor oInit.desc).map (·.parameters) = some [] := by decide +kernel
    rw [b10] at q
    have q' : xO.sig.parameters = [] := by simpa using q
    rw [q']; rfl
  refine ⟨{ cT := c, kT := k, cO := c, aS := aS, fillIdx := jF, fill0Idx := j0, initSIdx := j0, obj := mO, kObj := kO, methFill := mF, methFill0 := mN, methInitS := mN, methObj := xO, codeFill := cF, codeInitS := cF, codeObj := cO, fBack := x7, fDepth := x7, fStack := x17, fCause := x7, fSupp := x24, fMsg := xM, fUnassigned := x13, fSentinel := x20, cfT := cf, ci1 := ci1, n1 := e1, ci27 := ci27, n27 := e27, ci202 := ci202, n202 := e202, ci7 := ci7, i7 := i7, ci13 := ci13, i13 := i13, ci17 := ci17, i17 := i17, ci20 := ci20, i20 := i20, ci24 := ci24, i24 := i24 }, ?_, hc, f1, n1, d8, d6, d7, r6⟩
  exact { owns := g1, noFinalization := g2, cls := hk, name := hnm, boot := Vm.findClass_boot hc hk, notInterface := p3, initialized := Cond.initialized_spec hc hk w1, statics := r5, fillAt := f3, fillCode := f7, fillBytes := f8, fillLocals := f9, fillLocks := f11, fillStatic := f4, fillAbstract := f5, fillReturns := f10, fillParams := pF, fill0At := o3, fill0Name := o6, fill0Desc := o7, fill0Params := pN, fill0Static := o4, fill0Native := n3, fill0Code := n4, fill0Locks := n5, fill0Abstract := o5, stackInstance := d4, stackNotFinal := d5, unassignedStatic := r4, objClass := b11, objClassName := b12, objMethod := b2, objName := b13, objStatic := b3, objAbstract := b4, objFound := by rw [b14]; exact lookupSpecial_of_named b1 b2 b3, objParams := pO, objCode := b6, objBytes := b7, objLocks := b9, causeInstance := a4, causeNotFinal := a5, sentinelStatic := t4, suppInstance := h4, suppNotFinal := h5, msgInstance := v4, msgNotFinal := v5, stackApartSupp := ap, file := l3, mlink1 := l1, mright1 := l2, pool1 := l4, mlink27 := l5, mright27 := l6, pool27 := l8, mlink202 := l9, mright202 := l10, pool202 := l12, link7 := a1, right7 := a2, at7 := a3, link13 := r1, right13 := r2, at13 := r3, link17 := d1, right17 := d2, at17 := d3, link20 := t1, right20 := t2, at20 := t3, link24 := h1, right24 := h2, at24 := h3 }
/-- fillInStackTrace() on the object that a constructor is at work on, as one law -/
theorem own_fill {p : Program} {l : Launch} {e : Env} {R : Room} {s : State} {m : MethodId} {args : Array Value} {below : List Frame} {meth : Method} {c : Code} {T : State} {locs : List Loc} {cells slots : Nat} {Z : State} {a0 : Array Value} {h h0 : Heap} {n0 : Nat}
    (X : Stand p l e R s m args below meth c T locs cells slots) (hx : p.tables.exec = Jvm.exec) (hl : l.stackTraces = true) (hZ : Z.Warmed39 s.vm) (hown : s.vm.findClass "java/lang/Throwable" = some m.cls) (hw : ∀ d ∈ tables_1, d.before a0 Z = true) (hh : s.heap = h0) (O0 : Old Z n0 h0) (hTK : s.vm.MethodsKnown) (hBelow : s.vm.FramesKnown below)
    (eT : T.heap = h) {a : Addr} (ga : n0 ≤ a) (E : Exa Z h a "com/example/hearsay_rules/hearsayrules/InvalidJsonException") (N : Unt h a) (B : Fld Z h a "java/lang/Throwable" "backtrace" "Ljava/lang/Object;" .null) {u : Value} (S : Fld Z h a "java/lang/Throwable" "stackTrace" "[Ljava/lang/StackTraceElement;" u) (U : Sta Z h "java/lang/Throwable" "UNASSIGNED_STACK" "[Ljava/lang/StackTraceElement;" u) (hu : u.isRef = true) (M : Fld Z h a "java/lang/Throwable" "detailMessage" "Ljava/lang/String;" .null) (K : Keep h0 h [a]) (hlocs : ∀ x ∈ locs, x.base = a)
    {g : JFrame} (hg : g.method = m) (hsize : g.locals.size = c.maxLocals) (hs : g.stack = [.ref a]) (hd : decode c.code g.pc = .ok (.invokevirtual 27, 3)) (hmr : g.monitorRoom = 0) (hf : 3 ≤ R.frames) (hlo : 42 ≤ R.locals) (hce : cells + 1 ≤ R.cells) (hsl : slots + 2752 ≤ R.slots) :
    ∃ (T' : State) (h' : Heap) (L' : List Loc), Stand p l e R s m args below meth c T' L' (cells + 1) (slots + 2752) ∧ T'.heap = h' ∧ Fr n0 L' ∧ Keep h0 h' [a] ∧ Exa Z h' a "com/example/hearsay_rules/hearsayrules/InvalidJsonException" ∧ Fld Z h' a "java/lang/Throwable" "detailMessage" "Ljava/lang/String;" .null ∧
      ∀ target, Steps p.tables e below (T'.setTop { g with pc := g.pc + 3, stack := [.ref a] }) target → Steps p.tables e below (T.setTop g) target := by
  have hT0 : ThS Z s.heap := by rw [hh]; exact ThS.ext O0.2 ThS.start
  have A : ∀ {d : Cond}, xOk d = true → d.before a0 Z = true → d.before args s = true := fun ok w => mvX hT0 hZ ok w
  have t1 : e.platform.stackTraces = true := by rw [X.admits.platform]; exact hl
  have t2 : e.platform.frameOwnsMonitors = true := by rw [X.admits.platform]
  have t3 : e.platform.finalization = false := by rw [X.admits.platform]
  have t4 : e.platform.magicAccessors = ({} : Platform).magicAccessors := by rw [X.admits.platform]
  obtain ⟨TT, L, v1, v2, v3, v4, v5, v6, v7⟩ := own_thr (rc := "com/example/hearsay_rules/hearsayrules/InvalidJsonException") t2 t3 t4 (A rfl (ww hw 199 rfl)) (A rfl (ww hw 217 rfl)) (A rfl (ww hw 212 rfl)) (A rfl (ww hw 218 rfl)) (A rfl (ww hw 219 rfl)) (A rfl (ww hw 220 rfl)) (A rfl (ww hw 13 rfl)) (A rfl (ww hw 14 rfl)) (A rfl (ww hw 201 rfl)) (A rfl (ww hw 210 rfl)) (A rfl (ww hw 223 rfl)) (A rfl (ww hw 202 rfl)) (A rfl (ww hw 203 rfl)) (A rfl (ww hw 205 rfl)) (A rfl (ww hw 206 rfl)) (A rfl (ww hw 208 rfl)) (A rfl (ww hw 209 rfl)) (A rfl (ww hw 204 rfl)) (A rfl (ww hw 230 rfl)) (A rfl (ww hw 207 rfl)) (A rfl (ww hw 231 rfl)) (A rfl (ww hw 233 rfl))
  -- the object
  obtain ⟨cell, kc, c1, c2, c3, c4, c5⟩ := E
  obtain ⟨cell', u1, u2, u3⟩ := N
  cases c1.symm.trans u1
  have hfound : s.vm.findClass "com/example/hearsay_rules/hearsayrules/InvalidJsonException" = some cell.cls := by rw [hZ.alike.findClass]; exact c2
  obtain ⟨kX, hk, hek⟩ := hZ.alike.2.2 _ _ c3
  obtain ⟨_, _, i1, i2, i3, -⟩ := Cond.instantiable_spec (A rfl (ww hw 36 rfl))
  cases i1.symm.trans hfound
  cases i2.symm.trans hk
  have hsz : cell.slots.size = kX.instanceTypes.size := by rw [hek]; exact c5 (by rw [hek] at i3; exact i3)
  -- its fields
  obtain ⟨_, _, _, _, fS, S1, S2, S3, S4, S5, S6, S7⟩ := S
  cases c1.symm.trans S1
  obtain ⟨_, _, _, gS⟩ := Jvm.Free.BdW.found_ride (U := Z) (U' := s) hZ.alike ⟨_, _, _, S2⟩
  cases gS.symm.trans v4
  obtain ⟨_, mcf, mk, mi, fM, M1, M2, M3, M4, M5, M6, M7⟩ := M
  cases c1.symm.trans M1
  obtain ⟨_, _, _, gM⟩ := Jvm.Free.BdW.found_ride (U := Z) (U' := s) hZ.alike ⟨_, _, _, M2⟩
  obtain ⟨_, _, _, _, fB, B1, B2, B3, B4, B5, B6, B7⟩ := B
  cases c1.symm.trans B1
  obtain ⟨_, _, i198, gB⟩ := Jvm.Free.BdW.found_ride (U := Z) (U' := s) hZ.alike ⟨_, _, _, B2⟩
  obtain ⟨ci198, _, _, b1, b2, b3, b4, -, b5, b6, b7⟩ := Cond.ownField (t := .object "java/lang/Object") v1 L.cls (by decide +kernel) (A rfl (ww hw 228 rfl)) (A rfl (ww hw 229 rfl)) e.platform t4
  cases gB.symm.trans b7
  -- the static
  obtain ⟨_, _, kU, fU, st, cellS, U1, U2, U3, U4, U5, U6, U7⟩ := U
  obtain ⟨kU', gU, hekU⟩ := State.fieldFound?_setVm hZ.alike U1
  cases gU.symm.trans v7
  have hst : TT.kT.statics = some st := by rw [hekU]; exact U4
  cases L.statics.symm.trans hst
  have hneS : TT.aS ≠ a := fun q => by
    rw [q] at U5; cases c1.symm.trans U5; rw [u2] at U6; cases U6
  have hknS : cellS.vm ≠ .unknown := fun q => by rw [q] at U6; cases U6
  have hsel0 : selectMethod e.platform s.vm cell.cls TT.fill0 = .method TT.fill0 := by
    obtain ⟨_, _, _, q1, q2, q3, q4, -⟩ := Cond.selects_spec (A rfl (ww hw 232 rfl))
    cases Option.some.inj (q1.symm.trans hfound)
    cases Option.some.inj (q2.symm.trans (State.methodFound?_of_named v3 (by decide)))
    cases Option.some.inj (q3.symm.trans v3)
    rw [Launch.admits_selectMethod X.admits]; exact q4
  have wD := A rfl (ww hw 235 rfl)
  obtain ⟨_, _, cD, kD, iD, fD, -, -, d1, d2, -⟩ := Cond.lays_spec wD
  cases Option.some.inj ((Cond.lays_declared wD d1).symm.trans v1)
  obtain ⟨d3, d4⟩ := State.fieldFound?_spec d1
  cases Option.some.inj (d3.symm.trans L.cls)
  obtain ⟨d5, d6⟩ := State.fieldFound?_type d1 (t := .int) (by decide +kernel)
  have hfb := Cond.soleField_find v1 L.cls (A rfl (ww hw 215 rfl)) b3 b5 b4
  have hfd := Cond.soleField_find v1 L.cls (A rfl (ww hw 216 rfl)) d4 d5 d2
  obtain ⟨comp, cO, kO, -, -, o1, o2, o3⟩ := Cond.arrayOver_spec (A rfl (ww hw 214 rfl))
  obtain ⟨yS, _, zS, zS'⟩ := Cond.laysAt hfound hk v4 (A rfl (ww hw 206 rfl))
  obtain ⟨yB, _, zB, zB'⟩ := Cond.laysAt hfound hk b7 (A rfl (ww hw 234 rfl))
  obtain ⟨yD, _, zD, zD'⟩ := Cond.laysAt hfound hk d1 wD
  obtain ⟨yM, _, zM, zM'⟩ := Cond.laysAt hfound hk gM (A rfl (ww hw 233 rfl))
  have nM : fM.name = "detailMessage" := (State.fieldFound?_type gM (t := .object "java/lang/String") (by decide +kernel)).1
  have mB := Cond.laysApart zM zB zM' zB' (by rw [nM, b5]; decide)
  have mD := Cond.laysApart zM zD zM' zD' (by rw [nM, d5]; decide)
  have mS := Cond.laysApart zM zS zM' zS' (by rw [nM, v5]; decide)
  have tk : ∀ {f : Field} {v : Value}, kX.instanceTypes[f.slot]? = some f.type → fits f.type v = true → Jvm.Takes s cell f v := fun {f v} h1 h2 => by
    obtain ⟨q1, q2⟩ := Takes.of_laid (v := v) hk i3 h1 h2
    exact ⟨by rw [hsz]; simpa using q1, by rw [u2]; exact q2⟩
  have hSE := A rfl (ww hw 213 rfl)
  obtain ⟨_, vm6, ⟨T6, L6, k6, n6⟩, hW6, X6, ⟨hv6, C6, n, hn, q0, q1, q2, q3, q4, hL6, hk6, hn6⟩, come⟩ := X.virtualBack hx (own := tN) (C := "com/example/hearsay_rules/hearsayrules/InvalidJsonException") (index := 27) (y := tFill) (z := tFill) hown (A rfl (ww hw 210 rfl)) (A rfl (ww hw 211 rfl)) (notFace_of_selects hSE) hSE (A rfl (ww hw 212 rfl)) (by decide)
    (Jvm.Free.Exc.fillPaysAny (l := l) (W := 0) hx t1 TT L v2 (u0 := ⟨u, hu⟩) (self := a) (cell := cell) (cellS := cellS) (fun _ => by rw [u2]; simp) (by rw [u2]; simp) (by rw [u3]) (by rw [u3]) S7 hsel0 hneS hknS U7 (tk yS (by rw [v6]; exact (own_nvA hu).2))
      ⟨{ ci198 := ci198, i198 := i198, fBack := fB }, ⟨b1, b2, b3, b4⟩, B7⟩ hTK hBelow v1 o3 o1 o2 hfb hfd (fun x => tk yB (by rw [b6]; rfl)) (fun x => tk yD (by rw [d6]; rfl)) (by omega) (by omega))
    (b := a) (cB := cell.cls) hfound ⟨cell, by rw [eT]; exact c1, rfl, by rw [u2]; rfl⟩ hg hsize (Steps.refl _) (argsL := []) (rest := [])
    (fun sig q => by rw [show parseMethodDescriptor tFill.desc = some ⟨[], some (.object tN)⟩ from by decide +kernel] at q; rw [← Option.some.inj q]; rfl) hs (by rw [hmr]; decide) hd
    (fun _ _ => ⟨rfl, hce, hsl, by show T.heap[a]? = _; rw [eT]; exact c1, by show T.heap[TT.aS]? = _; rw [eT]; exact U5⟩)
  dsimp only [Pt.U, Pt.locs, Pt.cells, Pt.slots] at X6 q0 hL6 hk6 hn6 come
  subst hv6 hL6 hk6 hn6
  have hall : ∀ x ∈ locs ++ [(⟨a, fB.slot⟩ : Loc), ⟨a, fD.slot⟩, ⟨a, TT.fStack.slot⟩], x.base = a := fun x hx => by
    rcases List.mem_append.mp hx with q | q
    · exact hlocs x q
    · simp only [List.mem_cons, List.not_mem_nil, or_false] at q
      rcases q with rfl | rfl | rfl <;> rfl
  have KK : Jvm.Free.Exc.Kept s T6 (locs ++ [(⟨a, fB.slot⟩ : Loc), ⟨a, fD.slot⟩, ⟨a, TT.fStack.slot⟩]) := fun y cy hy => X6.same.2.2.2.2.2 y cy hy
  refine ⟨T6, T6.heap, _, X6.more (Nat.le_refl _) (Nat.add_le_add_left hn _), rfl, fun y hy => by rw [hall y hy]; exact ga, ⟨?_, fun x cy q ne => ?_, fun x cy q => ?_⟩, ⟨C6, kc, q0, by rw [q1]; exact c2, by rw [q1]; exact c3, by rw [q2, u2]; rfl, fun ho => by rw [q3]; exact c5 ho⟩, ⟨C6, mcf, mk, mi, fM, q0, M2, M3, by rw [q2, u2]; simp, by rw [q2, u2]; rfl, by rw [q1]; exact M6, (q4 _ mB mD mS).trans M7⟩, fun target k => come.trans k⟩
  · rw [← hh]
    rcases Nat.eq_zero_or_pos s.heap.size with z | z
    · omega
    · obtain ⟨_, q, -⟩ := KK (s.heap.size - 1) _ (Array.getElem?_eq_getElem (by omega))
      have := (Array.getElem?_eq_some_iff.mp q).1
      omega
  · rw [← hh] at q
    exact KK.other hall (by simpa using ne) q
  · rw [← hh] at q
    obtain ⟨c', r1, r2, r3, -⟩ := KK x cy q
    exact ⟨c', r1, by rw [r2], by rw [r2], r3⟩

theorem pn_java_lang_Throwable : plainName "java/lang/Throwable" = true := by first | (simp [plainName, overriddenIn]; done) | decide +kernel
theorem d39_0 : decode jdk_78_method_2_code 0 = .ok (.aload_n 0, 1) := by decide +kernel
theorem d39_1 : decode jdk_78_method_2_code 1 = .ok (.invokespecial 1, 3) := by decide +kernel
theorem d39_4 : decode jdk_78_method_2_code 4 = .ok (.aload_n 0, 1) := by decide +kernel
theorem d39_5 : decode jdk_78_method_2_code 5 = .ok (.aload_n 0, 1) := by decide +kernel
theorem d39_6 : decode jdk_78_method_2_code 6 = .ok (.putfield 7, 3) := by decide +kernel
theorem d39_9 : decode jdk_78_method_2_code 9 = .ok (.aload_n 0, 1) := by decide +kernel
theorem d39_10 : decode jdk_78_method_2_code 10 = .ok (.getstatic 13, 3) := by decide +kernel
theorem d39_13 : decode jdk_78_method_2_code 13 = .ok (.putfield 17, 3) := by decide +kernel
theorem d39_16 : decode jdk_78_method_2_code 16 = .ok (.aload_n 0, 1) := by decide +kernel
theorem d39_17 : decode jdk_78_method_2_code 17 = .ok (.getstatic 20, 3) := by decide +kernel
theorem d39_20 : decode jdk_78_method_2_code 20 = .ok (.putfield 24, 3) := by decide +kernel
theorem d39_23 : decode jdk_78_method_2_code 23 = .ok (.aload_n 0, 1) := by decide +kernel
theorem d39_24 : decode jdk_78_method_2_code 24 = .ok (.invokevirtual 27, 3) := by decide +kernel
theorem d39_27 : decode jdk_78_method_2_code 27 = .ok (.pop, 1) := by decide +kernel
theorem d39_28 : decode jdk_78_method_2_code 28 = .ok (.aload_n 0, 1) := by decide +kernel
theorem d39_29 : decode jdk_78_method_2_code 29 = .ok (.aload_n 1, 1) := by decide +kernel
theorem d39_30 : decode jdk_78_method_2_code 30 = .ok (.putfield 31, 3) := by decide +kernel
theorem d39_33 : decode jdk_78_method_2_code 33 = .ok (.return_, 1) := by decide +kernel
set_option maxRecDepth 65536 in
set_option maxHeartbeats 40000000 in
theorem rmE0 (l : Launch) (Z : State) (a0 : Array Value) (hw : ∀ d ∈ tables_1, d.before a0 Z = true) (ws : List Jvm.Cond) (a1 : Addr) (m1 : Addr) (wO : Addr) (wT : Addr) (kO : ClassId) (kT : ClassId) (iC : Int32) (vF : Value) (vU : Value) (vS : Value) (h0 : Heap) (n0 : Nat) (O0 : Old Z n0 h0) (hlt : l.stackTraces = true) (g_a1 : n0 ≤ a1) (U_a1 : Unt h0 a1) (E_a1 : Exa Z h0 a1 "com/example/hearsay_rules/hearsayrules/InvalidJsonException") (F_a1_cause : Fld Z h0 a1 "java/lang/Throwable" "cause" "Ljava/lang/Throwable;" .null) (F_a1_stackTrace : Fld Z h0 a1 "java/lang/Throwable" "stackTrace" "[Ljava/lang/StackTraceElement;" .null) (F_a1_suppressedExceptions : Fld Z h0 a1 "java/lang/Throwable" "suppressedExceptions" "Ljava/util/List;" .null) (F_a1_detailMessage : Fld Z h0 a1 "java/lang/Throwable" "detailMessage" "Ljava/lang/String;" .null) (F_a1_backtrace : Fld Z h0 a1 "java/lang/Throwable" "backtrace" "Ljava/lang/Object;" .null) (F_a1_depth : Fld Z h0 a1 "java/lang/Throwable" "depth" "I" (.int 0)) (WW : World1 Z wO wT kO kT iC vF vU vS) :
    ConK l Z mq49 jdk_78_method_2_code 2 none ws ({ frames := 3, cells := 1, slots := 2752, locals := 42 } : Room) #[(.ref a1), (.ref m1)] h0 (fun v h L => v = none ∧ Fr n0 L ∧ Keep h0 h [a1] ∧ Exa Z h a1 "com/example/hearsay_rules/hearsayrules/InvalidJsonException" ∧ Fld Z h a1 "java/lang/Throwable" "detailMessage" "Ljava/lang/String;" (.ref m1)) := by
  refine own_bodyK (plainFor_of_name pn_java_lang_Throwable) ?_
  intro p e s m below meth c s₁ hx hby hml hZ hown hnm hlk hret X0 e0 hh hTK hBelow
  have N0 := Fr.nil n0
  have D := @hb _ _ hby
  have K0 : Keep h0 h0 [a1] := Keep.refl _ _
  refine Go.st (T' := s₁) (f' := (mkF m 0 #[rv a1, rv m1] [])) (fun _ k => castTop (by first | (simp [entryFrame, mkF, argsToLocals, Value.category]; done) | rfl) k) ?_
  have ⟨S_iC, nz_iC, S_vF, r_vF, S_vU, r_vU, S_vS, r_vS, S_wO, E_wO, S_wT, E_wT, V_wO, V_wT⟩ := WW
  have lt_wO := E_wO.lt
  have lt_wT := E_wT.lt
  have lt_a1 := E_a1.lt
  have ne_wO_a1 : wO ≠ a1 := O0.ne lt_wO g_a1
  have ne_wT_a1 : wT ≠ a1 := O0.ne lt_wT g_a1
  refine zan 1 X0 hx (D d39_0) rfl rfl ?_
  obtain ⟨T1, X1, e1, st1⟩ := initO X0 hx hZ hown (ww hw 201 rfl) (ww hw 13 rfl) (ww hw 14 rfl) e0 (g := (mkF m 1 #[rv a1, rv m1] [(.ref a1)])) rfl (by rw [hml]; rfl) rfl (D d39_1) (by decide) (W := 0) (by show 2 * 0 + _ ≤ _; exact Nat.le_of_eq rfl) (by decide)
  refine zst 4 #[rv a1, rv m1] [] st1 ?_
  refine zan 5 X1 hx (D d39_4) rfl rfl ?_
  refine zan 6 X1 hx (D d39_5) rfl rfl ?_
  obtain ⟨T2, h2, X2, e2, W2, st2⟩ := putF X1 hx hZ hown (host := "") (Or.inl (ww hw 202 rfl)) Via.refl e1 F_a1_cause E_a1 (Or.inl (ww hw 203 rfl)) (ww hw 36 rfl) (ty := (.object "java/lang/Throwable")) (by decide) rfl rfl (g := (mkF m 6 #[rv a1, rv m1] [(.ref a1), (.ref a1)])) rfl rfl (D d39_6)
  have N2 := Fr.snoc X2 N0 g_a1
  have O2 : Old Z n0 h2 := O0.wr W2 g_a1
  have K2 : Keep h0 h2 [a1] := K0.wr W2 (Or.inl (List.mem_of_getElem? (i := 0) rfl))
  have Fw2 := F_a1_cause.same W2
  refine zst 9 #[rv a1, rv m1] [] st2 ?_
  refine zan 10 X2 hx (D d39_9) rfl rfl ?_
  obtain ⟨T3, X3, e3, st3⟩ := getS2 X2 hx hZ hown (host := "") (Or.inl (ww hw 204 rfl)) Via.refl e2 (S_vU.ext O2.2) (g := (mkF m 10 #[rv a1, rv m1] [(.ref a1)])) rfl (D d39_10)
  refine zst 13 #[rv a1, rv m1] [vU, (.ref a1)] st3 ?_
  have ft4 := (E_a1.wr W2)
  have ft5 := (F_a1_stackTrace.other W2 (Or.inr (slot_ne (Or.inl (ww hw 206 rfl)) (Or.inl (ww hw 203 rfl)) (by decide) (t := (.array (.object "java/lang/StackTraceElement"))) (t' := (.object "java/lang/Throwable")) (by decide) (by decide))))
  obtain ⟨T6, h6, X6, e6, W6, st6⟩ := putF X3 hx hZ hown (host := "") (Or.inl (ww hw 205 rfl)) Via.refl e3 ft5 ft4 (Or.inl (ww hw 206 rfl)) (ww hw 36 rfl) (ty := (.array (.object "java/lang/StackTraceElement"))) (by decide) (own_nvA r_vU).1 (own_nvA r_vU).2 (g := (mkF m 13 #[rv a1, rv m1] [vU, (.ref a1)])) rfl rfl (D d39_13)
  have N6 := Fr.snoc X6 N2 g_a1
  have O6 : Old Z n0 h6 := O2.wr W6 g_a1
  have K6 : Keep h0 h6 [a1] := K2.wr W6 (Or.inl (List.mem_of_getElem? (i := 0) rfl))
  have Fw6 := ft5.same W6
  refine zst 16 #[rv a1, rv m1] [] st6 ?_
  refine zan 17 X6 hx (D d39_16) rfl rfl ?_
  obtain ⟨T7, X7, e7, st7⟩ := getS2 X6 hx hZ hown (host := "") (Or.inl (ww hw 207 rfl)) Via.refl e6 (S_vS.ext O6.2) (g := (mkF m 17 #[rv a1, rv m1] [(.ref a1)])) rfl (D d39_17)
  refine zst 20 #[rv a1, rv m1] [vS, (.ref a1)] st7 ?_
  have ft8 := (ft4.wr W6)
  have ft9 := ((F_a1_suppressedExceptions.other W2 (Or.inr (slot_ne (Or.inl (ww hw 209 rfl)) (Or.inl (ww hw 203 rfl)) (by decide) (t := (.object "java/util/List")) (t' := (.object "java/lang/Throwable")) (by decide) (by decide)))).other W6 (Or.inr (slot_ne (Or.inl (ww hw 209 rfl)) (Or.inl (ww hw 206 rfl)) (by decide) (t := (.object "java/util/List")) (t' := (.array (.object "java/lang/StackTraceElement"))) (by decide) (by decide))))
  obtain ⟨T10, h10, X10, e10, W10, st10⟩ := putF X7 hx hZ hown (host := "") (Or.inl (ww hw 208 rfl)) Via.refl e7 ft9 ft8 (Or.inl (ww hw 209 rfl)) (ww hw 36 rfl) (ty := (.object "java/util/List")) (by decide) (own_nvO r_vS).1 (own_nvO r_vS).2 (g := (mkF m 20 #[rv a1, rv m1] [vS, (.ref a1)])) rfl rfl (D d39_20)
  have N10 := Fr.snoc X10 N6 g_a1
  have O10 : Old Z n0 h10 := O6.wr W10 g_a1
  have K10 : Keep h0 h10 [a1] := K6.wr W10 (Or.inl (List.mem_of_getElem? (i := 0) rfl))
  have Fw10 := ft9.same W10
  refine zst 23 #[rv a1, rv m1] [] st10 ?_
  refine zan 24 X10 hx (D d39_23) rfl rfl ?_
  have ft12 := (ft8.wr W10)
  have ft13 := (Unt.wr W10 (Unt.wr W6 (Unt.wr W2 U_a1)))
  have ft14 := (((F_a1_backtrace.other W2 (Or.inr (slot_ne (Or.inl (ww hw 234 rfl)) (Or.inl (ww hw 203 rfl)) (by decide) (t := (.object "java/lang/Object")) (t' := (.object "java/lang/Throwable")) (by decide) (by decide)))).other W6 (Or.inr (slot_ne (Or.inl (ww hw 234 rfl)) (Or.inl (ww hw 206 rfl)) (by decide) (t := (.object "java/lang/Object")) (t' := (.array (.object "java/lang/StackTraceElement"))) (by decide) (by decide)))).other W10 (Or.inr (slot_ne (Or.inl (ww hw 234 rfl)) (Or.inl (ww hw 209 rfl)) (by decide) (t := (.object "java/lang/Object")) (t' := (.object "java/util/List")) (by decide) (by decide))))
  have ft15 := (Fw6.other W10 (Or.inr (slot_ne (Or.inl (ww hw 206 rfl)) (Or.inl (ww hw 209 rfl)) (by decide) (t := (.array (.object "java/lang/StackTraceElement"))) (t' := (.object "java/util/List")) (by decide) (by decide))))
  have ft16 := (((F_a1_detailMessage.other W2 (Or.inr (slot_ne (Or.inl (ww hw 233 rfl)) (Or.inl (ww hw 203 rfl)) (by decide) (t := (.object "java/lang/String")) (t' := (.object "java/lang/Throwable")) (by decide) (by decide)))).other W6 (Or.inr (slot_ne (Or.inl (ww hw 233 rfl)) (Or.inl (ww hw 206 rfl)) (by decide) (t := (.object "java/lang/String")) (t' := (.array (.object "java/lang/StackTraceElement"))) (by decide) (by decide)))).other W10 (Or.inr (slot_ne (Or.inl (ww hw 233 rfl)) (Or.inl (ww hw 209 rfl)) (by decide) (t := (.object "java/lang/String")) (t' := (.object "java/util/List")) (by decide) (by decide))))
  obtain ⟨T11, h11, L11, X11, e11, N11, K11, Ex11, Fm11, st11⟩ := own_fill X10 hx hlt hZ hown hw hh O0 hTK hBelow e10 g_a1 ft12 ft13 ft14 ft15 (S_vU.ext O10.2) r_vU ft16 K10 (by simp) (g := (mkF m 24 #[rv a1, rv m1] [(.ref a1)])) rfl (by rw [hml]; rfl) rfl (D d39_24) rfl (by decide) (by decide) (by decide) (by decide)
  have O11 : Old Z n0 h11 := O0.keep K11 (allS g_a1 all0)
  refine zst 27 #[rv a1, rv m1] [(.ref a1)] st11 ?_
  refine Go.st (f' := (mkF m 28 #[rv a1, rv m1] [])) (fun _ k => XS.pop X11.here hx rfl (D d39_27) rfl rfl k) ?_
  refine zan 29 X11 hx (D d39_28) rfl rfl ?_
  refine zan 30 X11 hx (D d39_29) rfl rfl ?_
  obtain ⟨T17, h17, X17, e17, W17, st17⟩ := putF X11 hx hZ hown (host := "") (Or.inl (ww hw 237 rfl)) Via.refl e11 Fm11 Ex11 (Or.inl (ww hw 233 rfl)) (ww hw 36 rfl) (ty := (.object "java/lang/String")) (by decide) rfl rfl (g := (mkF m 30 #[rv a1, rv m1] [(.ref m1), (.ref a1)])) rfl rfl (D d39_30)
  have N17 := Fr.snoc X17 N11 g_a1
  have O17 : Old Z n0 h17 := O11.wr W17 g_a1
  have K17 : Keep h0 h17 [a1] := K11.wr W17 (Or.inl (List.mem_of_getElem? (i := 0) rfl))
  have Fw17 := Fm11.same W17
  refine zst 33 #[rv a1, rv m1] [] st17 ?_
  refine Go.ret0 X17 hlk hx hret (D d39_33) e17 ?_ (by decide) (by decide)
  have ft18 := (Ex11.wr W17)
  exact ⟨rfl, N17, K17, ft18, Fw17⟩
theorem pn_java_lang_Exception : plainName "java/lang/Exception" = true := by first | (simp [plainName, overriddenIn]; done) | decide +kernel
theorem d38_0 : decode jdk_59_method_2_code 0 = .ok (.aload_n 0, 1) := by decide +kernel
theorem d38_1 : decode jdk_59_method_2_code 1 = .ok (.aload_n 1, 1) := by decide +kernel
theorem d38_2 : decode jdk_59_method_2_code 2 = .ok (.invokespecial 7, 3) := by decide +kernel
theorem d38_5 : decode jdk_59_method_2_code 5 = .ok (.return_, 1) := by decide +kernel
set_option maxRecDepth 65536 in
set_option maxHeartbeats 40000000 in
theorem rmE1 (l : Launch) (Z : State) (a0 : Array Value) (hw : ∀ d ∈ tables_1, d.before a0 Z = true) (ws : List Jvm.Cond) (a1 : Addr) (m1 : Addr) (wO : Addr) (wT : Addr) (kO : ClassId) (kT : ClassId) (iC : Int32) (vF : Value) (vU : Value) (vS : Value) (h0 : Heap) (n0 : Nat) (O0 : Old Z n0 h0) (hlt : l.stackTraces = true) (g_a1 : n0 ≤ a1) (U_a1 : Unt h0 a1) (E_a1 : Exa Z h0 a1 "com/example/hearsay_rules/hearsayrules/InvalidJsonException") (F_a1_cause : Fld Z h0 a1 "java/lang/Throwable" "cause" "Ljava/lang/Throwable;" .null) (F_a1_stackTrace : Fld Z h0 a1 "java/lang/Throwable" "stackTrace" "[Ljava/lang/StackTraceElement;" .null) (F_a1_suppressedExceptions : Fld Z h0 a1 "java/lang/Throwable" "suppressedExceptions" "Ljava/util/List;" .null) (F_a1_detailMessage : Fld Z h0 a1 "java/lang/Throwable" "detailMessage" "Ljava/lang/String;" .null) (F_a1_backtrace : Fld Z h0 a1 "java/lang/Throwable" "backtrace" "Ljava/lang/Object;" .null) (F_a1_depth : Fld Z h0 a1 "java/lang/Throwable" "depth" "I" (.int 0)) (WW : World1 Z wO wT kO kT iC vF vU vS) :
    ConK l Z mq50 jdk_59_method_2_code 2 none ws ({ frames := 4, cells := 1, slots := 2752, locals := 55 } : Room) #[(.ref a1), (.ref m1)] h0 (fun v h L => v = none ∧ Fr n0 L ∧ Keep h0 h [a1] ∧ Exa Z h a1 "com/example/hearsay_rules/hearsayrules/InvalidJsonException" ∧ Fld Z h a1 "java/lang/Throwable" "detailMessage" "Ljava/lang/String;" (.ref m1)) := by
  refine own_bodyK (plainFor_of_name pn_java_lang_Exception) ?_
  intro p e s m below meth c s₁ hx hby hml hZ hown hnm hlk hret X0 e0 hh hTK hBelow
  have N0 := Fr.nil n0
  have D := @hb _ _ hby
  have K0 : Keep h0 h0 [a1] := Keep.refl _ _
  refine Go.st (T' := s₁) (f' := (mkF m 0 #[rv a1, rv m1] [])) (fun _ k => castTop (by first | (simp [entryFrame, mkF, argsToLocals, Value.category]; done) | rfl) k) ?_
  have ⟨S_iC, nz_iC, S_vF, r_vF, S_vU, r_vU, S_vS, r_vS, S_wO, E_wO, S_wT, E_wT, V_wO, V_wT⟩ := WW
  have lt_wO := E_wO.lt
  have lt_wT := E_wT.lt
  have lt_a1 := E_a1.lt
  have ne_wO_a1 : wO ≠ a1 := O0.ne lt_wO g_a1
  have ne_wT_a1 : wT ≠ a1 := O0.ne lt_wT g_a1
  refine zan 1 X0 hx (D d38_0) rfl rfl ?_
  refine zan 2 X0 hx (D d38_1) rfl rfl ?_
  obtain ⟨_, _, ⟨T1, L1, kk1, nn1⟩, -, X1, ⟨Lc1, hQ1, lq1, yq1, zz1⟩, st1⟩ := X0.specialBack hx (y := mq49) rfl hown (mvT hZ (ww hw 195 rfl)) (mvT hZ (ww hw 196 rfl)) (mvT hZ (ww hw 200 rfl)) (by decide) (own_backK (W := 0) (rmE0 l Z a0 hw [] a1 m1 wO wT kO kT iC vF vU vS h0 n0 O0 hlt g_a1 U_a1 E_a1 F_a1_cause F_a1_stackTrace F_a1_suppressedExceptions F_a1_detailMessage F_a1_backtrace F_a1_depth WW) hZ (ww hw 200 rfl) (ww hw 199 rfl) (by decide) (by decide) hTK hBelow) (g := (mkF m 2 #[rv a1, rv m1] [(.ref m1), (.ref a1)])) rfl (by rw [hml]; rfl) (Steps.refl _) (a := a1) (argsL := [(.ref m1)]) (rest := []) (lenOf pd__Ljava_lang_String__V rfl) rfl (by show 2 * 0 + _ ≤ _; exact Nat.le_of_eq rfl) (D d38_2) (fun _ _ => ⟨rfl, e0, (by decide : 0 + 1 ≤ _), (by decide : 0 + 2752 ≤ _)⟩)
  dsimp only [Pt.U, Pt.locs, Pt.cells, Pt.slots] at X1 lq1 yq1 zz1 st1 hQ1
  subst lq1 yq1 zz1
  obtain ⟨rfl, Nq1, kq1, eq1, fq1⟩ := hQ1
  have N1 := Fr.app N0 Nq1
  have O1 : Old Z n0 T1.heap := O0.keep kq1 (allS g_a1 all0)
  have K1 : Keep h0 T1.heap [a1] := K0.trans kq1 (allS (Or.inl (List.mem_of_getElem? (i := 0) rfl)) all0)
  refine Go.tr (f' := (mkF m 5 #[rv a1, rv m1] [])) st1 ?_
  refine Go.ret0 X1 hlk hx hret (D d38_5) rfl ?_ (by decide) (by decide)
  exact ⟨rfl, N1, K1, eq1, fq1⟩
theorem pn_com_example_hearsay_rules_hearsayrules_InvalidJsonException : plainName "com/example/hearsay_rules/hearsayrules/InvalidJsonException" = true := by first | (simp [plainName, overriddenIn]; done) | decide +kernel
theorem d37_0 : decode prog_16_method_1_code 0 = .ok (.aload_n 0, 1) := by decide +kernel
theorem d37_1 : decode prog_16_method_1_code 1 = .ok (.aload_n 1, 1) := by decide +kernel
theorem d37_2 : decode prog_16_method_1_code 2 = .ok (.invokespecial 1, 3) := by decide +kernel
theorem d37_5 : decode prog_16_method_1_code 5 = .ok (.return_, 1) := by decide +kernel
set_option maxRecDepth 65536 in
set_option maxHeartbeats 40000000 in
theorem rmE2 (l : Launch) (Z : State) (a0 : Array Value) (hw : ∀ d ∈ tables_1, d.before a0 Z = true) (ws : List Jvm.Cond) (a1 : Addr) (m1 : Addr) (wO : Addr) (wT : Addr) (kO : ClassId) (kT : ClassId) (iC : Int32) (vF : Value) (vU : Value) (vS : Value) (h0 : Heap) (n0 : Nat) (O0 : Old Z n0 h0) (hlt : l.stackTraces = true) (g_a1 : n0 ≤ a1) (U_a1 : Unt h0 a1) (E_a1 : Exa Z h0 a1 "com/example/hearsay_rules/hearsayrules/InvalidJsonException") (F_a1_cause : Fld Z h0 a1 "java/lang/Throwable" "cause" "Ljava/lang/Throwable;" .null) (F_a1_stackTrace : Fld Z h0 a1 "java/lang/Throwable" "stackTrace" "[Ljava/lang/StackTraceElement;" .null) (F_a1_suppressedExceptions : Fld Z h0 a1 "java/lang/Throwable" "suppressedExceptions" "Ljava/util/List;" .null) (F_a1_detailMessage : Fld Z h0 a1 "java/lang/Throwable" "detailMessage" "Ljava/lang/String;" .null) (F_a1_backtrace : Fld Z h0 a1 "java/lang/Throwable" "backtrace" "Ljava/lang/Object;" .null) (F_a1_depth : Fld Z h0 a1 "java/lang/Throwable" "depth" "I" (.int 0)) (WW : World1 Z wO wT kO kT iC vF vU vS) :
    ConK l Z mq51 prog_16_method_1_code 2 none ws ({ frames := 5, cells := 1, slots := 2752, locals := 68 } : Room) #[(.ref a1), (.ref m1)] h0 (fun v h L => v = none ∧ Fr n0 L ∧ Keep h0 h [a1] ∧ Exa Z h a1 "com/example/hearsay_rules/hearsayrules/InvalidJsonException" ∧ Fld Z h a1 "java/lang/Throwable" "detailMessage" "Ljava/lang/String;" (.ref m1)) := by
  refine own_bodyK (plainFor_of_name pn_com_example_hearsay_rules_hearsayrules_InvalidJsonException) ?_
  intro p e s m below meth c s₁ hx hby hml hZ hown hnm hlk hret X0 e0 hh hTK hBelow
  have N0 := Fr.nil n0
  have D := @hb _ _ hby
  have K0 : Keep h0 h0 [a1] := Keep.refl _ _
  refine Go.st (T' := s₁) (f' := (mkF m 0 #[rv a1, rv m1] [])) (fun _ k => castTop (by first | (simp [entryFrame, mkF, argsToLocals, Value.category]; done) | rfl) k) ?_
  have ⟨S_iC, nz_iC, S_vF, r_vF, S_vU, r_vU, S_vS, r_vS, S_wO, E_wO, S_wT, E_wT, V_wO, V_wT⟩ := WW
  have lt_wO := E_wO.lt
  have lt_wT := E_wT.lt
  have lt_a1 := E_a1.lt
  have ne_wO_a1 : wO ≠ a1 := O0.ne lt_wO g_a1
  have ne_wT_a1 : wT ≠ a1 := O0.ne lt_wT g_a1
  refine zan 1 X0 hx (D d37_0) rfl rfl ?_
  refine zan 2 X0 hx (D d37_1) rfl rfl ?_
  obtain ⟨_, _, ⟨T1, L1, kk1, nn1⟩, -, X1, ⟨Lc1, hQ1, lq1, yq1, zz1⟩, st1⟩ := X0.specialBack hx (y := mq50) rfl hown (mvT hZ (ww hw 190 rfl)) (mvT hZ (ww hw 191 rfl)) (mvT hZ (ww hw 194 rfl)) (by decide) (own_backK (W := 0) (rmE1 l Z a0 hw [] a1 m1 wO wT kO kT iC vF vU vS h0 n0 O0 hlt g_a1 U_a1 E_a1 F_a1_cause F_a1_stackTrace F_a1_suppressedExceptions F_a1_detailMessage F_a1_backtrace F_a1_depth WW) hZ (ww hw 194 rfl) (ww hw 193 rfl) (by decide) (by decide) hTK hBelow) (g := (mkF m 2 #[rv a1, rv m1] [(.ref m1), (.ref a1)])) rfl (by rw [hml]; rfl) (Steps.refl _) (a := a1) (argsL := [(.ref m1)]) (rest := []) (lenOf pd__Ljava_lang_String__V rfl) rfl (by show 2 * 0 + _ ≤ _; exact Nat.le_of_eq rfl) (D d37_2) (fun _ _ => ⟨rfl, e0, (by decide : 0 + 1 ≤ _), (by decide : 0 + 2752 ≤ _)⟩)
  dsimp only [Pt.U, Pt.locs, Pt.cells, Pt.slots] at X1 lq1 yq1 zz1 st1 hQ1
  subst lq1 yq1 zz1
  obtain ⟨rfl, Nq1, kq1, eq1, fq1⟩ := hQ1
  have N1 := Fr.app N0 Nq1
  have O1 : Old Z n0 T1.heap := O0.keep kq1 (allS g_a1 all0)
  have K1 : Keep h0 T1.heap [a1] := K0.trans kq1 (allS (Or.inl (List.mem_of_getElem? (i := 0) rfl)) all0)
  refine Go.tr (f' := (mkF m 5 #[rv a1, rv m1] [])) st1 ?_
  refine Go.ret0 X1 hlk hx hret (D d37_5) rfl ?_ (by decide) (by decide)
  exact ⟨rfl, N1, K1, eq1, fq1⟩
/-- a part of a list -/
def Seg (L S : List Value) (o : Nat) : Prop := o + S.length ≤ L.length ∧ ∀ j, j < S.length → ∀ d, L.getD (o + j) d = S.getD j d
theorem seg_last (A S : List Value) : Seg (A ++ S) S A.length := ⟨by simp, fun j h d => by simp only [List.getD_eq_getElem?_getD]; rw [List.getElem?_append_right (by omega), Nat.add_sub_cancel_left]⟩
theorem seg_app {L S : List Value} {o : Nat} (h : Seg L S o) (B : List Value) : Seg (L ++ B) S o := ⟨by have := h.1; simp only [List.length_append]; omega, fun j hj d => by
  have := h.1
  rw [← h.2 j hj d]; simp only [List.getD_eq_getElem?_getD]; rw [List.getElem?_append_left (by omega)]⟩
theorem seg_at {L S : List Value} {o o' : Nat} (h : Seg L S o) (e : o = o') : Seg L S o' := e ▸ h
/-- the message -/
def ML (x y : Int32) (nm : List Value) : List Value := ((((((([] : List Value) ++ [(Value.int (108 : Int32)), (Value.int (105 : Int32)), (Value.int (110 : Int32)), (Value.int (101 : Int32)), (Value.int (32 : Int32))]) ++ dsL x) ++ [(Value.int (44 : Int32)), (Value.int (32 : Int32)), (Value.int (99 : Int32)), (Value.int (111 : Int32)), (Value.int (108 : Int32)), (Value.int (117 : Int32)), (Value.int (109 : Int32)), (Value.int (110 : Int32)), (Value.int (32 : Int32))]) ++ dsL y) ++ [(Value.int (58 : Int32)), (Value.int (32 : Int32))]) ++ nm)
theorem ml_len (x y : Int32) (nm : List Value) : (ML x y nm).length = 5 + (dsL x).length + 9 + (dsL y).length + 2 + nm.length := by
  unfold ML; simp only [List.length_append, List.length_cons, List.length_nil] <;> omega
theorem ml_a (x y : Int32) (nm : List Value) : Seg (ML x y nm) [(Value.int (108 : Int32)), (Value.int (105 : Int32)), (Value.int (110 : Int32)), (Value.int (101 : Int32)), (Value.int (32 : Int32))] 0 := by
  unfold ML; exact seg_app (seg_app (seg_app (seg_app (seg_app (seg_last [] _) _) _) _) _) _
theorem ml_x (x y : Int32) (nm : List Value) : Seg (ML x y nm) (dsL x) 5 := by
  unfold ML; exact seg_app (seg_app (seg_app (seg_app (seg_last (([] : List Value) ++ [(Value.int (108 : Int32)), (Value.int (105 : Int32)), (Value.int (110 : Int32)), (Value.int (101 : Int32)), (Value.int (32 : Int32))]) _) _) _) _) _
theorem ml_c (x y : Int32) (nm : List Value) : Seg (ML x y nm) [(Value.int (44 : Int32)), (Value.int (32 : Int32)), (Value.int (99 : Int32)), (Value.int (111 : Int32)), (Value.int (108 : Int32)), (Value.int (117 : Int32)), (Value.int (109 : Int32)), (Value.int (110 : Int32)), (Value.int (32 : Int32))] (5 + (dsL x).length) := by
  unfold ML; exact seg_app (seg_app (seg_app (seg_at (seg_last _ _) (by simp only [List.length_append, List.length_cons, List.length_nil] <;> omega)) _) _) _
theorem ml_y (x y : Int32) (nm : List Value) : Seg (ML x y nm) (dsL y) (5 + (dsL x).length + 9) := by
  unfold ML; exact seg_app (seg_app (seg_at (seg_last _ _) (by simp only [List.length_append, List.length_cons, List.length_nil] <;> omega)) _) _
theorem ml_s (x y : Int32) (nm : List Value) : Seg (ML x y nm) [(Value.int (58 : Int32)), (Value.int (32 : Int32))] (5 + (dsL x).length + 9 + (dsL y).length) := by
  unfold ML; exact seg_app (seg_at (seg_last _ _) (by simp only [List.length_append, List.length_cons, List.length_nil] <;> omega)) _
theorem ml_n (x y : Int32) (nm : List Value) : Seg (ML x y nm) nm (5 + (dsL x).length + 9 + (dsL y).length + 2) := by
  unfold ML; exact seg_at (seg_last _ _) (by simp only [List.length_append, List.length_cons, List.length_nil] <;> omega)
theorem d7_0 : decode prog_16_method_2_code 0 = .ok (.new 7, 3) := by decide +kernel
theorem d7_3 : decode prog_16_method_2_code 3 = .ok (.dup, 1) := by decide +kernel
theorem d7_4 : decode prog_16_method_2_code 4 = .ok (.new 9, 3) := by decide +kernel
theorem d7_7 : decode prog_16_method_2_code 7 = .ok (.dup, 1) := by decide +kernel
theorem d7_8 : decode prog_16_method_2_code 8 = .ok (.invokespecial 11, 3) := by decide +kernel
theorem pd___V : parseMethodDescriptor "()V" = some ⟨[], none⟩ := by decide +kernel
theorem d7_11 : decode prog_16_method_2_code 11 = .ok (.ldc 14, 2) := by decide +kernel
theorem d7_13 : decode prog_16_method_2_code 13 = .ok (.invokevirtual 16, 3) := by decide +kernel
theorem pd__Ljava_lang_String__Ljava_lang_StringBuilder_ : parseMethodDescriptor "(Ljava/lang/String;)Ljava/lang/StringBuilder;" = some ⟨[(.object "java/lang/String")], some (.object "java/lang/StringBuilder")⟩ := by decide +kernel
theorem d7_16 : decode prog_16_method_2_code 16 = .ok (.iload_n 0, 1) := by decide +kernel
theorem d7_17 : decode prog_16_method_2_code 17 = .ok (.invokevirtual 20, 3) := by decide +kernel
theorem pd__I_Ljava_lang_StringBuilder_ : parseMethodDescriptor "(I)Ljava/lang/StringBuilder;" = some ⟨[.int], some (.object "java/lang/StringBuilder")⟩ := by decide +kernel
theorem d7_20 : decode prog_16_method_2_code 20 = .ok (.ldc 23, 2) := by decide +kernel
theorem d7_22 : decode prog_16_method_2_code 22 = .ok (.invokevirtual 16, 3) := by decide +kernel
theorem d7_25 : decode prog_16_method_2_code 25 = .ok (.iload_n 1, 1) := by decide +kernel
theorem d7_26 : decode prog_16_method_2_code 26 = .ok (.invokevirtual 20, 3) := by decide +kernel
theorem d7_29 : decode prog_16_method_2_code 29 = .ok (.ldc 25, 2) := by decide +kernel
theorem d7_31 : decode prog_16_method_2_code 31 = .ok (.invokevirtual 16, 3) := by decide +kernel
theorem d7_34 : decode prog_16_method_2_code 34 = .ok (.aload_n 2, 1) := by decide +kernel
theorem d7_35 : decode prog_16_method_2_code 35 = .ok (.invokevirtual 16, 3) := by decide +kernel
theorem d7_38 : decode prog_16_method_2_code 38 = .ok (.invokevirtual 27, 3) := by decide +kernel
theorem pd___Ljava_lang_String_ : parseMethodDescriptor "()Ljava/lang/String;" = some ⟨[], some (.object "java/lang/String")⟩ := by decide +kernel
theorem d7_41 : decode prog_16_method_2_code 41 = .ok (.invokespecial 31, 3) := by decide +kernel
theorem d7_44 : decode prog_16_method_2_code 44 = .ok (.areturn, 1) := by decide +kernel
set_option maxRecDepth 65536 in
set_option maxHeartbeats 40000000 in
theorem rmAt (l : Launch) (Z : State) (a0 : Array Value) (hw : ∀ d ∈ tables_1, d.before a0 Z = true) (ws : List Jvm.Cond) (x : Int32) (y : Int32) (m1 : Addr) (t1 : Addr) (k1 : ClassId) (n1 : Int32) (es1 : List Value) (wO : Addr) (wT : Addr) (kO : ClassId) (kT : ClassId) (iC : Int32) (vF : Value) (vU : Value) (vS : Value) (h0 : Heap) (n0 : Nat) (O0 : Old Z n0 h0) (hlt : l.stackTraces = true) (l1 : Ln n1 es1) (z1 : es1.length ≤ 3) (E_m1 : Exa Z h0 m1 "java/lang/String") (F_m1_coder : Fld Z h0 m1 "java/lang/String" "coder" "B" (.int 0)) (F_m1_value : Fld Z h0 m1 "java/lang/String" "value" "[B" (.ref t1)) (V_t1 : Arv Z h0 t1 k1 .byte n1 es1 (.int 0)) (WW : World1 Z wO wT kO kT iC vF vU vS) :
    ConX l Z EL mq52 prog_16_method_2_code 3 (some (.object "com/example/hearsay_rules/hearsayrules/InvalidJsonException")) ws ({ frames := 6, cells := 18, slots := 4258, locals := 95 } : Room) #[(.int x), (.int y), (.ref m1)] h0 (fun v h L => ∃ (b r t : Addr) (kt : ClassId) (n : Int32), v = some (.ref b) ∧ Fr n0 L ∧ h0.size ≤ b ∧ h0.size ≤ r ∧ Keep h0 h [] ∧ Exa Z h b "com/example/hearsay_rules/hearsayrules/InvalidJsonException" ∧ Fld Z h b "java/lang/Throwable" "detailMessage" "Ljava/lang/String;" (.ref r) ∧ Exa Z h r "java/lang/String" ∧ Fld Z h r "java/lang/String" "coder" "B" (.int 0) ∧ Fld Z h r "java/lang/String" "value" "[B" (.ref t) ∧ Arv Z h t kt .byte n (ML x y es1) (.int 0) ∧ Ln n (ML x y es1)) := by
  refine own_bodyX (plainFor_of_name pn_com_example_hearsay_rules_hearsayrules_InvalidJsonException) ?_
  intro p e s m below meth c s₁ hx hby hml hZ hown hnm hlk hret X0 e0 hh hS CR0 hTK hBelow
  have hZ0 := hZ
  have hEL := own_EL hw
  have wS := own_wS hw
  have N0 := Fr.nil n0
  have D := @hb _ _ hby
  have K0 : Keep h0 h0 [] := Keep.refl _ _
  refine Go.st (T' := s₁) (f' := (mkF m 0 #[iv x, iv y, rv m1] [])) (fun _ k => castTop (by first | (simp [entryFrame, mkF, argsToLocals, Value.category]; done) | rfl) k) ?_
  have ⟨S_iC, nz_iC, S_vF, r_vF, S_vU, r_vU, S_vS, r_vS, S_wO, E_wO, S_wT, E_wT, V_wO, V_wT⟩ := WW
  have lt_wO := E_wO.lt
  have lt_wT := E_wT.lt
  have db := dsL_b x
  have dv := dsL_b y
  have lt_m1 := E_m1.lt
  have lt_t1 := V_t1.lt
  have nt_m1_t1 : m1 ≠ t1 := Exa.neArv E_m1 V_t1 (ww hw 2 rfl)
  have lk0 : Ln (5 : Int32) [(Value.int (108 : Int32)), (Value.int (105 : Int32)), (Value.int (110 : Int32)), (Value.int (101 : Int32)), (Value.int (32 : Int32))] := ⟨by decide, by decide⟩
  have lk1 : Ln (9 : Int32) [(Value.int (44 : Int32)), (Value.int (32 : Int32)), (Value.int (99 : Int32)), (Value.int (111 : Int32)), (Value.int (108 : Int32)), (Value.int (117 : Int32)), (Value.int (109 : Int32)), (Value.int (110 : Int32)), (Value.int (32 : Int32))] := ⟨by decide, by decide⟩
  have lk2 : Ln (2 : Int32) [(Value.int (58 : Int32)), (Value.int (32 : Int32))] := ⟨by decide, by decide⟩
  obtain ⟨T1, h1, X1, e1, E1, A1, D1, Un1, st1⟩ := newO X0 hx hZ hown (ww hw 35 rfl) (ww hw 36 rfl) (ww hw 33 rfl) e0 (g := (mkF m 0 #[iv x, iv y, rv m1] [])) rfl (D d7_0) (by decide) (by decide)
  obtain ⟨b1, g1⟩ : ∃ z, z = h0.size := ⟨_, rfl⟩
  rw [← g1] at A1 D1 Un1 st1
  have ne_m1_b1 : m1 ≠ b1 := Nat.ne_of_lt (Nat.lt_of_lt_of_eq lt_m1 g1.symm)
  have ne_t1_b1 : t1 ≠ b1 := Nat.ne_of_lt (Nat.lt_of_lt_of_eq lt_t1 g1.symm)
  have ne_wO_b1 : wO ≠ b1 := Nat.ne_of_lt (Nat.lt_of_lt_of_le lt_wO (Nat.le_trans O0.2.1 (Nat.le_of_eq g1.symm)))
  have ne_wT_b1 : wT ≠ b1 := Nat.ne_of_lt (Nat.lt_of_lt_of_le lt_wT (Nat.le_trans O0.2.1 (Nat.le_of_eq g1.symm)))
  have g_b1 : n0 ≤ b1 := Nat.le_trans (O0.1 ▸ O0.2.1) (Nat.le_of_eq g1.symm)
  have O1 : Old Z n0 h1 := O0.ext E1
  have sz_b1 : h0.size ≤ b1 := Nat.le_trans K0.1 (Nat.le_of_eq g1.symm)
  have K1 : Keep h0 h1 [] := K0.ext E1
  have CR1 : CHr Z EL s.vm h0 s.vm h1 := CR0.trans (CHr.ext E1 CR0.1)
  have sf_b1 : Safe Z EL s.vm h1 b1 := (Safe.new (Nat.le_of_eq g1.symm)).ext E1 CR0.1
  have lt_b1 := A1.lt
  have F_cause_b1 : Fld Z h1 b1 "java/lang/Throwable" "cause" "Ljava/lang/Throwable;" .null := D1 (Or.inl (ww hw 203 rfl)) (ty := (.object "java/lang/Throwable")) (by decide)
  have F_stackTrace_b1 : Fld Z h1 b1 "java/lang/Throwable" "stackTrace" "[Ljava/lang/StackTraceElement;" .null := D1 (Or.inl (ww hw 206 rfl)) (ty := (.array (.object "java/lang/StackTraceElement"))) (by decide)
  have F_suppressedExceptions_b1 : Fld Z h1 b1 "java/lang/Throwable" "suppressedExceptions" "Ljava/util/List;" .null := D1 (Or.inl (ww hw 209 rfl)) (ty := (.object "java/util/List")) (by decide)
  have F_detailMessage_b1 : Fld Z h1 b1 "java/lang/Throwable" "detailMessage" "Ljava/lang/String;" .null := D1 (Or.inl (ww hw 233 rfl)) (ty := (.object "java/lang/String")) (by decide)
  have F_backtrace_b1 : Fld Z h1 b1 "java/lang/Throwable" "backtrace" "Ljava/lang/Object;" .null := D1 (Or.inl (ww hw 234 rfl)) (ty := (.object "java/lang/Object")) (by decide)
  have F_depth_b1 : Fld Z h1 b1 "java/lang/Throwable" "depth" "I" (.int (0 : Int32)) := D1 (Or.inl (ww hw 235 rfl)) (ty := .int) (by decide)
  refine zst 3 #[iv x, iv y, rv m1] [(.ref b1)] st1 ?_
  refine Go.st (f' := (mkF m 4 #[iv x, iv y, rv m1] [(.ref b1), (.ref b1)])) (fun _ k => XS.dup X1.here hx rfl (D d7_3) rfl rfl k) ?_
  obtain ⟨T2, h2, X2, e2, E2, A2, D2, -, st2⟩ := newO X1 hx hZ hown (ww hw 37 rfl) (ww hw 38 rfl) (ww hw 39 rfl) e1 (g := (mkF m 4 #[iv x, iv y, rv m1] [(.ref b1), (.ref b1)])) rfl (D d7_4) (by decide) (by decide)
  obtain ⟨b2, g2⟩ : ∃ z, z = h1.size := ⟨_, rfl⟩
  rw [← g2] at A2 D2 st2
  have ft3 := (Nat.lt_of_lt_of_le lt_m1 E1.1)
  have ne_m1_b2 : m1 ≠ b2 := Nat.ne_of_lt (Nat.lt_of_lt_of_eq ft3 g2.symm)
  have ft4 := (Nat.lt_of_lt_of_le lt_t1 E1.1)
  have ne_t1_b2 : t1 ≠ b2 := Nat.ne_of_lt (Nat.lt_of_lt_of_eq ft4 g2.symm)
  have ne_b1_b2 : b1 ≠ b2 := Nat.ne_of_lt (Nat.lt_of_lt_of_eq lt_b1 g2.symm)
  have ne_wO_b2 : wO ≠ b2 := Nat.ne_of_lt (Nat.lt_of_lt_of_le lt_wO (Nat.le_trans O1.2.1 (Nat.le_of_eq g2.symm)))
  have ne_wT_b2 : wT ≠ b2 := Nat.ne_of_lt (Nat.lt_of_lt_of_le lt_wT (Nat.le_trans O1.2.1 (Nat.le_of_eq g2.symm)))
  have g_b2 : n0 ≤ b2 := Nat.le_trans (O1.1 ▸ O1.2.1) (Nat.le_of_eq g2.symm)
  have O2 : Old Z n0 h2 := O1.ext E2
  have sz_b2 : h0.size ≤ b2 := Nat.le_trans K1.1 (Nat.le_of_eq g2.symm)
  have K2 : Keep h0 h2 [] := K1.ext E2
  have CR2 : CHr Z EL s.vm h0 s.vm h2 := CR1.trans (CHr.ext E2 CR1.1)
  have sf_b2 : Safe Z EL s.vm h2 b2 := (Safe.new (Nat.le_of_eq g2.symm)).ext E2 CR1.1
  have lt_b2 := A2.lt
  have F_value_b2 : Fld Z h2 b2 "java/lang/AbstractStringBuilder" "value" "[B" .null := D2 (Or.inl (ww hw 52 rfl)) (ty := (.array .byte)) (by decide)
  have F_coder_b2 : Fld Z h2 b2 "java/lang/AbstractStringBuilder" "coder" "B" (.int (0 : Int32)) := D2 (Or.inl (ww hw 54 rfl)) (ty := .byte) (by decide)
  have F_count_b2 : Fld Z h2 b2 "java/lang/AbstractStringBuilder" "count" "I" (.int (0 : Int32)) := D2 (Or.inl (ww hw 79 rfl)) (ty := .int) (by decide)
  refine zst 7 #[iv x, iv y, rv m1] [(.ref b2), (.ref b1), (.ref b1)] st2 ?_
  refine Go.st (f' := (mkF m 8 #[iv x, iv y, rv m1] [(.ref b2), (.ref b2), (.ref b1), (.ref b1)])) (fun _ k => XS.dup X2.here hx rfl (D d7_7) rfl rfl k) ?_
  obtain ⟨_, _, ⟨T5, L5, kk5, nn5⟩, -, X5, ⟨Lc5, hQ5, lq5, yq5, zz5⟩, st5⟩ := X2.specialBack hx (y := mq33) rfl hown (mvT hZ (ww hw 40 rfl)) (mvT hZ (ww hw 41 rfl)) (mvT hZ (ww hw 42 rfl)) (by decide) (own_back (W := 3) (gc2 l Z a0 hw [] b2 wO wT kO kT iC vF vU vS h2 n0 O2 g_b2 A2 F_coder_b2 F_value_b2 F_count_b2 WW) hZ (ww hw 42 rfl) (ww hw 39 rfl) (by decide) (by decide)) (g := (mkF m 8 #[iv x, iv y, rv m1] [(.ref b2), (.ref b2), (.ref b1), (.ref b1)])) rfl (by rw [hml]; rfl) (Steps.refl _) (a := b2) (argsL := []) (rest := [(.ref b2), (.ref b1), (.ref b1)]) (lenOf pd___V rfl) rfl (by show 2 * 0 + _ ≤ _; exact Nat.le_of_eq rfl) (D d7_8) (fun _ _ => ⟨rfl, e2, (by decide : 2 + 1 ≤ _), (by decide : 10 + 16 ≤ _)⟩)
  dsimp only [Pt.U, Pt.locs, Pt.cells, Pt.slots] at X5 lq5 yq5 zz5 st5 hQ5
  subst lq5 yq5 zz5
  obtain ⟨rfl, Nq5, kq5, eq5, cq5, nq5, tt5, kt5, zq5, fq5, xq5, vq5⟩ := hQ5
  have N5 := Fr.app N0 Nq5
  have ft6 := (Nat.lt_of_lt_of_le ft3 E2.1)
  have ne_m1_tt5 : m1 ≠ tt5 := Nat.ne_of_lt (Nat.lt_of_lt_of_le ft6 zq5)
  have ft7 := (Nat.lt_of_lt_of_le ft4 E2.1)
  have ne_t1_tt5 : t1 ≠ tt5 := Nat.ne_of_lt (Nat.lt_of_lt_of_le ft7 zq5)
  have ft8 := (Nat.lt_of_lt_of_le lt_b1 E2.1)
  have ne_b1_tt5 : b1 ≠ tt5 := Nat.ne_of_lt (Nat.lt_of_lt_of_le ft8 zq5)
  have ne_b2_tt5 : b2 ≠ tt5 := Nat.ne_of_lt (Nat.lt_of_lt_of_le lt_b2 zq5)
  have ne_wO_tt5 : wO ≠ tt5 := Nat.ne_of_lt (Nat.lt_of_lt_of_le lt_wO (Nat.le_trans O2.2.1 zq5))
  have ne_wT_tt5 : wT ≠ tt5 := Nat.ne_of_lt (Nat.lt_of_lt_of_le lt_wT (Nat.le_trans O2.2.1 zq5))
  have g_tt5 : n0 ≤ tt5 := Nat.le_trans (O2.1 ▸ O2.2.1) zq5
  have sz_tt5 : h0.size ≤ tt5 := Nat.le_trans K2.1 zq5
  have sn_tt5 : Safe Z EL s.vm h2 tt5 := Safe.new zq5
  have O5 : Old Z n0 T5.heap := O2.keep kq5 (allS g_b2 all0)
  have CR5 : CHr Z EL s.vm h0 s.vm T5.heap := CR2.trans (CHr.keep kq5 (sfS sf_b2 sf0) CR2.1)
  have K5 : Keep h0 T5.heap [] := K2.trans kq5 (allS (Or.inr sz_b2) all0)
  have lt_tt5 := vq5.lt
  have ln5 : Ln (0 : Int32) [] := ⟨by decide, by decide⟩
  have bd5 : Bd (0 : Int32) (16 : Int32) := ⟨by decide, by decide, by decide⟩
  refine Go.tr (f' := (mkF m 11 #[iv x, iv y, rv m1] [(.ref b2), (.ref b1), (.ref b1)])) st5 ?_
  obtain ⟨b9, T9, h9, k19, t9, kt9, X9, e9, E9, hS9, hk9, hZ9, hown9, A9, cq9, fq9, vq9, lt_b9, lt_t9, crw9, -, sfx9, st9⟩ := ldcCH (EL := EL) X5 hx hZ hown (ww hw 55 rfl) wS rfl hS (Nat.zero_le _) hEL (List.mem_of_getElem? (i := 0) rfl) CR5.1 (vs := [(.int (108 : Int32)), (.int (105 : Int32)), (.int (110 : Int32)), (.int (101 : Int32)), (.int (32 : Int32))]) (z := (5 : Int32)) ⟨by decide, by decide⟩ (by decide) rfl (g := (mkF m 11 #[iv x, iv y, rv m1] [(.ref b2), (.ref b1), (.ref b1)])) rfl (D d7_11) (n := 20) (by decide) (by decide) (by decide) (by decide)
  have ft10 := (Safe.keep kq5 (sfS sf_b2 sf0) CR2.1 (Safe.ext E2 CR1.1 sf_b1))
  have ft11 := (Nat.lt_of_lt_of_le ft8 kq5.1)
  have ft12 := (Safe.keep kq5 (sfS sf_b2 sf0) CR2.1 sf_b2)
  have ft13 := (Nat.lt_of_lt_of_le lt_b2 kq5.1)
  have ft14 := (Safe.keep kq5 (sfS sf_b2 sf0) CR2.1 sn_tt5)
  have O9 : Old Z n0 h9 := O5.ext E9
  have K9 : Keep h0 h9 [] := K5.ext E9
  have sf15 := crw9.safe ft11 ft10
  have sf16 := crw9.safe ft13 ft12
  have sf17 := crw9.safe lt_tt5 ft14
  have CR9 := CR5.trans crw9
  refine zst 13 #[iv x, iv y, rv m1] [(.ref b9), (.ref b2), (.ref b1), (.ref b1)] st9 ?_
  have ft19 := (eq5.ext E9)
  have ft20 := (cq5.ext E9)
  have ft21 := (fq5.ext E9)
  have ft22 := (nq5.ext E9)
  have ft23 := (xq5.ext E9)
  have ft24 := (vq5.ext E9)
  refine gV 16 2 6 250 X9 N5 hx hZ9 (y := mq27) hown9 hml (ww hw 58 rfl) (ww hw 59 rfl) (ww hw 61 rfl) (ww hw 60 rfl) (gbs l Z a0 hw [] b2 b9 t9 kt9 (5 : Int32) [(.int (108 : Int32)), (.int (105 : Int32)), (.int (110 : Int32)), (.int (101 : Int32)), (.int (32 : Int32))] tt5 kt5 (16 : Int32) (0 : Int32) [] wO wT kO kT iC vF vU vS h9 n0 O9 ln5 bd5 lk0 (by decide) g_b2 g_tt5 ft19 ft20 ft21 ft22 A9 cq9 fq9 vq9 ft23 ft24 WW) (ww hw 62 rfl) (ww hw 39 rfl) e9 ft19 [(.ref b9)] [(.ref b1), (.ref b1)] (lenOf pd__Ljava_lang_String__Ljava_lang_StringBuilder_ rfl) (D d7_13) ?_
  rintro T18 L18 M18 _ X18 uu18 ⟨rfl, Nq18, kq18, eq18, cq18, nq18, tt18, kt18, NN18, dz18, fq18, xq18, vq18, bd18⟩
  have N18 := uu18 Nq18
  have ft25 := (Nat.lt_of_lt_of_le (Nat.lt_of_lt_of_le ft6 kq5.1) E9.1)
  have ne_m1_tt18 : m1 ≠ tt18 := own_dn dz18 ne_m1_tt5 ft25
  have ft26 := (Nat.lt_of_lt_of_le (Nat.lt_of_lt_of_le ft7 kq5.1) E9.1)
  have ne_t1_tt18 : t1 ≠ tt18 := own_dn dz18 ne_t1_tt5 ft26
  have ft27 := (Nat.lt_of_lt_of_le ft11 E9.1)
  have ne_b1_tt18 : b1 ≠ tt18 := own_dn dz18 ne_b1_tt5 ft27
  have ft28 := (Nat.lt_of_lt_of_le ft13 E9.1)
  have ne_b2_tt18 : b2 ≠ tt18 := own_dn dz18 ne_b2_tt5 ft28
  have ne_b9_tt18 : b9 ≠ tt18 := own_dn dz18 (Ne.symm (sfx9 _ sf17).1) lt_b9
  have ne_t9_tt18 : t9 ≠ tt18 := own_dn dz18 (Ne.symm (sfx9 _ sf17).2) lt_t9
  have ne_wO_tt18 : wO ≠ tt18 := own_dn dz18 ne_wO_tt5 (Nat.lt_of_lt_of_le lt_wO O9.2.1)
  have ne_wT_tt18 : wT ≠ tt18 := own_dn dz18 ne_wT_tt5 (Nat.lt_of_lt_of_le lt_wT O9.2.1)
  have g_tt18 : n0 ≤ tt18 := own_dt dz18 g_tt5 (O9.1 ▸ O9.2.1)
  have sz_tt18 : h0.size ≤ tt18 := own_dt dz18 sz_tt5 K9.1
  have sn_tt18 : Safe Z EL T9.vm h9 tt18 := dz18.elim (fun q => by rw [q]; exact sf17) Safe.new
  have O18 : Old Z n0 T18.heap := O9.keep kq18 (allS g_b2 (allS g_tt5 all0))
  have CR18 : CHr Z EL s.vm h0 T9.vm T18.heap := CR9.trans (CHr.keep kq18 (sfS sf16 (sfS sf17 sf0)) CR9.1)
  have K18 : Keep h0 T18.heap [] := K9.trans kq18 (allS (Or.inr sz_b2) (allS (Or.inr sz_tt5) all0))
  have lt_tt18 := vq18.lt
  have ln18 := own_la ln5 lk0 (by decide)
  refine zsk [(.ref b2), (.ref b1), (.ref b1)] ?_
  refine zin 17 X18 hx (D d7_16) rfl ?_
  refine gV 20 2 7 450 X18 N18 hx hZ9 (y := mq31) hown9 hml (ww hw 105 rfl) (ww hw 106 rfl) (ww hw 108 rfl) (ww hw 107 rfl) (gbi l Z a0 hw [] b2 x tt18 kt18 NN18 ((0 : Int32) + (5 : Int32)) ([] ++ [(.int (108 : Int32)), (.int (105 : Int32)), (.int (110 : Int32)), (.int (101 : Int32)), (.int (32 : Int32))]) wO wT kO kT iC vF vU vS T18.heap n0 O18 ln18 bd18 (by decide) g_b2 g_tt18 eq18 cq18 fq18 nq18 xq18 vq18 WW) (ww hw 109 rfl) (ww hw 39 rfl) rfl eq18 [(.int x)] [(.ref b1), (.ref b1)] (lenOf pd__I_Ljava_lang_StringBuilder_ rfl) (D d7_17) ?_
  rintro T29 L29 M29 _ X29 uu29 ⟨cn29, ln29, rfl, Nq29, kq29, eq29, cq29, nq29, tt29, kt29, NN29, dz29, fq29, xq29, vq29, bd29⟩
  have N29 := uu29 Nq29
  have ft30 := (Nat.lt_of_lt_of_le ft25 kq18.1)
  have ne_m1_tt29 : m1 ≠ tt29 := own_dn dz29 ne_m1_tt18 ft30
  have ft31 := (Nat.lt_of_lt_of_le ft26 kq18.1)
  have ne_t1_tt29 : t1 ≠ tt29 := own_dn dz29 ne_t1_tt18 ft31
  have ft32 := (Nat.lt_of_lt_of_le ft27 kq18.1)
  have ne_b1_tt29 : b1 ≠ tt29 := own_dn dz29 ne_b1_tt18 ft32
  have ft33 := (Nat.lt_of_lt_of_le ft28 kq18.1)
  have ne_b2_tt29 : b2 ≠ tt29 := own_dn dz29 ne_b2_tt18 ft33
  have ft34 := (Nat.lt_of_lt_of_le lt_b9 kq18.1)
  have ne_b9_tt29 : b9 ≠ tt29 := own_dn dz29 ne_b9_tt18 ft34
  have ft35 := (Nat.lt_of_lt_of_le lt_t9 kq18.1)
  have ne_t9_tt29 : t9 ≠ tt29 := own_dn dz29 ne_t9_tt18 ft35
  have ne_wO_tt29 : wO ≠ tt29 := own_dn dz29 ne_wO_tt18 (Nat.lt_of_lt_of_le lt_wO O18.2.1)
  have ne_wT_tt29 : wT ≠ tt29 := own_dn dz29 ne_wT_tt18 (Nat.lt_of_lt_of_le lt_wT O18.2.1)
  have g_tt29 : n0 ≤ tt29 := own_dt dz29 g_tt18 (O18.1 ▸ O18.2.1)
  have sz_tt29 : h0.size ≤ tt29 := own_dt dz29 sz_tt18 K18.1
  have ft36 := (Safe.keep kq18 (sfS sf16 (sfS sf17 sf0)) CR9.1 sn_tt18)
  have sn_tt29 : Safe Z EL T9.vm T18.heap tt29 := dz29.elim (fun q => by rw [q]; exact ft36) Safe.new
  have O29 : Old Z n0 T29.heap := O18.keep kq29 (allS g_b2 (allS g_tt18 all0))
  have ft37 := (Safe.keep kq18 (sfS sf16 (sfS sf17 sf0)) CR9.1 sf16)
  have CR29 : CHr Z EL s.vm h0 T9.vm T29.heap := CR18.trans (CHr.keep kq29 (sfS ft37 (sfS ft36 sf0)) CR18.1)
  have K29 : Keep h0 T29.heap [] := K18.trans kq29 (allS (Or.inr sz_b2) (allS (Or.inr sz_tt18) all0))
  have lt_tt29 := vq29.lt
  refine zsk [(.ref b2), (.ref b1), (.ref b1)] ?_
  have ft39 := (Nat.le_trans (Nat.le_trans hk9 kq18.1) kq29.1)
  obtain ⟨b38, T38, h38, k138, t38, kt38, X38, e38, E38, hS38, hk38, hZ38, hown38, A38, cq38, fq38, vq38, lt_b38, lt_t38, crw38, -, sfx38, st38⟩ := ldcCH (EL := EL) X29 hx hZ9 hown9 (ww hw 127 rfl) wS rfl hS9 ft39 hEL (List.mem_of_getElem? (i := 1) rfl) CR29.1 (vs := [(.int (44 : Int32)), (.int (32 : Int32)), (.int (99 : Int32)), (.int (111 : Int32)), (.int (108 : Int32)), (.int (117 : Int32)), (.int (109 : Int32)), (.int (110 : Int32)), (.int (32 : Int32))]) (z := (9 : Int32)) ⟨by decide, by decide⟩ (by decide) rfl (g := (mkF m 20 #[iv x, iv y, rv m1] [(.ref b2), (.ref b1), (.ref b1)])) rfl (D d7_20) (n := 36) (by decide) (by decide) (by decide) (by decide)
  have ft40 := (Safe.keep kq29 (sfS ft37 (sfS ft36 sf0)) CR18.1 (Safe.keep kq18 (sfS sf16 (sfS sf17 sf0)) CR9.1 sf15))
  have ft41 := (Nat.lt_of_lt_of_le ft32 kq29.1)
  have ft42 := (Safe.keep kq29 (sfS ft37 (sfS ft36 sf0)) CR18.1 ft37)
  have ft43 := (Nat.lt_of_lt_of_le ft33 kq29.1)
  have ft44 := (Safe.keep kq29 (sfS ft37 (sfS ft36 sf0)) CR18.1 (Safe.keep kq18 (sfS sf16 (sfS sf17 sf0)) CR9.1 sf17))
  have ft45 := (Nat.lt_of_lt_of_le (Nat.lt_of_lt_of_le (Nat.lt_of_lt_of_le lt_tt5 E9.1) kq18.1) kq29.1)
  have ft46 := (Safe.keep kq29 (sfS ft37 (sfS ft36 sf0)) CR18.1 ft36)
  have ft47 := (Nat.lt_of_lt_of_le lt_tt18 kq29.1)
  have ft48 := (Safe.keep kq29 (sfS ft37 (sfS ft36 sf0)) CR18.1 sn_tt29)
  have O38 : Old Z n0 h38 := O29.ext E38
  have K38 : Keep h0 h38 [] := K29.ext E38
  have sf49 := crw38.safe ft41 ft40
  have sf50 := crw38.safe ft43 ft42
  have sf51 := crw38.safe ft45 ft44
  have sf52 := crw38.safe ft47 ft46
  have sf53 := crw38.safe lt_tt29 ft48
  have CR38 := CR29.trans crw38
  refine zst 22 #[iv x, iv y, rv m1] [(.ref b38), (.ref b2), (.ref b1), (.ref b1)] st38 ?_
  have ft55 := (eq29.ext E38)
  have ft56 := (cq29.ext E38)
  have ft57 := (fq29.ext E38)
  have ft58 := (nq29.ext E38)
  have ft59 := (xq29.ext E38)
  have ft60 := (vq29.ext E38)
  refine gV 25 2 10 690 X38 N29 hx hZ38 (y := mq27) hown38 hml (ww hw 58 rfl) (ww hw 59 rfl) (ww hw 61 rfl) (ww hw 60 rfl) (gbs l Z a0 hw [] b2 b38 t38 kt38 (9 : Int32) [(.int (44 : Int32)), (.int (32 : Int32)), (.int (99 : Int32)), (.int (111 : Int32)), (.int (108 : Int32)), (.int (117 : Int32)), (.int (109 : Int32)), (.int (110 : Int32)), (.int (32 : Int32))] tt29 kt29 NN29 cn29 (([] ++ [(.int (108 : Int32)), (.int (105 : Int32)), (.int (110 : Int32)), (.int (101 : Int32)), (.int (32 : Int32))]) ++ dsL x) wO wT kO kT iC vF vU vS h38 n0 O38 ln29 bd29 lk1 (by simp only [List.length_append, List.length_cons, List.length_nil]; omega) g_b2 g_tt29 ft55 ft56 ft57 ft58 A38 cq38 fq38 vq38 ft59 ft60 WW) (ww hw 62 rfl) (ww hw 39 rfl) e38 ft55 [(.ref b38)] [(.ref b1), (.ref b1)] (lenOf pd__Ljava_lang_String__Ljava_lang_StringBuilder_ rfl) (D d7_22) ?_
  rintro T54 L54 M54 _ X54 uu54 ⟨rfl, Nq54, kq54, eq54, cq54, nq54, tt54, kt54, NN54, dz54, fq54, xq54, vq54, bd54⟩
  have N54 := uu54 Nq54
  have ft61 := (Nat.lt_of_lt_of_le (Nat.lt_of_lt_of_le ft30 kq29.1) E38.1)
  have ne_m1_tt54 : m1 ≠ tt54 := own_dn dz54 ne_m1_tt29 ft61
  have ft62 := (Nat.lt_of_lt_of_le (Nat.lt_of_lt_of_le ft31 kq29.1) E38.1)
  have ne_t1_tt54 : t1 ≠ tt54 := own_dn dz54 ne_t1_tt29 ft62
  have ft63 := (Nat.lt_of_lt_of_le ft41 E38.1)
  have ne_b1_tt54 : b1 ≠ tt54 := own_dn dz54 ne_b1_tt29 ft63
  have ft64 := (Nat.lt_of_lt_of_le ft43 E38.1)
  have ne_b2_tt54 : b2 ≠ tt54 := own_dn dz54 ne_b2_tt29 ft64
  have ft65 := (Nat.lt_of_lt_of_le (Nat.lt_of_lt_of_le ft34 kq29.1) E38.1)
  have ne_b9_tt54 : b9 ≠ tt54 := own_dn dz54 ne_b9_tt29 ft65
  have ft66 := (Nat.lt_of_lt_of_le (Nat.lt_of_lt_of_le ft35 kq29.1) E38.1)
  have ne_t9_tt54 : t9 ≠ tt54 := own_dn dz54 ne_t9_tt29 ft66
  have ne_b38_tt54 : b38 ≠ tt54 := own_dn dz54 (Ne.symm (sfx38 _ sf53).1) lt_b38
  have ne_t38_tt54 : t38 ≠ tt54 := own_dn dz54 (Ne.symm (sfx38 _ sf53).2) lt_t38
  have ne_wO_tt54 : wO ≠ tt54 := own_dn dz54 ne_wO_tt29 (Nat.lt_of_lt_of_le lt_wO O38.2.1)
  have ne_wT_tt54 : wT ≠ tt54 := own_dn dz54 ne_wT_tt29 (Nat.lt_of_lt_of_le lt_wT O38.2.1)
  have g_tt54 : n0 ≤ tt54 := own_dt dz54 g_tt29 (O38.1 ▸ O38.2.1)
  have sz_tt54 : h0.size ≤ tt54 := own_dt dz54 sz_tt29 K38.1
  have sn_tt54 : Safe Z EL T38.vm h38 tt54 := dz54.elim (fun q => by rw [q]; exact sf53) Safe.new
  have O54 : Old Z n0 T54.heap := O38.keep kq54 (allS g_b2 (allS g_tt29 all0))
  have CR54 : CHr Z EL s.vm h0 T38.vm T54.heap := CR38.trans (CHr.keep kq54 (sfS sf50 (sfS sf53 sf0)) CR38.1)
  have K54 : Keep h0 T54.heap [] := K38.trans kq54 (allS (Or.inr sz_b2) (allS (Or.inr sz_tt29) all0))
  have lt_tt54 := vq54.lt
  have ln54 := own_la ln29 lk1 (by simp only [List.length_append, List.length_cons, List.length_nil]; omega)
  refine zsk [(.ref b2), (.ref b1), (.ref b1)] ?_
  refine zin 26 X54 hx (D d7_25) rfl ?_
  refine gV 29 2 11 890 X54 N54 hx hZ38 (y := mq31) hown38 hml (ww hw 105 rfl) (ww hw 106 rfl) (ww hw 108 rfl) (ww hw 107 rfl) (gbi l Z a0 hw [] b2 y tt54 kt54 NN54 (cn29 + (9 : Int32)) ((([] ++ [(.int (108 : Int32)), (.int (105 : Int32)), (.int (110 : Int32)), (.int (101 : Int32)), (.int (32 : Int32))]) ++ dsL x) ++ [(.int (44 : Int32)), (.int (32 : Int32)), (.int (99 : Int32)), (.int (111 : Int32)), (.int (108 : Int32)), (.int (117 : Int32)), (.int (109 : Int32)), (.int (110 : Int32)), (.int (32 : Int32))]) wO wT kO kT iC vF vU vS T54.heap n0 O54 ln54 bd54 (by simp only [List.length_append, List.length_cons, List.length_nil]; omega) g_b2 g_tt54 eq54 cq54 fq54 nq54 xq54 vq54 WW) (ww hw 109 rfl) (ww hw 39 rfl) rfl eq54 [(.int y)] [(.ref b1), (.ref b1)] (lenOf pd__I_Ljava_lang_StringBuilder_ rfl) (D d7_26) ?_
  rintro T67 L67 M67 _ X67 uu67 ⟨cn67, ln67, rfl, Nq67, kq67, eq67, cq67, nq67, tt67, kt67, NN67, dz67, fq67, xq67, vq67, bd67⟩
  have N67 := uu67 Nq67
  have ft68 := (Nat.lt_of_lt_of_le ft61 kq54.1)
  have ne_m1_tt67 : m1 ≠ tt67 := own_dn dz67 ne_m1_tt54 ft68
  have ft69 := (Nat.lt_of_lt_of_le ft62 kq54.1)
  have ne_t1_tt67 : t1 ≠ tt67 := own_dn dz67 ne_t1_tt54 ft69
  have ft70 := (Nat.lt_of_lt_of_le ft63 kq54.1)
  have ne_b1_tt67 : b1 ≠ tt67 := own_dn dz67 ne_b1_tt54 ft70
  have ft71 := (Nat.lt_of_lt_of_le ft64 kq54.1)
  have ne_b2_tt67 : b2 ≠ tt67 := own_dn dz67 ne_b2_tt54 ft71
  have ft72 := (Nat.lt_of_lt_of_le ft65 kq54.1)
  have ne_b9_tt67 : b9 ≠ tt67 := own_dn dz67 ne_b9_tt54 ft72
  have ft73 := (Nat.lt_of_lt_of_le ft66 kq54.1)
  have ne_t9_tt67 : t9 ≠ tt67 := own_dn dz67 ne_t9_tt54 ft73
  have ft74 := (Nat.lt_of_lt_of_le lt_b38 kq54.1)
  have ne_b38_tt67 : b38 ≠ tt67 := own_dn dz67 ne_b38_tt54 ft74
  have ft75 := (Nat.lt_of_lt_of_le lt_t38 kq54.1)
  have ne_t38_tt67 : t38 ≠ tt67 := own_dn dz67 ne_t38_tt54 ft75
  have ne_wO_tt67 : wO ≠ tt67 := own_dn dz67 ne_wO_tt54 (Nat.lt_of_lt_of_le lt_wO O54.2.1)
  have ne_wT_tt67 : wT ≠ tt67 := own_dn dz67 ne_wT_tt54 (Nat.lt_of_lt_of_le lt_wT O54.2.1)
  have g_tt67 : n0 ≤ tt67 := own_dt dz67 g_tt54 (O54.1 ▸ O54.2.1)
  have sz_tt67 : h0.size ≤ tt67 := own_dt dz67 sz_tt54 K54.1
  have ft76 := (Safe.keep kq54 (sfS sf50 (sfS sf53 sf0)) CR38.1 sn_tt54)
  have sn_tt67 : Safe Z EL T38.vm T54.heap tt67 := dz67.elim (fun q => by rw [q]; exact ft76) Safe.new
  have O67 : Old Z n0 T67.heap := O54.keep kq67 (allS g_b2 (allS g_tt54 all0))
  have ft77 := (Safe.keep kq54 (sfS sf50 (sfS sf53 sf0)) CR38.1 sf50)
  have CR67 : CHr Z EL s.vm h0 T38.vm T67.heap := CR54.trans (CHr.keep kq67 (sfS ft77 (sfS ft76 sf0)) CR54.1)
  have K67 : Keep h0 T67.heap [] := K54.trans kq67 (allS (Or.inr sz_b2) (allS (Or.inr sz_tt54) all0))
  have lt_tt67 := vq67.lt
  refine zsk [(.ref b2), (.ref b1), (.ref b1)] ?_
  have ft79 := (Nat.le_trans (Nat.le_trans hk38 kq54.1) kq67.1)
  obtain ⟨b78, T78, h78, k178, t78, kt78, X78, e78, E78, hS78, hk78, hZ78, hown78, A78, cq78, fq78, vq78, lt_b78, lt_t78, crw78, -, sfx78, st78⟩ := ldcCH (EL := EL) X67 hx hZ38 hown38 (ww hw 128 rfl) wS rfl hS38 ft79 hEL (List.mem_of_getElem? (i := 2) rfl) CR67.1 (vs := [(.int (58 : Int32)), (.int (32 : Int32))]) (z := (2 : Int32)) ⟨by decide, by decide⟩ (by decide) rfl (g := (mkF m 29 #[iv x, iv y, rv m1] [(.ref b2), (.ref b1), (.ref b1)])) rfl (D d7_29) (n := 8) (by decide) (by decide) (by decide) (by decide)
  have ft80 := (Safe.keep kq67 (sfS ft77 (sfS ft76 sf0)) CR54.1 (Safe.keep kq54 (sfS sf50 (sfS sf53 sf0)) CR38.1 sf49))
  have ft81 := (Nat.lt_of_lt_of_le ft70 kq67.1)
  have ft82 := (Safe.keep kq67 (sfS ft77 (sfS ft76 sf0)) CR54.1 ft77)
  have ft83 := (Nat.lt_of_lt_of_le ft71 kq67.1)
  have ft84 := (Safe.keep kq67 (sfS ft77 (sfS ft76 sf0)) CR54.1 (Safe.keep kq54 (sfS sf50 (sfS sf53 sf0)) CR38.1 sf51))
  have ft85 := (Nat.lt_of_lt_of_le (Nat.lt_of_lt_of_le (Nat.lt_of_lt_of_le ft45 E38.1) kq54.1) kq67.1)
  have ft86 := (Safe.keep kq67 (sfS ft77 (sfS ft76 sf0)) CR54.1 (Safe.keep kq54 (sfS sf50 (sfS sf53 sf0)) CR38.1 sf52))
  have ft87 := (Nat.lt_of_lt_of_le (Nat.lt_of_lt_of_le (Nat.lt_of_lt_of_le ft47 E38.1) kq54.1) kq67.1)
  have ft88 := (Safe.keep kq67 (sfS ft77 (sfS ft76 sf0)) CR54.1 (Safe.keep kq54 (sfS sf50 (sfS sf53 sf0)) CR38.1 sf53))
  have ft89 := (Nat.lt_of_lt_of_le (Nat.lt_of_lt_of_le (Nat.lt_of_lt_of_le lt_tt29 E38.1) kq54.1) kq67.1)
  have ft90 := (Safe.keep kq67 (sfS ft77 (sfS ft76 sf0)) CR54.1 ft76)
  have ft91 := (Nat.lt_of_lt_of_le lt_tt54 kq67.1)
  have ft92 := (Safe.keep kq67 (sfS ft77 (sfS ft76 sf0)) CR54.1 sn_tt67)
  have O78 : Old Z n0 h78 := O67.ext E78
  have K78 : Keep h0 h78 [] := K67.ext E78
  have sf93 := crw78.safe ft81 ft80
  have sf94 := crw78.safe ft83 ft82
  have sf95 := crw78.safe ft85 ft84
  have sf96 := crw78.safe ft87 ft86
  have sf97 := crw78.safe ft89 ft88
  have sf98 := crw78.safe ft91 ft90
  have sf99 := crw78.safe lt_tt67 ft92
  have CR78 := CR67.trans crw78
  refine zst 31 #[iv x, iv y, rv m1] [(.ref b78), (.ref b2), (.ref b1), (.ref b1)] st78 ?_
  have ft101 := (eq67.ext E78)
  have ft102 := (cq67.ext E78)
  have ft103 := (fq67.ext E78)
  have ft104 := (nq67.ext E78)
  have ft105 := (xq67.ext E78)
  have ft106 := (vq67.ext E78)
  refine gV 34 2 14 1102 X78 N67 hx hZ78 (y := mq27) hown78 hml (ww hw 58 rfl) (ww hw 59 rfl) (ww hw 61 rfl) (ww hw 60 rfl) (gbs l Z a0 hw [] b2 b78 t78 kt78 (2 : Int32) [(.int (58 : Int32)), (.int (32 : Int32))] tt67 kt67 NN67 cn67 (((([] ++ [(.int (108 : Int32)), (.int (105 : Int32)), (.int (110 : Int32)), (.int (101 : Int32)), (.int (32 : Int32))]) ++ dsL x) ++ [(.int (44 : Int32)), (.int (32 : Int32)), (.int (99 : Int32)), (.int (111 : Int32)), (.int (108 : Int32)), (.int (117 : Int32)), (.int (109 : Int32)), (.int (110 : Int32)), (.int (32 : Int32))]) ++ dsL y) wO wT kO kT iC vF vU vS h78 n0 O78 ln67 bd67 lk2 (by simp only [List.length_append, List.length_cons, List.length_nil]; omega) g_b2 g_tt67 ft101 ft102 ft103 ft104 A78 cq78 fq78 vq78 ft105 ft106 WW) (ww hw 62 rfl) (ww hw 39 rfl) e78 ft101 [(.ref b78)] [(.ref b1), (.ref b1)] (lenOf pd__Ljava_lang_String__Ljava_lang_StringBuilder_ rfl) (D d7_31) ?_
  rintro T100 L100 M100 _ X100 uu100 ⟨rfl, Nq100, kq100, eq100, cq100, nq100, tt100, kt100, NN100, dz100, fq100, xq100, vq100, bd100⟩
  have N100 := uu100 Nq100
  have ft107 := (Nat.lt_of_lt_of_le (Nat.lt_of_lt_of_le ft68 kq67.1) E78.1)
  have ne_m1_tt100 : m1 ≠ tt100 := own_dn dz100 ne_m1_tt67 ft107
  have ft108 := (Nat.lt_of_lt_of_le (Nat.lt_of_lt_of_le ft69 kq67.1) E78.1)
  have ne_t1_tt100 : t1 ≠ tt100 := own_dn dz100 ne_t1_tt67 ft108
  have ft109 := (Nat.lt_of_lt_of_le ft81 E78.1)
  have ne_b1_tt100 : b1 ≠ tt100 := own_dn dz100 ne_b1_tt67 ft109
  have ft110 := (Nat.lt_of_lt_of_le ft83 E78.1)
  have ne_b2_tt100 : b2 ≠ tt100 := own_dn dz100 ne_b2_tt67 ft110
  have ft111 := (Nat.lt_of_lt_of_le (Nat.lt_of_lt_of_le ft72 kq67.1) E78.1)
  have ne_b9_tt100 : b9 ≠ tt100 := own_dn dz100 ne_b9_tt67 ft111
  have ft112 := (Nat.lt_of_lt_of_le (Nat.lt_of_lt_of_le ft73 kq67.1) E78.1)
  have ne_t9_tt100 : t9 ≠ tt100 := own_dn dz100 ne_t9_tt67 ft112
  have ft113 := (Nat.lt_of_lt_of_le (Nat.lt_of_lt_of_le ft74 kq67.1) E78.1)
  have ne_b38_tt100 : b38 ≠ tt100 := own_dn dz100 ne_b38_tt67 ft113
  have ft114 := (Nat.lt_of_lt_of_le (Nat.lt_of_lt_of_le ft75 kq67.1) E78.1)
  have ne_t38_tt100 : t38 ≠ tt100 := own_dn dz100 ne_t38_tt67 ft114
  have ne_b78_tt100 : b78 ≠ tt100 := own_dn dz100 (Ne.symm (sfx78 _ sf99).1) lt_b78
  have ne_t78_tt100 : t78 ≠ tt100 := own_dn dz100 (Ne.symm (sfx78 _ sf99).2) lt_t78
  have ne_wO_tt100 : wO ≠ tt100 := own_dn dz100 ne_wO_tt67 (Nat.lt_of_lt_of_le lt_wO O78.2.1)
  have ne_wT_tt100 : wT ≠ tt100 := own_dn dz100 ne_wT_tt67 (Nat.lt_of_lt_of_le lt_wT O78.2.1)
  have g_tt100 : n0 ≤ tt100 := own_dt dz100 g_tt67 (O78.1 ▸ O78.2.1)
  have sz_tt100 : h0.size ≤ tt100 := own_dt dz100 sz_tt67 K78.1
  have sn_tt100 : Safe Z EL T78.vm h78 tt100 := dz100.elim (fun q => by rw [q]; exact sf99) Safe.new
  have O100 : Old Z n0 T100.heap := O78.keep kq100 (allS g_b2 (allS g_tt67 all0))
  have CR100 : CHr Z EL s.vm h0 T78.vm T100.heap := CR78.trans (CHr.keep kq100 (sfS sf94 (sfS sf99 sf0)) CR78.1)
  have K100 : Keep h0 T100.heap [] := K78.trans kq100 (allS (Or.inr sz_b2) (allS (Or.inr sz_tt67) all0))
  have lt_tt100 := vq100.lt
  have ln100 := own_la ln67 lk2 (by simp only [List.length_append, List.length_cons, List.length_nil]; omega)
  refine zsk [(.ref b2), (.ref b1), (.ref b1)] ?_
  refine zan 35 X100 hx (D d7_34) rfl rfl ?_
  have ft116 := (((((((((((E_m1.ext E1).ext E2).keep kq5).ext E9).keep kq18).keep kq29).ext E38).keep kq54).keep kq67).ext E78).keep kq100)
  have ft117 := (((((((((((F_m1_coder.ext E1).ext E2).keep kq5 (ninS ne_m1_b2 nin0)).ext E9).keep kq18 (ninS ne_m1_b2 (ninS ne_m1_tt5 nin0))).keep kq29 (ninS ne_m1_b2 (ninS ne_m1_tt18 nin0))).ext E38).keep kq54 (ninS ne_m1_b2 (ninS ne_m1_tt29 nin0))).keep kq67 (ninS ne_m1_b2 (ninS ne_m1_tt54 nin0))).ext E78).keep kq100 (ninS ne_m1_b2 (ninS ne_m1_tt67 nin0)))
  have ft118 := (((((((((((F_m1_value.ext E1).ext E2).keep kq5 (ninS ne_m1_b2 nin0)).ext E9).keep kq18 (ninS ne_m1_b2 (ninS ne_m1_tt5 nin0))).keep kq29 (ninS ne_m1_b2 (ninS ne_m1_tt18 nin0))).ext E38).keep kq54 (ninS ne_m1_b2 (ninS ne_m1_tt29 nin0))).keep kq67 (ninS ne_m1_b2 (ninS ne_m1_tt54 nin0))).ext E78).keep kq100 (ninS ne_m1_b2 (ninS ne_m1_tt67 nin0)))
  have ft119 := (((((((((((V_t1.ext E1).ext E2).keep kq5 (ninS ne_t1_b2 nin0)).ext E9).keep kq18 (ninS ne_t1_b2 (ninS ne_t1_tt5 nin0))).keep kq29 (ninS ne_t1_b2 (ninS ne_t1_tt18 nin0))).ext E38).keep kq54 (ninS ne_t1_b2 (ninS ne_t1_tt29 nin0))).keep kq67 (ninS ne_t1_b2 (ninS ne_t1_tt54 nin0))).ext E78).keep kq100 (ninS ne_t1_b2 (ninS ne_t1_tt67 nin0)))
  refine gV 38 2 15 1302 X100 N100 hx hZ78 (y := mq27) hown78 hml (ww hw 58 rfl) (ww hw 59 rfl) (ww hw 61 rfl) (ww hw 60 rfl) (gbs l Z a0 hw [] b2 m1 t1 k1 n1 es1 tt100 kt100 NN100 (cn67 + (2 : Int32)) ((((([] ++ [(.int (108 : Int32)), (.int (105 : Int32)), (.int (110 : Int32)), (.int (101 : Int32)), (.int (32 : Int32))]) ++ dsL x) ++ [(.int (44 : Int32)), (.int (32 : Int32)), (.int (99 : Int32)), (.int (111 : Int32)), (.int (108 : Int32)), (.int (117 : Int32)), (.int (109 : Int32)), (.int (110 : Int32)), (.int (32 : Int32))]) ++ dsL y) ++ [(.int (58 : Int32)), (.int (32 : Int32))]) wO wT kO kT iC vF vU vS T100.heap n0 O100 ln100 bd100 l1 (by simp only [List.length_append, List.length_cons, List.length_nil]; omega) g_b2 g_tt100 eq100 cq100 fq100 nq100 ft116 ft117 ft118 ft119 xq100 vq100 WW) (ww hw 62 rfl) (ww hw 39 rfl) rfl eq100 [(.ref m1)] [(.ref b1), (.ref b1)] (lenOf pd__Ljava_lang_String__Ljava_lang_StringBuilder_ rfl) (D d7_35) ?_
  rintro T115 L115 M115 _ X115 uu115 ⟨rfl, Nq115, kq115, eq115, cq115, nq115, tt115, kt115, NN115, dz115, fq115, xq115, vq115, bd115⟩
  have N115 := uu115 Nq115
  have ft120 := (Nat.lt_of_lt_of_le ft107 kq100.1)
  have ne_m1_tt115 : m1 ≠ tt115 := own_dn dz115 ne_m1_tt100 ft120
  have ft121 := (Nat.lt_of_lt_of_le ft108 kq100.1)
  have ne_t1_tt115 : t1 ≠ tt115 := own_dn dz115 ne_t1_tt100 ft121
  have ft122 := (Nat.lt_of_lt_of_le ft109 kq100.1)
  have ne_b1_tt115 : b1 ≠ tt115 := own_dn dz115 ne_b1_tt100 ft122
  have ft123 := (Nat.lt_of_lt_of_le ft110 kq100.1)
  have ne_b2_tt115 : b2 ≠ tt115 := own_dn dz115 ne_b2_tt100 ft123
  have ft124 := (Nat.lt_of_lt_of_le ft111 kq100.1)
  have ne_b9_tt115 : b9 ≠ tt115 := own_dn dz115 ne_b9_tt100 ft124
  have ft125 := (Nat.lt_of_lt_of_le ft112 kq100.1)
  have ne_t9_tt115 : t9 ≠ tt115 := own_dn dz115 ne_t9_tt100 ft125
  have ft126 := (Nat.lt_of_lt_of_le ft113 kq100.1)
  have ne_b38_tt115 : b38 ≠ tt115 := own_dn dz115 ne_b38_tt100 ft126
  have ft127 := (Nat.lt_of_lt_of_le ft114 kq100.1)
  have ne_t38_tt115 : t38 ≠ tt115 := own_dn dz115 ne_t38_tt100 ft127
  have ft128 := (Nat.lt_of_lt_of_le lt_b78 kq100.1)
  have ne_b78_tt115 : b78 ≠ tt115 := own_dn dz115 ne_b78_tt100 ft128
  have ft129 := (Nat.lt_of_lt_of_le lt_t78 kq100.1)
  have ne_t78_tt115 : t78 ≠ tt115 := own_dn dz115 ne_t78_tt100 ft129
  have ne_wO_tt115 : wO ≠ tt115 := own_dn dz115 ne_wO_tt100 (Nat.lt_of_lt_of_le lt_wO O100.2.1)
  have ne_wT_tt115 : wT ≠ tt115 := own_dn dz115 ne_wT_tt100 (Nat.lt_of_lt_of_le lt_wT O100.2.1)
  have g_tt115 : n0 ≤ tt115 := own_dt dz115 g_tt100 (O100.1 ▸ O100.2.1)
  have sz_tt115 : h0.size ≤ tt115 := own_dt dz115 sz_tt100 K100.1
  have ft130 := (Safe.keep kq100 (sfS sf94 (sfS sf99 sf0)) CR78.1 sn_tt100)
  have sn_tt115 : Safe Z EL T78.vm T100.heap tt115 := dz115.elim (fun q => by rw [q]; exact ft130) Safe.new
  have O115 : Old Z n0 T115.heap := O100.keep kq115 (allS g_b2 (allS g_tt100 all0))
  have ft131 := (Safe.keep kq100 (sfS sf94 (sfS sf99 sf0)) CR78.1 sf94)
  have CR115 : CHr Z EL s.vm h0 T78.vm T115.heap := CR100.trans (CHr.keep kq115 (sfS ft131 (sfS ft130 sf0)) CR100.1)
  have K115 : Keep h0 T115.heap [] := K100.trans kq115 (allS (Or.inr sz_b2) (allS (Or.inr sz_tt100) all0))
  have lt_tt115 := vq115.lt
  have ln115 := own_la ln100 l1 (by simp only [List.length_append, List.length_cons, List.length_nil]; omega)
  refine zsk [(.ref b2), (.ref b1), (.ref b1)] ?_
  refine gV 41 2 17 1506 X115 N115 hx hZ78 (y := mq42) hown78 hml (ww hw 152 rfl) (ww hw 153 rfl) (ww hw 155 rfl) (ww hw 154 rfl) (gt3 l Z a0 hw [] b2 tt115 kt115 NN115 ((cn67 + (2 : Int32)) + n1) (((((([] ++ [(.int (108 : Int32)), (.int (105 : Int32)), (.int (110 : Int32)), (.int (101 : Int32)), (.int (32 : Int32))]) ++ dsL x) ++ [(.int (44 : Int32)), (.int (32 : Int32)), (.int (99 : Int32)), (.int (111 : Int32)), (.int (108 : Int32)), (.int (117 : Int32)), (.int (109 : Int32)), (.int (110 : Int32)), (.int (32 : Int32))]) ++ dsL y) ++ [(.int (58 : Int32)), (.int (32 : Int32))]) ++ es1) wO wT kO kT iC vF vU vS T115.heap n0 O115 ln115 bd115 (by simp only [List.length_append, List.length_cons, List.length_nil]; omega) eq115 cq115 fq115 nq115 xq115 vq115 WW) (ww hw 156 rfl) (ww hw 39 rfl) rfl eq115 [] [(.ref b1), (.ref b1)] (lenOf pd___Ljava_lang_String_ rfl) (D d7_38) ?_
  rintro T132 L132 M132 _ X132 uu132 ⟨b132, rfl, Nq132, zb132, kq132, eq132, cq132, tt132, kt132, zq132, fq132, vq132⟩
  have N132 := uu132 Nq132
  have ft133 := (Nat.lt_of_lt_of_le ft120 kq115.1)
  have ne_m1_b132 : m1 ≠ b132 := Nat.ne_of_lt (Nat.lt_of_lt_of_le ft133 zb132)
  have ft134 := (Nat.lt_of_lt_of_le ft121 kq115.1)
  have ne_t1_b132 : t1 ≠ b132 := Nat.ne_of_lt (Nat.lt_of_lt_of_le ft134 zb132)
  have ft135 := (Nat.lt_of_lt_of_le ft122 kq115.1)
  have ne_b1_b132 : b1 ≠ b132 := Nat.ne_of_lt (Nat.lt_of_lt_of_le ft135 zb132)
  have ft136 := (Nat.lt_of_lt_of_le ft123 kq115.1)
  have ne_b2_b132 : b2 ≠ b132 := Nat.ne_of_lt (Nat.lt_of_lt_of_le ft136 zb132)
  have ft137 := (Nat.lt_of_lt_of_le (Nat.lt_of_lt_of_le (Nat.lt_of_lt_of_le ft85 E78.1) kq100.1) kq115.1)
  have ne_tt5_b132 : tt5 ≠ b132 := Nat.ne_of_lt (Nat.lt_of_lt_of_le ft137 zb132)
  have ft138 := (Nat.lt_of_lt_of_le ft124 kq115.1)
  have ne_b9_b132 : b9 ≠ b132 := Nat.ne_of_lt (Nat.lt_of_lt_of_le ft138 zb132)
  have ft139 := (Nat.lt_of_lt_of_le ft125 kq115.1)
  have ne_t9_b132 : t9 ≠ b132 := Nat.ne_of_lt (Nat.lt_of_lt_of_le ft139 zb132)
  have ft140 := (Nat.lt_of_lt_of_le (Nat.lt_of_lt_of_le (Nat.lt_of_lt_of_le ft87 E78.1) kq100.1) kq115.1)
  have ne_tt18_b132 : tt18 ≠ b132 := Nat.ne_of_lt (Nat.lt_of_lt_of_le ft140 zb132)
  have ft141 := (Nat.lt_of_lt_of_le (Nat.lt_of_lt_of_le (Nat.lt_of_lt_of_le ft89 E78.1) kq100.1) kq115.1)
  have ne_tt29_b132 : tt29 ≠ b132 := Nat.ne_of_lt (Nat.lt_of_lt_of_le ft141 zb132)
  have ft142 := (Nat.lt_of_lt_of_le ft126 kq115.1)
  have ne_b38_b132 : b38 ≠ b132 := Nat.ne_of_lt (Nat.lt_of_lt_of_le ft142 zb132)
  have ft143 := (Nat.lt_of_lt_of_le ft127 kq115.1)
  have ne_t38_b132 : t38 ≠ b132 := Nat.ne_of_lt (Nat.lt_of_lt_of_le ft143 zb132)
  have ft144 := (Nat.lt_of_lt_of_le (Nat.lt_of_lt_of_le (Nat.lt_of_lt_of_le ft91 E78.1) kq100.1) kq115.1)
  have ne_tt54_b132 : tt54 ≠ b132 := Nat.ne_of_lt (Nat.lt_of_lt_of_le ft144 zb132)
  have ft145 := (Nat.lt_of_lt_of_le (Nat.lt_of_lt_of_le (Nat.lt_of_lt_of_le lt_tt67 E78.1) kq100.1) kq115.1)
  have ne_tt67_b132 : tt67 ≠ b132 := Nat.ne_of_lt (Nat.lt_of_lt_of_le ft145 zb132)
  have ft146 := (Nat.lt_of_lt_of_le ft128 kq115.1)
  have ne_b78_b132 : b78 ≠ b132 := Nat.ne_of_lt (Nat.lt_of_lt_of_le ft146 zb132)
  have ft147 := (Nat.lt_of_lt_of_le ft129 kq115.1)
  have ne_t78_b132 : t78 ≠ b132 := Nat.ne_of_lt (Nat.lt_of_lt_of_le ft147 zb132)
  have ft148 := (Nat.lt_of_lt_of_le lt_tt100 kq115.1)
  have ne_tt100_b132 : tt100 ≠ b132 := Nat.ne_of_lt (Nat.lt_of_lt_of_le ft148 zb132)
  have ne_tt115_b132 : tt115 ≠ b132 := Nat.ne_of_lt (Nat.lt_of_lt_of_le lt_tt115 zb132)
  have ne_wO_b132 : wO ≠ b132 := Nat.ne_of_lt (Nat.lt_of_lt_of_le lt_wO (Nat.le_trans O115.2.1 zb132))
  have ne_wT_b132 : wT ≠ b132 := Nat.ne_of_lt (Nat.lt_of_lt_of_le lt_wT (Nat.le_trans O115.2.1 zb132))
  have g_b132 : n0 ≤ b132 := Nat.le_trans (O115.1 ▸ O115.2.1) zb132
  have sz_b132 : h0.size ≤ b132 := Nat.le_trans K115.1 zb132
  have sn_b132 : Safe Z EL T78.vm T115.heap b132 := Safe.new zb132
  have ne_m1_tt132 : m1 ≠ tt132 := Nat.ne_of_lt (Nat.lt_of_lt_of_le ft133 zq132)
  have ne_t1_tt132 : t1 ≠ tt132 := Nat.ne_of_lt (Nat.lt_of_lt_of_le ft134 zq132)
  have ne_b1_tt132 : b1 ≠ tt132 := Nat.ne_of_lt (Nat.lt_of_lt_of_le ft135 zq132)
  have ne_b2_tt132 : b2 ≠ tt132 := Nat.ne_of_lt (Nat.lt_of_lt_of_le ft136 zq132)
  have ne_tt5_tt132 : tt5 ≠ tt132 := Nat.ne_of_lt (Nat.lt_of_lt_of_le ft137 zq132)
  have ne_b9_tt132 : b9 ≠ tt132 := Nat.ne_of_lt (Nat.lt_of_lt_of_le ft138 zq132)
  have ne_t9_tt132 : t9 ≠ tt132 := Nat.ne_of_lt (Nat.lt_of_lt_of_le ft139 zq132)
  have ne_tt18_tt132 : tt18 ≠ tt132 := Nat.ne_of_lt (Nat.lt_of_lt_of_le ft140 zq132)
  have ne_tt29_tt132 : tt29 ≠ tt132 := Nat.ne_of_lt (Nat.lt_of_lt_of_le ft141 zq132)
  have ne_b38_tt132 : b38 ≠ tt132 := Nat.ne_of_lt (Nat.lt_of_lt_of_le ft142 zq132)
  have ne_t38_tt132 : t38 ≠ tt132 := Nat.ne_of_lt (Nat.lt_of_lt_of_le ft143 zq132)
  have ne_tt54_tt132 : tt54 ≠ tt132 := Nat.ne_of_lt (Nat.lt_of_lt_of_le ft144 zq132)
  have ne_tt67_tt132 : tt67 ≠ tt132 := Nat.ne_of_lt (Nat.lt_of_lt_of_le ft145 zq132)
  have ne_b78_tt132 : b78 ≠ tt132 := Nat.ne_of_lt (Nat.lt_of_lt_of_le ft146 zq132)
  have ne_t78_tt132 : t78 ≠ tt132 := Nat.ne_of_lt (Nat.lt_of_lt_of_le ft147 zq132)
  have ne_tt100_tt132 : tt100 ≠ tt132 := Nat.ne_of_lt (Nat.lt_of_lt_of_le ft148 zq132)
  have ne_tt115_tt132 : tt115 ≠ tt132 := Nat.ne_of_lt (Nat.lt_of_lt_of_le lt_tt115 zq132)
  have ne_wO_tt132 : wO ≠ tt132 := Nat.ne_of_lt (Nat.lt_of_lt_of_le lt_wO (Nat.le_trans O115.2.1 zq132))
  have ne_wT_tt132 : wT ≠ tt132 := Nat.ne_of_lt (Nat.lt_of_lt_of_le lt_wT (Nat.le_trans O115.2.1 zq132))
  have g_tt132 : n0 ≤ tt132 := Nat.le_trans (O115.1 ▸ O115.2.1) zq132
  have sz_tt132 : h0.size ≤ tt132 := Nat.le_trans K115.1 zq132
  have sn_tt132 : Safe Z EL T78.vm T115.heap tt132 := Safe.new zq132
  have O132 : Old Z n0 T132.heap := O115.keep kq132 all0
  have CR132 : CHr Z EL s.vm h0 T78.vm T132.heap := CR115.trans (CHr.keep kq132 sf0 CR115.1)
  have K132 : Keep h0 T132.heap [] := K115.trans kq132 all0
  have lt_b132 := eq132.lt
  have lt_tt132 := vq132.lt
  refine zsk [(.ref b132), (.ref b1), (.ref b1)] ?_
  have ft150 := (Unt.keep kq132 nin0 (Unt.keep kq115 (ninS ne_b1_b2 (ninS ne_b1_tt100 nin0)) (Unt.keep kq100 (ninS ne_b1_b2 (ninS ne_b1_tt67 nin0)) (Unt.ext E78 (Unt.keep kq67 (ninS ne_b1_b2 (ninS ne_b1_tt54 nin0)) (Unt.keep kq54 (ninS ne_b1_b2 (ninS ne_b1_tt29 nin0)) (Unt.ext E38 (Unt.keep kq29 (ninS ne_b1_b2 (ninS ne_b1_tt18 nin0)) (Unt.keep kq18 (ninS ne_b1_b2 (ninS ne_b1_tt5 nin0)) (Unt.ext E9 (Unt.keep kq5 (ninS ne_b1_b2 nin0) (Unt.ext E2 Un1))))))))))))
  have ft151 := ((((((((((((A1.ext E2).keep kq5).ext E9).keep kq18).keep kq29).ext E38).keep kq54).keep kq67).ext E78).keep kq100).keep kq115).keep kq132)
  have ft152 := ((((((((((((F_cause_b1.ext E2).keep kq5 (ninS ne_b1_b2 nin0)).ext E9).keep kq18 (ninS ne_b1_b2 (ninS ne_b1_tt5 nin0))).keep kq29 (ninS ne_b1_b2 (ninS ne_b1_tt18 nin0))).ext E38).keep kq54 (ninS ne_b1_b2 (ninS ne_b1_tt29 nin0))).keep kq67 (ninS ne_b1_b2 (ninS ne_b1_tt54 nin0))).ext E78).keep kq100 (ninS ne_b1_b2 (ninS ne_b1_tt67 nin0))).keep kq115 (ninS ne_b1_b2 (ninS ne_b1_tt100 nin0))).keep kq132 nin0)
  have ft153 := ((((((((((((F_stackTrace_b1.ext E2).keep kq5 (ninS ne_b1_b2 nin0)).ext E9).keep kq18 (ninS ne_b1_b2 (ninS ne_b1_tt5 nin0))).keep kq29 (ninS ne_b1_b2 (ninS ne_b1_tt18 nin0))).ext E38).keep kq54 (ninS ne_b1_b2 (ninS ne_b1_tt29 nin0))).keep kq67 (ninS ne_b1_b2 (ninS ne_b1_tt54 nin0))).ext E78).keep kq100 (ninS ne_b1_b2 (ninS ne_b1_tt67 nin0))).keep kq115 (ninS ne_b1_b2 (ninS ne_b1_tt100 nin0))).keep kq132 nin0)
  have ft154 := ((((((((((((F_suppressedExceptions_b1.ext E2).keep kq5 (ninS ne_b1_b2 nin0)).ext E9).keep kq18 (ninS ne_b1_b2 (ninS ne_b1_tt5 nin0))).keep kq29 (ninS ne_b1_b2 (ninS ne_b1_tt18 nin0))).ext E38).keep kq54 (ninS ne_b1_b2 (ninS ne_b1_tt29 nin0))).keep kq67 (ninS ne_b1_b2 (ninS ne_b1_tt54 nin0))).ext E78).keep kq100 (ninS ne_b1_b2 (ninS ne_b1_tt67 nin0))).keep kq115 (ninS ne_b1_b2 (ninS ne_b1_tt100 nin0))).keep kq132 nin0)
  have ft155 := ((((((((((((F_detailMessage_b1.ext E2).keep kq5 (ninS ne_b1_b2 nin0)).ext E9).keep kq18 (ninS ne_b1_b2 (ninS ne_b1_tt5 nin0))).keep kq29 (ninS ne_b1_b2 (ninS ne_b1_tt18 nin0))).ext E38).keep kq54 (ninS ne_b1_b2 (ninS ne_b1_tt29 nin0))).keep kq67 (ninS ne_b1_b2 (ninS ne_b1_tt54 nin0))).ext E78).keep kq100 (ninS ne_b1_b2 (ninS ne_b1_tt67 nin0))).keep kq115 (ninS ne_b1_b2 (ninS ne_b1_tt100 nin0))).keep kq132 nin0)
  have ft156 := ((((((((((((F_backtrace_b1.ext E2).keep kq5 (ninS ne_b1_b2 nin0)).ext E9).keep kq18 (ninS ne_b1_b2 (ninS ne_b1_tt5 nin0))).keep kq29 (ninS ne_b1_b2 (ninS ne_b1_tt18 nin0))).ext E38).keep kq54 (ninS ne_b1_b2 (ninS ne_b1_tt29 nin0))).keep kq67 (ninS ne_b1_b2 (ninS ne_b1_tt54 nin0))).ext E78).keep kq100 (ninS ne_b1_b2 (ninS ne_b1_tt67 nin0))).keep kq115 (ninS ne_b1_b2 (ninS ne_b1_tt100 nin0))).keep kq132 nin0)
  have ft157 := ((((((((((((F_depth_b1.ext E2).keep kq5 (ninS ne_b1_b2 nin0)).ext E9).keep kq18 (ninS ne_b1_b2 (ninS ne_b1_tt5 nin0))).keep kq29 (ninS ne_b1_b2 (ninS ne_b1_tt18 nin0))).ext E38).keep kq54 (ninS ne_b1_b2 (ninS ne_b1_tt29 nin0))).keep kq67 (ninS ne_b1_b2 (ninS ne_b1_tt54 nin0))).ext E78).keep kq100 (ninS ne_b1_b2 (ninS ne_b1_tt67 nin0))).keep kq115 (ninS ne_b1_b2 (ninS ne_b1_tt100 nin0))).keep kq132 nin0)
  obtain ⟨_, _, ⟨T149, L149, kk149, nn149⟩, -, X149, ⟨Lc149, hQ149, lq149, yq149, zz149⟩, st149⟩ := X132.specialBack hx (y := mq51) rfl hown78 (mvT hZ78 (ww hw 187 rfl)) (mvT hZ78 (ww hw 188 rfl)) (mvT hZ78 (ww hw 189 rfl)) (by decide) (own_backK (W := 1) (rmE2 l Z a0 hw [] b1 b132 wO wT kO kT iC vF vU vS T132.heap n0 O132 hlt g_b1 ft150 ft151 ft152 ft153 ft154 ft155 ft156 ft157 WW) hZ78 (ww hw 189 rfl) (ww hw 33 rfl) (by decide) (by decide) (Vm.MethodsKnown.alikeC (hZ0.alike.symm.trans hZ78.alike) hTK) (Vm.FramesKnown.alikeC (hZ0.alike.symm.trans hZ78.alike) hBelow)) (g := (mkF m 41 #[iv x, iv y, rv m1] [(.ref b132), (.ref b1), (.ref b1)])) rfl (by rw [hml]; rfl) (Steps.refl _) (a := b1) (argsL := [(.ref b132)]) (rest := [(.ref b1)]) (lenOf pd__Ljava_lang_String__V rfl) rfl (by show 2 * 0 + _ ≤ _; exact Nat.le_of_eq rfl) (D d7_41) (fun _ _ => ⟨rfl, rfl, (by decide : 17 + 1 ≤ _), (by decide : 1506 + 2752 ≤ _)⟩)
  dsimp only [Pt.U, Pt.locs, Pt.cells, Pt.slots] at X149 lq149 yq149 zz149 st149 hQ149
  subst lq149 yq149 zz149
  obtain ⟨rfl, Nq149, kq149, eq149, fq149⟩ := hQ149
  have N149 := Fr.app N132 Nq149
  have O149 : Old Z n0 T149.heap := O132.keep kq149 (allS g_b1 all0)
  have ft158 := (Safe.keep kq132 sf0 CR115.1 (Safe.keep kq115 (sfS ft131 (sfS ft130 sf0)) CR100.1 (Safe.keep kq100 (sfS sf94 (sfS sf99 sf0)) CR78.1 sf93)))
  have CR149 : CHr Z EL s.vm h0 T78.vm T149.heap := CR132.trans (CHr.keep kq149 (sfS ft158 sf0) CR132.1)
  have K149 : Keep h0 T149.heap [] := K132.trans kq149 (allS (Or.inr sz_b1) all0)
  refine Go.tr (f' := (mkF m 44 #[iv x, iv y, rv m1] [(.ref b1)])) st149 ?_
  have ft159 := (Nat.le_trans (Nat.le_trans (Nat.le_trans (Nat.le_trans hk78 kq100.1) kq115.1) kq132.1) kq149.1)
  refine GoW.retV X149 hlk hx (t := (.object "com/example/hearsay_rules/hearsayrules/InvalidJsonException")) hret rfl (Or.inr (Or.inr (Or.inr (Or.inr ⟨rfl, rfl, rfl⟩)))) (D d7_44) rfl hS78 ft159 hZ78 hEL CR149 hh ?_ (by decide) (by decide)
  have ft160 := (eq132.keep kq149)
  have ft161 := (cq132.keep kq149 (ninS (Ne.symm ne_b1_b132) nin0))
  have ft162 := (fq132.keep kq149 (ninS (Ne.symm ne_b1_b132) nin0))
  have ft163 := (vq132.keep kq149 (ninS (Ne.symm ne_b1_tt132) nin0))
  exact ⟨b1, b132, tt132, kt132, ((cn67 + (2 : Int32)) + n1), rfl, N149, sz_b1, sz_b132, K149, eq149, fq149, ft160, ft161, ft162, ft163, ln115⟩
theorem d42_0 : decode jdk_78_method_6_code 0 = .ok (.aload_n 0, 1) := by decide +kernel
theorem d42_1 : decode jdk_78_method_6_code 1 = .ok (.getfield 31, 3) := by decide +kernel
theorem d42_4 : decode jdk_78_method_6_code 4 = .ok (.areturn, 1) := by decide +kernel
set_option maxRecDepth 65536 in
set_option maxHeartbeats 40000000 in
theorem rmGm (l : Launch) (Z : State) (a0 : Array Value) (hw : ∀ d ∈ tables_1, d.before a0 Z = true) (ws : List Jvm.Cond) (a1 : Addr) (u1 : Addr) (h0 : Heap) (n0 : Nat) (O0 : Old Z n0 h0) (E_a1 : Exa Z h0 a1 "com/example/hearsay_rules/hearsayrules/InvalidJsonException") (F_a1_detailMessage : Fld Z h0 a1 "java/lang/Throwable" "detailMessage" "Ljava/lang/String;" (.ref u1)) :
    Con l Z mq53 jdk_78_method_6_code 1 (some (.object "java/lang/String")) ws ({ frames := 0, cells := 0, slots := 0, locals := 0 } : Room) #[(.ref a1)] h0 (fun v h L => v = some (.ref u1) ∧ Fr n0 L ∧ h = h0) := by
  refine own_body (plainFor_of_name pn_java_lang_Throwable) ?_
  intro p e s m below meth c s₁ hx hby hml hZ hown hnm hlk hret X0 e0
  have N0 := Fr.nil n0
  have D := @hb _ _ hby
  refine Go.st (T' := s₁) (f' := (mkF m 0 #[rv a1] [])) (fun _ k => castTop (by first | (simp [entryFrame, mkF, argsToLocals, Value.category]; done) | rfl) k) ?_
  have lt_a1 := E_a1.lt
  refine zan 1 X0 hx (D d42_0) rfl rfl ?_
  refine zgf 4 X0 hx hZ hown (host := "") (Or.inl (ww hw 237 rfl)) Via.refl e0 F_a1_detailMessage (D d42_1) fun T1 X1 e1 => ?_
  refine Go.retV X1 hlk hx (t := (.object "java/lang/String")) hret rfl (Or.inr (Or.inr (Or.inr (Or.inr ⟨rfl, rfl, rfl⟩)))) (D d42_4) e1 ?_ (by decide) (by decide)
  exact ⟨rfl, N0, rfl⟩
theorem own_ia {fs : List Value} (h : ∀ v ∈ fs, ∃ x : Int32, v = .int x) (j : Nat) (hj : j < fs.length) : ∃ x : Int32, fs.getD j (.int (0 : Int32)) = .int x := by
  obtain ⟨x, e⟩ := h _ (List.getElem_mem hj)
  exact ⟨x, by rw [List.getD_eq_getElem?_getD, List.getElem?_eq_getElem hj]; exact e⟩
theorem lq_of {L fs : List Value} {o : Nat} {p n2 nt : Int32} (S : Seg L fs o) (hp : p.toInt = (o : Int)) (l : Ln nt L) (l2 : Ln n2 fs) (hI : ∀ j, j < fs.length → ∃ x : Int32, fs.getD j (.int (0 : Int32)) = .int x) (h : L.length ≤ 200) : Lq p nt L n2 fs := by
  have a := l.2
  have b := l2.2
  have c := S.1
  refine ⟨by omega, by omega, by omega, by omega, fun j hj => ?_⟩
  have hj' : j < fs.length := by omega
  obtain ⟨x, e⟩ := hI j hj'
  refine ⟨x, ?_, e⟩
  have q : p.toNatClampNeg + j = o + j := by simp only [Int32.toNatClampNeg]; omega
  rw [q, S.2 j hj' _]; exact e
theorem own_nlt {x : Int32} (h : 0 ≤ x.toInt) : ¬ x < 0 := by
  have e0 : (0 : Int32).toInt = 0 := by decide
  rw [Int32.lt_iff_toInt_lt]; omega
theorem own_dx {x : Int32} (h : 0 ≤ x.toInt) : (dsL x).length = dgs (nAbs x) := by rw [dsL_len, if_neg (own_nlt h)]; omega
theorem own_dgq {L : List Value} {x p n nt : Int32} {o : Nat} (S : Seg L (dsL x) o) (h : 0 ≤ x.toInt) (hn : n.toInt = (dgs (nAbs x) : Int)) (hp : p.toInt = (o : Int)) (l : Ln nt L) (h2 : L.length ≤ 200) : Dg p n nt (nAbs x) L := by
  have hl := own_dx h
  have h1 := l.2
  have s1 := S.1
  refine ⟨nAbs_le x, hn, by omega, by omega, by omega, fun j hj => ?_⟩
  have e : p.toNatClampNeg + j = o + j := by simp only [Int32.toNatClampNeg]; omega
  rw [e, S.2 j (by omega) _]
  have q := dsL_at x j (.int (0 : Int32)) hj
  rw [if_neg (own_nlt h), Nat.zero_add] at q; exact q
theorem own_l200 (x y : Int32) {nm : List Value} (h : nm.length ≤ 3) : (ML x y nm).length ≤ 200 := by
  have a := dsL_b x
  have b := dsL_b y
  rw [ml_len]; omega
theorem own_ad {a b : Int32} {m n : Nat} (e : a.toInt = (m : Int)) (f : b.toInt = (n : Int)) (h : m ≤ 1000) (g : n ≤ 1000) : (a + b).toInt = ((m + n : Nat) : Int) := by
  have x := c_iadd a b
  have r := rng32 (a + b)
  omega
/-- where the parts of the message stand -/
theorem own_pos {x y dl dc : Int32} (hx : 0 ≤ x.toInt) (hy : 0 ≤ y.toInt) (ed : dl.toInt = (dgs (nAbs x) : Int)) (ec : dc.toInt = (dgs (nAbs y) : Int)) : ((5 : Int32) + dl).toInt = ((5 + (dsL x).length : Nat) : Int) ∧ (((5 : Int32) + dl) + (9 : Int32)).toInt = ((5 + (dsL x).length + 9 : Nat) : Int) ∧ ((((5 : Int32) + dl) + (9 : Int32)) + dc).toInt = ((5 + (dsL x).length + 9 + (dsL y).length : Nat) : Int) ∧ (((((5 : Int32) + dl) + (9 : Int32)) + dc) + (2 : Int32)).toInt = ((5 + (dsL x).length + 9 + (dsL y).length + 2 : Nat) : Int) := by
  have a := dsL_b x
  have b := dsL_b y
  rw [← own_dx hx] at ed
  rw [← own_dx hy] at ec
  have q1 := own_ad (a := 5) (m := 5) (by decide) ed (by decide) (by omega)
  have q2 := own_ad (b := 9) (n := 9) q1 (by decide) (by omega) (by decide)
  have q3 := own_ad q2 ec (by omega) (by omega)
  exact ⟨q1, q2, q3, own_ad (b := 2) (n := 2) q3 (by decide) (by omega) (by decide)⟩
theorem own_tot {x y nt dl dc pl : Int32} {nm : List Value} (hx : 0 ≤ x.toInt) (hy : 0 ≤ y.toInt) (ed : dl.toInt = (dgs (nAbs x) : Int)) (ec : dc.toInt = (dgs (nAbs y) : Int)) (lp : Ln pl nm) (z : nm.length ≤ 3) (lr : Ln nt (ML x y nm)) : nt = ((((((5 : Int32) + dl) + (9 : Int32)) + dc) + (2 : Int32)) + pl) := by
  have a := dsL_b x
  have b := dsL_b y
  have q := own_ad (own_pos hx hy ed ec).2.2.2 lp.2 (by omega) (by omega)
  rw [← Int32.toInt_inj, q, lr.2, ml_len]
theorem own_chr {x y nt i c : Int32} {nm : List Value} {j : Nat} (lr : Ln nt (ML x y nm)) (t : i.toInt = ((5 + (dsL x).length + 9 + (dsL y).length + 2 + j : Nat) : Int)) (h : j < nm.length) (e : nm.getD j (.int (0 : Int32)) = .int c) : ¬ i < (0 : Int32) ∧ i < nt ∧ (ML x y nm).getD i.toNatClampNeg (.int (0 : Int32)) = .int c := by
  have l := lr.2
  rw [ml_len] at l
  have e0 : (0 : Int32).toInt = 0 := by decide
  have k : i.toNatClampNeg = 5 + (dsL x).length + 9 + (dsL y).length + 2 + j := by simp only [Int32.toNatClampNeg]; omega
  refine ⟨?_, ?_, by rw [k, (ml_n x y nm).2 j h]; exact e⟩
  · rw [Int32.lt_iff_toInt_lt]; omega
  · rw [Int32.lt_iff_toInt_lt]; omega
theorem own_gtl {pl c : Int32} {nm : List Value} {k : Nat} (l : Ln pl nm) (h : c < pl) (e : c.toInt = (k : Int)) : k < nm.length := by
  rw [Int32.lt_iff_toInt_lt] at h; have := l.2; omega
theorem own_le {pl a b : Int32} (h : ¬ a < pl) (e : a < b) : ¬ b < pl := by
  rw [Int32.lt_iff_toInt_lt] at *; omega
theorem own_an {y x : Int32} (h : y = (x &&& (2147483647 : Int32))) : 0 ≤ y.toInt := by
  rw [h]; exact (c_and x 2147483647 (by decide)).1
theorem own_m4 {y x : Int32} (h : y = ((x &&& (2147483647 : Int32)) % (4 : Int32))) (h0 : ¬ y = (0 : Int32)) (h1 : ¬ y = (1 : Int32)) (h2 : ¬ y = (2 : Int32)) : y = (3 : Int32) := by
  have m := (c_and x 2147483647 (by decide)).1
  have e4 : (4 : Int32).toInt = 4 := by decide
  have q := (c_iremV (x &&& 2147483647) 4).1 m (by omega)
  rw [← h] at q
  have e0 : (0 : Int32).toInt = 0 := by decide
  have e1 : (1 : Int32).toInt = 1 := by decide
  have e2 : (2 : Int32).toInt = 2 := by decide
  have e3 : (3 : Int32).toInt = 3 := by decide
  rw [← Int32.toInt_inj] at *
  omega
theorem own_y0 : ∀ k : Fin 256, ¬ (255 : Int32) < (nar .char (Int32.ofNat k.val)) ∧ (caL (nar .byte ((nar .char (Int32.ofNat k.val)).toInt8.toInt32))) = Int32.ofNat k.val := by decide +kernel
theorem own_yv : ∀ k : Fin 256, ¬ (255 : Int32) < (Int32.ofNat k.val) ∧ (nar .byte ((Int32.ofNat k.val).toInt8.toInt32)) = (nar .byte ((nar .char (Int32.ofNat k.val)).toInt8.toInt32)) := by decide +kernel
theorem own_yk {y x : Int32} (h : y = ((x &&& (255 : Int32)).toUInt32.toUInt16.toUInt32.toInt32)) : ∃ k : Fin 256, y = Int32.ofNat k.val := by
  have a := c_and x 255 (by decide)
  have c := c_i2c (x &&& 255)
  have e : (255 : Int32).toInt = 255 := by decide
  rw [← h] at c
  refine ⟨⟨y.toInt.toNat, by omega⟩, ?_⟩
  rw [← Int32.toInt_inj]
  show y.toInt = (Int32.ofNat y.toInt.toNat).toInt
  rw [Int32.toInt_ofNat_of_lt (by omega)]; omega
theorem own_y {y x : Int32} (h : y = ((x &&& (255 : Int32)).toUInt32.toUInt16.toUInt32.toInt32)) : ¬ (255 : Int32) < (nar .char y) ∧ (caL (nar .byte ((nar .char y).toInt8.toInt32))) = y ∧ ¬ (255 : Int32) < y ∧ (nar .byte (y.toInt8.toInt32)) = (nar .byte ((nar .char y).toInt8.toInt32)) := by
  obtain ⟨k, rfl⟩ := own_yk h
  exact ⟨(own_y0 k).1, (own_y0 k).2, (own_yv k).1, (own_yv k).2⟩
theorem own_lnp {pl c : Int32} {es : List Value} (h : pl = c) (l : Ln c es) : Ln pl es := h ▸ l
def QL (n0 : Nat) : Option Value → Heap → List Loc → Prop := fun v h L => v = some (.int (1 : Int32)) ∧ Fr n0 L
theorem pd__Ljava_lang_String_ILjava_lang_String__Z : parseMethodDescriptor "(Ljava/lang/String;ILjava/lang/String;)Z" = some ⟨[(.object "java/lang/String"), .int, (.object "java/lang/String")], some .boolean⟩ := by decide +kernel
theorem pd__Ljava_lang_String_III_Z : parseMethodDescriptor "(Ljava/lang/String;III)Z" = some ⟨[(.object "java/lang/String"), .int, .int, .int], some .boolean⟩ := by decide +kernel
theorem pd__IILjava_lang_String__Lcom_example_hearsay_rules_hearsayrules_InvalidJsonException_ : parseMethodDescriptor "(IILjava/lang/String;)Lcom/example/hearsay_rules/hearsayrules/InvalidJsonException;" = some ⟨[.int, .int, (.object "java/lang/String")], some (.object "com/example/hearsay_rules/hearsayrules/InvalidJsonException")⟩ := by decide +kernel
theorem pd___C_V : parseMethodDescriptor "([C)V" = some ⟨[(.array .char)], none⟩ := by decide +kernel
theorem pd__C_Ljava_lang_String_ : parseMethodDescriptor "(C)Ljava/lang/String;" = some ⟨[.char], some (.object "java/lang/String")⟩ := by decide +kernel
/-- what a piece of a walk knows of its run -/
def Stp (p : Program) (Z s : State) (m : MethodId) (meth : Method) (c : Code) (bytes : ByteArray) (ml : Nat) (rt : Option FieldType) (y : MethodName) : Prop :=
  p.tables.exec = Jvm.exec ∧ c.code = bytes ∧ c.maxLocals = ml ∧ meth.name = y.name ∧ meth.locks = false ∧ meth.sig.returnType = rt ∧ Z.Warmed39 s.vm ∧ s.vm.findClass y.cls = some m.cls
set_option maxRecDepth 65536 in
set_option maxHeartbeats 40000000 in
theorem rm0_P298 (l : Launch) (Z : State) (a0 : Array Value) (hw : ∀ d ∈ tables_1, d.before a0 Z = true) (p1 : Int32) (p2 : Int32) (p3 : Int32) (p4 : Int32) (p5 : Int32) (p6 : Int32) (wO : Addr) (wT : Addr) (kO : ClassId) (kT : ClassId) (iC : Int32) (vF : Value) (vU : Value) (vS : Value) (h0 : Heap) (n0 : Nat) (O0 : Old Z n0 h0) (hlt : l.stackTraces = true) (WW : World1 Z wO wT kO kT iC vF vU vS) {p : Program} {e : Env} {s : State} {m : MethodId} {below : List Frame} {meth : Method} {c : Code} (St : Stp p Z s m meth c code maxLocals ret x) (hh : s.heap = h0) (hTK : s.vm.MethodsKnown) (hBelow : s.vm.FramesKnown below) :
    ∀ (TJ1 : State) (hJ1 : Heap) (vmJ1 : Vm) (kJ1 : Nat) (LJ1 : List Loc) (ln : Int32) (cl : Int32) (pl : Int32) (y0 : Int32) (y1 : Int32) (y2 : Int32) (dr : Addr) (es1 : List Value) (r0 : Addr) (tr : Addr) (kr : ClassId) (nt : Int32) (dl : Int32) (dc : Int32) (pv : Int32), (Stand p l e room_1 (s.setVm vmJ1) m #[(.int p1), (.int p2), (.int p3), (.int p4), (.int p5), (.int p6)] below meth c TJ1 LJ1 50 4546) → (TJ1.heap = hJ1) → (Old Z n0 hJ1) → (Fr n0 LJ1) → (s.Since vmJ1 kJ1) → (kJ1 ≤ hJ1.size) → (Z.Warmed39 (s.setVm vmJ1).vm) → ((s.setVm vmJ1).vm.findClass "com/example/hearsay_rules/hearsayrules/InvalidJsonExceptionAtPinLaw" = some m.cls) → (CHr Z EL s.vm h0 vmJ1 hJ1) → (0 ≤ ln.toInt) → (0 ≤ cl.toInt) → (Ln pl es1) → (es1.length ≤ 3) → (1 ≤ es1.length → es1.getD 0 (.int (0 : Int32)) = .int (nar .byte ((nar .char y0).toInt8.toInt32))) → (2 ≤ es1.length → es1.getD 1 (.int (0 : Int32)) = .int (nar .byte ((nar .char y1).toInt8.toInt32))) → (3 ≤ es1.length → es1.getD 2 (.int (0 : Int32)) = .int (nar .byte ((nar .char y2).toInt8.toInt32))) → ((caL (nar .byte ((nar .char y0).toInt8.toInt32))) = y0) → ((caL (nar .byte ((nar .char y1).toInt8.toInt32))) = y1) → ((caL (nar .byte ((nar .char y2).toInt8.toInt32))) = y2) → (Ln nt (ML ln cl es1)) → (dl.toInt = (dgs (nAbs ln) : Int)) → (dc.toInt = (dgs (nAbs cl) : Int)) → (Exa Z hJ1 r0 "java/lang/String") → (Fld Z hJ1 r0 "java/lang/String" "coder" "B" (.int (0 : Int32))) → (Fld Z hJ1 r0 "java/lang/String" "value" "[B" (.ref tr)) → (Arv Z hJ1 tr kr .byte nt (ML ln cl es1) (.int (0 : Int32))) → (pv.toInt = ((5 + (dsL ln).length + 9 + (dsL cl).length + 2 : Nat) : Int)) → Go p e below (DoneW s Z EL (QL n0) room_1.cells room_1.slots) TJ1 (mkF m 298 #[iv p1, iv p2, iv p3, iv p4, iv p5, iv p6, iv ln, iv cl, iv pl, iv y0, iv y1, iv y2, rv dr, rv r0, iv dl, iv dc, iv pv] []) := by
  obtain ⟨hx, hby, hml, hnm, hlk, hret, hZ, hown⟩ := St
  have hEL := own_EL hw
  have wS := own_wS hw
  have hZ0 := hZ
  have N0 := Fr.nil n0
  have D := @hb _ _ hby
  have ⟨S_iC, nz_iC, S_vF, r_vF, S_vU, r_vU, S_vS, r_vS, S_wO, E_wO, S_wT, E_wT, V_wO, V_wT⟩ := WW
  have lt_wO := E_wO.lt
  have lt_wT := E_wT.lt
  intro TJ1 hJ1 vmJ1 kJ1 LJ1 ln cl pl y0 y1 y2 dr es1 r0 tr kr nt dl dc pv XJ1 eJ1 OJ1 NJ1 hSJ1 hkJ1 hZJ1 hownJ1 CRJ1 hln hcl lp z1 hc0 hc1 hc2 ey0 ey1 ey2 lr ed ec E_r0 F_r0_coder F_r0_value V_tr tp
  have lt_r0 := E_r0.lt
  have lt_tr := V_tr.lt
  have tb : 5 + (dsL ln).length + 9 + (dsL cl).length + 2 ≤ 1000 := by have a := dsL_b ln; have b := dsL_b cl; omega
  refine zil 300 XJ1 hx (D at_298) rfl ?_
  by_cases cd2 : (0 : Int32) < pl
  · refine zfn 303 XJ1 hx (D at_300) ((if0 _ _).trans (tlt cd2).2.2.2) ?_
    refine zal 305 XJ1 hx (D at_303) rfl rfl ?_
    refine zil 307 XJ1 hx (D at_305) rfl ?_
    have hj4 := own_gtl lp cd2 (k := 0) (by decide)
    have chj4 := own_chr (i := pv) (j := 0) lr (tp.trans (congrArg Nat.cast (Nat.add_zero _).symm)) hj4 (hc0 hj4)
    refine gV 310 0 50 4546 XJ1 NJ1 hx hZJ1 (y := mq15) hownJ1 hml (ww hw 256 rfl) (ww hw 257 rfl) (ww hw 259 rfl) (ww hw 258 rfl) (ca0 l Z a0 hw [] r0 tr kr nt (ML ln cl es1) pv (nar .byte ((nar .char y0).toInt8.toInt32)) wO wT kO kT iC vF vU vS hJ1 n0 OJ1 chj4.1 chj4.2.1 chj4.2.2 E_r0 F_r0_coder F_r0_value V_tr WW) (ww hw 260 rfl) (ww hw 3 rfl) eJ1 E_r0 [(.int pv)] [] (lenOf pd__I_C rfl) (D at_307) ?_
    rintro T3 L3 M3 _ X3 uu3 ⟨rfl, Nq3, kq3⟩
    have N3 := uu3 Nq3
    refine zsk [(.int (caL (nar .byte ((nar .char y0).toInt8.toInt32))))] ?_
    refine zil 312 X3 hx (D at_310) rfl ?_
    refine zcy 317 X3 hx (D at_312) (teq ey0).1 ?_
    refine zil 319 X3 hx (D at_317) rfl ?_
    refine zic 320 1 X3 hx (D at_319) ?_
    by_cases cd5 : (1 : Int32) < pl
    · refine zcn 323 X3 hx (D at_320) (tlt cd5).2.2.2 ?_
      refine zal 325 X3 hx (D at_323) rfl rfl ?_
      refine zil 327 X3 hx (D at_325) rfl ?_
      refine zic 328 1 X3 hx (D at_327) ?_
      refine zad 329 X3 hx (D at_328) ?_
      have hj7 := own_gtl lp cd5 (k := 1) (by decide)
      have chj7 := own_chr (i := (pv + (1 : Int32))) (j := 1) lr (own_ad (b := 1) (n := 1) tp (by decide) tb (by decide)) hj7 (hc1 hj7)
      refine gV 332 0 50 4546 X3 N3 hx hZJ1 (y := mq15) hownJ1 hml (ww hw 256 rfl) (ww hw 257 rfl) (ww hw 259 rfl) (ww hw 258 rfl) (ca0 l Z a0 hw [] r0 tr kr nt (ML ln cl es1) (pv + (1 : Int32)) (nar .byte ((nar .char y1).toInt8.toInt32)) wO wT kO kT iC vF vU vS hJ1 n0 OJ1 chj7.1 chj7.2.1 chj7.2.2 E_r0 F_r0_coder F_r0_value V_tr WW) (ww hw 260 rfl) (ww hw 3 rfl) kq3 E_r0 [(.int (pv + (1 : Int32)))] [] (lenOf pd__I_C rfl) (D at_329) ?_
      rintro T6 L6 M6 _ X6 uu6 ⟨rfl, Nq6, kq6⟩
      have N6 := uu6 Nq6
      refine zsk [(.int (caL (nar .byte ((nar .char y1).toInt8.toInt32))))] ?_
      refine zil 334 X6 hx (D at_332) rfl ?_
      refine zcy 339 X6 hx (D at_334) (teq ey1).1 ?_
      refine zil 341 X6 hx (D at_339) rfl ?_
      refine zic 342 2 X6 hx (D at_341) ?_
      by_cases cd8 : (2 : Int32) < pl
      · refine zcn 345 X6 hx (D at_342) (tlt cd8).2.2.2 ?_
        refine zal 347 X6 hx (D at_345) rfl rfl ?_
        refine zil 349 X6 hx (D at_347) rfl ?_
        refine zic 350 2 X6 hx (D at_349) ?_
        refine zad 351 X6 hx (D at_350) ?_
        have hj10 := own_gtl lp cd8 (k := 2) (by decide)
        have chj10 := own_chr (i := (pv + (2 : Int32))) (j := 2) lr (own_ad (b := 2) (n := 2) tp (by decide) tb (by decide)) hj10 (hc2 hj10)
        refine gV 354 0 50 4546 X6 N6 hx hZJ1 (y := mq15) hownJ1 hml (ww hw 256 rfl) (ww hw 257 rfl) (ww hw 259 rfl) (ww hw 258 rfl) (ca0 l Z a0 hw [] r0 tr kr nt (ML ln cl es1) (pv + (2 : Int32)) (nar .byte ((nar .char y2).toInt8.toInt32)) wO wT kO kT iC vF vU vS hJ1 n0 OJ1 chj10.1 chj10.2.1 chj10.2.2 E_r0 F_r0_coder F_r0_value V_tr WW) (ww hw 260 rfl) (ww hw 3 rfl) kq6 E_r0 [(.int (pv + (2 : Int32)))] [] (lenOf pd__I_C rfl) (D at_351) ?_
        rintro T9 L9 M9 _ X9 uu9 ⟨rfl, Nq9, kq9⟩
        have N9 := uu9 Nq9
        refine zsk [(.int (caL (nar .byte ((nar .char y2).toInt8.toInt32))))] ?_
        refine zil 356 X9 hx (D at_354) rfl ?_
        refine zcy 361 X9 hx (D at_356) (teq ey2).1 ?_
        refine zic 362 1 X9 hx (D at_361) ?_
        refine GoW.retB X9 hlk hx (t := .boolean) hret (by simp) (D at_362) kq9 hSJ1 hkJ1 hZJ1 hEL CRJ1 hh ?_ (by decide) (by decide)
        exact ⟨rfl, N9⟩
      · refine zcy 361 X6 hx (D at_342) (flt cd8).2.2.2 ?_
        refine zic 362 1 X6 hx (D at_361) ?_
        refine GoW.retB X6 hlk hx (t := .boolean) hret (by simp) (D at_362) kq6 hSJ1 hkJ1 hZJ1 hEL CRJ1 hh ?_ (by decide) (by decide)
        exact ⟨rfl, N6⟩
    · refine zcy 339 X3 hx (D at_320) (flt cd5).2.2.2 ?_
      refine zil 341 X3 hx (D at_339) rfl ?_
      refine zic 342 2 X3 hx (D at_341) ?_
      refine zcy 361 X3 hx (D at_342) (flt (own_le cd5 (by decide))).2.2.2 ?_
      refine zic 362 1 X3 hx (D at_361) ?_
      refine GoW.retB X3 hlk hx (t := .boolean) hret (by simp) (D at_362) kq3 hSJ1 hkJ1 hZJ1 hEL CRJ1 hh ?_ (by decide) (by decide)
      exact ⟨rfl, N3⟩
  · refine zfy 317 XJ1 hx (D at_300) ((if0 _ _).trans (flt cd2).2.2.2) ?_
    refine zil 319 XJ1 hx (D at_317) rfl ?_
    refine zic 320 1 XJ1 hx (D at_319) ?_
    refine zcy 339 XJ1 hx (D at_320) (flt (own_le cd2 (by decide))).2.2.2 ?_
    refine zil 341 XJ1 hx (D at_339) rfl ?_
    refine zic 342 2 XJ1 hx (D at_341) ?_
    refine zcy 361 XJ1 hx (D at_342) (flt (own_le cd2 (by decide))).2.2.2 ?_
    refine zic 362 1 XJ1 hx (D at_361) ?_
    refine GoW.retB XJ1 hlk hx (t := .boolean) hret (by simp) (D at_362) eJ1 hSJ1 hkJ1 hZJ1 hEL CRJ1 hh ?_ (by decide) (by decide)
    exact ⟨rfl, NJ1⟩
set_option maxRecDepth 65536 in
set_option maxHeartbeats 40000000 in
theorem rm0_P200 (l : Launch) (Z : State) (a0 : Array Value) (hw : ∀ d ∈ tables_1, d.before a0 Z = true) (p1 : Int32) (p2 : Int32) (p3 : Int32) (p4 : Int32) (p5 : Int32) (p6 : Int32) (wO : Addr) (wT : Addr) (kO : ClassId) (kT : ClassId) (iC : Int32) (vF : Value) (vU : Value) (vS : Value) (h0 : Heap) (n0 : Nat) (O0 : Old Z n0 h0) (hlt : l.stackTraces = true) (WW : World1 Z wO wT kO kT iC vF vU vS) {p : Program} {e : Env} {s : State} {m : MethodId} {below : List Frame} {meth : Method} {c : Code} (St : Stp p Z s m meth c code maxLocals ret x) (hh : s.heap = h0) (hTK : s.vm.MethodsKnown) (hBelow : s.vm.FramesKnown below) :
    ∀ (TJ11 : State) (hJ11 : Heap) (vmJ11 : Vm) (kJ11 : Nat) (LJ11 : List Loc) (ln : Int32) (cl : Int32) (pl : Int32) (y0 : Int32) (y1 : Int32) (y2 : Int32) (dr : Addr) (es1 : List Value) (r0 : Addr) (tr : Addr) (kr : ClassId) (nt : Int32) (dl : Int32) (dc : Int32), (Stand p l e room_1 (s.setVm vmJ11) m #[(.int p1), (.int p2), (.int p3), (.int p4), (.int p5), (.int p6)] below meth c TJ11 LJ11 24 4270) → (TJ11.heap = hJ11) → (Old Z n0 hJ11) → (Fr n0 LJ11) → (s.Since vmJ11 kJ11) → (kJ11 ≤ hJ11.size) → (Z.Warmed39 (s.setVm vmJ11).vm) → ((s.setVm vmJ11).vm.findClass "com/example/hearsay_rules/hearsayrules/InvalidJsonExceptionAtPinLaw" = some m.cls) → (CHr Z EL s.vm h0 vmJ11 hJ11) → (0 ≤ ln.toInt) → (0 ≤ cl.toInt) → (Ln pl es1) → (es1.length ≤ 3) → (1 ≤ es1.length → es1.getD 0 (.int (0 : Int32)) = .int (nar .byte ((nar .char y0).toInt8.toInt32))) → (2 ≤ es1.length → es1.getD 1 (.int (0 : Int32)) = .int (nar .byte ((nar .char y1).toInt8.toInt32))) → (3 ≤ es1.length → es1.getD 2 (.int (0 : Int32)) = .int (nar .byte ((nar .char y2).toInt8.toInt32))) → ((caL (nar .byte ((nar .char y0).toInt8.toInt32))) = y0) → ((caL (nar .byte ((nar .char y1).toInt8.toInt32))) = y1) → ((caL (nar .byte ((nar .char y2).toInt8.toInt32))) = y2) → (Ln nt (ML ln cl es1)) → (dl.toInt = (dgs (nAbs ln) : Int)) → (dc.toInt = (dgs (nAbs cl) : Int)) → (Exa Z hJ11 r0 "java/lang/String") → (Fld Z hJ11 r0 "java/lang/String" "coder" "B" (.int (0 : Int32))) → (Fld Z hJ11 r0 "java/lang/String" "value" "[B" (.ref tr)) → (Arv Z hJ11 tr kr .byte nt (ML ln cl es1) (.int (0 : Int32))) → Go p e below (DoneW s Z EL (QL n0) room_1.cells room_1.slots) TJ11 (mkF m 200 #[iv p1, iv p2, iv p3, iv p4, iv p5, iv p6, iv ln, iv cl, iv pl, iv y0, iv y1, iv y2, rv dr, rv r0, iv dl, iv dc, .unset] []) := by
  obtain ⟨hx, hby, hml, hnm, hlk, hret, hZ, hown⟩ := St
  have hEL := own_EL hw
  have wS := own_wS hw
  have hZ0 := hZ
  have N0 := Fr.nil n0
  have D := @hb _ _ hby
  have ⟨S_iC, nz_iC, S_vF, r_vF, S_vU, r_vU, S_vS, r_vS, S_wO, E_wO, S_wT, E_wT, V_wO, V_wT⟩ := WW
  have lt_wO := E_wO.lt
  have lt_wT := E_wT.lt
  have P298 := @rm0_P298 l Z a0 hw p1 p2 p3 p4 p5 p6 wO wT kO kT iC vF vU vS h0 n0 O0 hlt WW p e s m below meth c ⟨hx, hby, hml, hnm, hlk, hret, hZ, hown⟩ hh hTK hBelow
  intro TJ11 hJ11 vmJ11 kJ11 LJ11 ln cl pl y0 y1 y2 dr es1 r0 tr kr nt dl dc XJ11 eJ11 OJ11 NJ11 hSJ11 hkJ11 hZJ11 hownJ11 CRJ11 hln hcl lp z1 hc0 hc1 hc2 ey0 ey1 ey2 lr ed ec E_r0 F_r0_coder F_r0_value V_tr
  have lt_r0 := E_r0.lt
  have lt_tr := V_tr.lt
  have ps := own_pos hln hcl ed ec
  have l2 := own_l200 ln cl z1
  refine zal 202 XJ11 hx (D at_200) rfl rfl ?_
  refine zic 203 0 XJ11 hx (D at_202) ?_
  obtain ⟨b12, T12, h12, k112, t12, kt12, X12, e12, E12, hS12, hk12, hZ12, hown12, A12, cq12, fq12, vq12, lt_b12, lt_t12, crw12, -, sfx12, st12⟩ := ldcCH (EL := EL) XJ11 hx hZJ11 hownJ11 (ww hw 249 rfl) wS eJ11 hSJ11 hkJ11 hEL (List.mem_of_getElem? (i := 3) rfl) CRJ11.1 (vs := [(.int (108 : Int32)), (.int (105 : Int32)), (.int (110 : Int32)), (.int (101 : Int32)), (.int (32 : Int32))]) (z := (5 : Int32)) ⟨by decide, by decide⟩ (by decide) rfl (g := (mkF m 203 #[iv p1, iv p2, iv p3, iv p4, iv p5, iv p6, iv ln, iv cl, iv pl, iv y0, iv y1, iv y2, rv dr, rv r0, iv dl, iv dc, .unset] [(.int 0), (.ref r0)])) rfl (D at_203) (n := 20) (by decide) (by decide) (by decide) (by decide)
  have O12 : Old Z n0 h12 := OJ11.ext E12
  have CR12 := CRJ11.trans crw12
  refine zst 205 #[iv p1, iv p2, iv p3, iv p4, iv p5, iv p6, iv ln, iv cl, iv pl, iv y0, iv y1, iv y2, rv dr, rv r0, iv dl, iv dc, .unset] [(.ref b12), (.int 0), (.ref r0)] st12 ?_
  have ft14 := (E_r0.ext E12)
  have ft15 := (F_r0_coder.ext E12)
  have ft16 := (F_r0_value.ext E12)
  have ft17 := (V_tr.ext E12)
  refine gS 208 0 26 4294 X12 NJ11 hx hZ12 (y := mq48) hown12 hml (ww hw 250 rfl) (ww hw 251 rfl) (ww hw 246 rfl) (rmLt l Z a0 hw [] r0 tr kr nt (ML ln cl es1) (0 : Int32) b12 t12 kt12 (5 : Int32) [(.int (108 : Int32)), (.int (105 : Int32)), (.int (110 : Int32)), (.int (101 : Int32)), (.int (32 : Int32))] wO wT kO kT iC vF vU vS h12 n0 O12 (lq_of (ml_a ln cl es1) (by decide) lr ⟨by decide, by decide⟩ (own_ia (fun v hv => by simp only [List.mem_cons, List.not_mem_nil, or_false] at hv; rcases hv with rfl | rfl | rfl | rfl | rfl <;> exact ⟨_, rfl⟩)) l2) ft14 ft15 ft16 ft17 A12 cq12 fq12 vq12 WW) (ww hw 252 rfl) e12 [(.ref r0), (.int 0), (.ref b12)] [] (lenOf pd__Ljava_lang_String_ILjava_lang_String__Z rfl) (D at_205) ?_
  rintro T13 L13 M13 _ X13 uu13 ⟨rfl, Nq13, kq13⟩
  have N13 := uu13 Nq13
  refine zsk [(.int 1)] ?_
  refine zfy 213 X13 hx (D at_208) (by decide) ?_
  refine zal 215 X13 hx (D at_213) rfl rfl ?_
  refine zic 216 5 X13 hx (D at_215) ?_
  refine zil 218 X13 hx (D at_216) rfl ?_
  refine zil 220 X13 hx (D at_218) rfl ?_
  refine gS 223 0 36 4394 X13 N13 hx hZ12 (y := mq46) hown12 hml (ww hw 278 rfl) (ww hw 279 rfl) (ww hw 246 rfl) (rmNm l Z a0 hw [] r0 tr kr nt (ML ln cl es1) (5 : Int32) ln (nAbs ln) dl wO wT kO kT iC vF vU vS h12 n0 O12 (own_dgq (ml_x ln cl es1) hln ed (by decide) lr l2) (own_na hln) ft14 ft15 ft16 ft17 WW) (ww hw 280 rfl) kq13 [(.ref r0), (.int 5), (.int ln), (.int dl)] [] (lenOf pd__Ljava_lang_String_III_Z rfl) (D at_220) ?_
  rintro T18 L18 M18 _ X18 uu18 ⟨rfl, Nq18, kq18⟩
  have N18 := uu18 Nq18
  have O18 : Old Z n0 T18.heap := O12.keep kq18 all0
  have CR18 : CHr Z EL s.vm h0 T12.vm T18.heap := CR12.trans (CHr.keep kq18 sf0 CR12.1)
  refine zsk [(.int 1)] ?_
  refine zfy 228 X18 hx (D at_223) (by decide) ?_
  refine zic 229 5 X18 hx (D at_228) ?_
  refine zil 231 X18 hx (D at_229) rfl ?_
  refine zad 232 X18 hx (D at_231) ?_
  refine zsl 234 #[iv p1, iv p2, iv p3, iv p4, iv p5, iv p6, iv ln, iv cl, iv pl, iv y0, iv y1, iv y2, rv dr, rv r0, iv dl, iv dc, .val (.int ((5 : Int32) + dl))] X18 hx (D at_232) ?_
  refine zal 236 X18 hx (D at_234) rfl rfl ?_
  refine zil 238 X18 hx (D at_236) rfl ?_
  have ft20 := (Nat.le_trans hk12 kq18.1)
  obtain ⟨b19, T19, h19, k119, t19, kt19, X19, e19, E19, hS19, hk19, hZ19, hown19, A19, cq19, fq19, vq19, lt_b19, lt_t19, crw19, -, sfx19, st19⟩ := ldcCH (EL := EL) X18 hx hZ12 hown12 (ww hw 297 rfl) wS rfl hS12 ft20 hEL (List.mem_of_getElem? (i := 4) rfl) CR18.1 (vs := [(.int (44 : Int32)), (.int (32 : Int32)), (.int (99 : Int32)), (.int (111 : Int32)), (.int (108 : Int32)), (.int (117 : Int32)), (.int (109 : Int32)), (.int (110 : Int32)), (.int (32 : Int32))]) (z := (9 : Int32)) ⟨by decide, by decide⟩ (by decide) rfl (g := (mkF m 238 #[iv p1, iv p2, iv p3, iv p4, iv p5, iv p6, iv ln, iv cl, iv pl, iv y0, iv y1, iv y2, rv dr, rv r0, iv dl, iv dc, .val (.int ((5 : Int32) + dl))] [(.int ((5 : Int32) + dl)), (.ref r0)])) rfl (D at_238) (n := 36) (by decide) (by decide) (by decide) (by decide)
  have O19 : Old Z n0 h19 := O18.ext E19
  have CR19 := CR18.trans crw19
  refine zst 240 #[iv p1, iv p2, iv p3, iv p4, iv p5, iv p6, iv ln, iv cl, iv pl, iv y0, iv y1, iv y2, rv dr, rv r0, iv dl, iv dc, .val (.int ((5 : Int32) + dl))] [(.ref b19), (.int ((5 : Int32) + dl)), (.ref r0)] st19 ?_
  have ft22 := ((ft14.keep kq18).ext E19)
  have ft23 := ((ft15.keep kq18 nin0).ext E19)
  have ft24 := ((ft16.keep kq18 nin0).ext E19)
  have ft25 := ((ft17.keep kq18 nin0).ext E19)
  refine gS 243 0 38 4434 X19 N18 hx hZ19 (y := mq48) hown19 hml (ww hw 250 rfl) (ww hw 251 rfl) (ww hw 246 rfl) (rmLt l Z a0 hw [] r0 tr kr nt (ML ln cl es1) ((5 : Int32) + dl) b19 t19 kt19 (9 : Int32) [(.int (44 : Int32)), (.int (32 : Int32)), (.int (99 : Int32)), (.int (111 : Int32)), (.int (108 : Int32)), (.int (117 : Int32)), (.int (109 : Int32)), (.int (110 : Int32)), (.int (32 : Int32))] wO wT kO kT iC vF vU vS h19 n0 O19 (lq_of (ml_c ln cl es1) ps.1 lr ⟨by decide, by decide⟩ (own_ia (fun v hv => by simp only [List.mem_cons, List.not_mem_nil, or_false] at hv; rcases hv with rfl | rfl | rfl | rfl | rfl | rfl | rfl | rfl | rfl <;> exact ⟨_, rfl⟩)) l2) ft22 ft23 ft24 ft25 A19 cq19 fq19 vq19 WW) (ww hw 252 rfl) e19 [(.ref r0), (.int ((5 : Int32) + dl)), (.ref b19)] [] (lenOf pd__Ljava_lang_String_ILjava_lang_String__Z rfl) (D at_240) ?_
  rintro T21 L21 M21 _ X21 uu21 ⟨rfl, Nq21, kq21⟩
  have N21 := uu21 Nq21
  refine zsk [(.int 1)] ?_
  refine zfy 248 X21 hx (D at_243) (by decide) ?_
  refine zil 250 X21 hx (D at_248) rfl ?_
  refine zbp 252 9 X21 hx (D at_250) ?_
  refine zad 253 X21 hx (D at_252) ?_
  refine zsl 255 #[iv p1, iv p2, iv p3, iv p4, iv p5, iv p6, iv ln, iv cl, iv pl, iv y0, iv y1, iv y2, rv dr, rv r0, iv dl, iv dc, .val (.int (((5 : Int32) + dl) + (9 : Int32)))] X21 hx (D at_253) ?_
  refine zal 257 X21 hx (D at_255) rfl rfl ?_
  refine zil 259 X21 hx (D at_257) rfl ?_
  refine zil 261 X21 hx (D at_259) rfl ?_
  refine zil 263 X21 hx (D at_261) rfl ?_
  refine gS 266 0 48 4534 X21 N21 hx hZ19 (y := mq46) hown19 hml (ww hw 278 rfl) (ww hw 279 rfl) (ww hw 246 rfl) (rmNm l Z a0 hw [] r0 tr kr nt (ML ln cl es1) (((5 : Int32) + dl) + (9 : Int32)) cl (nAbs cl) dc wO wT kO kT iC vF vU vS h19 n0 O19 (own_dgq (ml_y ln cl es1) hcl ec ps.2.1 lr l2) (own_na hcl) ft22 ft23 ft24 ft25 WW) (ww hw 280 rfl) kq21 [(.ref r0), (.int (((5 : Int32) + dl) + (9 : Int32))), (.int cl), (.int dc)] [] (lenOf pd__Ljava_lang_String_III_Z rfl) (D at_263) ?_
  rintro T26 L26 M26 _ X26 uu26 ⟨rfl, Nq26, kq26⟩
  have N26 := uu26 Nq26
  have O26 : Old Z n0 T26.heap := O19.keep kq26 all0
  have CR26 : CHr Z EL s.vm h0 T19.vm T26.heap := CR19.trans (CHr.keep kq26 sf0 CR19.1)
  refine zsk [(.int 1)] ?_
  refine zfy 271 X26 hx (D at_266) (by decide) ?_
  refine zil 273 X26 hx (D at_271) rfl ?_
  refine zil 275 X26 hx (D at_273) rfl ?_
  refine zad 276 X26 hx (D at_275) ?_
  refine zsl 278 #[iv p1, iv p2, iv p3, iv p4, iv p5, iv p6, iv ln, iv cl, iv pl, iv y0, iv y1, iv y2, rv dr, rv r0, iv dl, iv dc, .val (.int ((((5 : Int32) + dl) + (9 : Int32)) + dc))] X26 hx (D at_276) ?_
  refine zal 280 X26 hx (D at_278) rfl rfl ?_
  refine zil 282 X26 hx (D at_280) rfl ?_
  have ft28 := (Nat.le_trans hk19 kq26.1)
  obtain ⟨b27, T27, h27, k127, t27, kt27, X27, e27, E27, hS27, hk27, hZ27, hown27, A27, cq27, fq27, vq27, lt_b27, lt_t27, crw27, -, sfx27, st27⟩ := ldcCH (EL := EL) X26 hx hZ19 hown19 (ww hw 298 rfl) wS rfl hS19 ft28 hEL (List.mem_of_getElem? (i := 5) rfl) CR26.1 (vs := [(.int (58 : Int32)), (.int (32 : Int32))]) (z := (2 : Int32)) ⟨by decide, by decide⟩ (by decide) rfl (g := (mkF m 282 #[iv p1, iv p2, iv p3, iv p4, iv p5, iv p6, iv ln, iv cl, iv pl, iv y0, iv y1, iv y2, rv dr, rv r0, iv dl, iv dc, .val (.int ((((5 : Int32) + dl) + (9 : Int32)) + dc))] [(.int ((((5 : Int32) + dl) + (9 : Int32)) + dc)), (.ref r0)])) rfl (D at_282) (n := 8) (by decide) (by decide) (by decide) (by decide)
  have O27 : Old Z n0 h27 := O26.ext E27
  have CR27 := CR26.trans crw27
  refine zst 284 #[iv p1, iv p2, iv p3, iv p4, iv p5, iv p6, iv ln, iv cl, iv pl, iv y0, iv y1, iv y2, rv dr, rv r0, iv dl, iv dc, .val (.int ((((5 : Int32) + dl) + (9 : Int32)) + dc))] [(.ref b27), (.int ((((5 : Int32) + dl) + (9 : Int32)) + dc)), (.ref r0)] st27 ?_
  have ft30 := ((ft22.keep kq26).ext E27)
  have ft31 := ((ft23.keep kq26 nin0).ext E27)
  have ft32 := ((ft24.keep kq26 nin0).ext E27)
  have ft33 := ((ft25.keep kq26 nin0).ext E27)
  refine gS 287 0 50 4546 X27 N26 hx hZ27 (y := mq48) hown27 hml (ww hw 250 rfl) (ww hw 251 rfl) (ww hw 246 rfl) (rmLt l Z a0 hw [] r0 tr kr nt (ML ln cl es1) ((((5 : Int32) + dl) + (9 : Int32)) + dc) b27 t27 kt27 (2 : Int32) [(.int (58 : Int32)), (.int (32 : Int32))] wO wT kO kT iC vF vU vS h27 n0 O27 (lq_of (ml_s ln cl es1) ps.2.2.1 lr ⟨by decide, by decide⟩ (own_ia (fun v hv => by simp only [List.mem_cons, List.not_mem_nil, or_false] at hv; rcases hv with rfl | rfl <;> exact ⟨_, rfl⟩)) l2) ft30 ft31 ft32 ft33 A27 cq27 fq27 vq27 WW) (ww hw 252 rfl) e27 [(.ref r0), (.int ((((5 : Int32) + dl) + (9 : Int32)) + dc)), (.ref b27)] [] (lenOf pd__Ljava_lang_String_ILjava_lang_String__Z rfl) (D at_284) ?_
  rintro T29 L29 M29 _ X29 uu29 ⟨rfl, Nq29, kq29⟩
  have N29 := uu29 Nq29
  refine zsk [(.int 1)] ?_
  refine zfy 292 X29 hx (D at_287) (by decide) ?_
  refine zil 294 X29 hx (D at_292) rfl ?_
  refine zic 295 2 X29 hx (D at_294) ?_
  refine zad 296 X29 hx (D at_295) ?_
  refine zsl 298 #[iv p1, iv p2, iv p3, iv p4, iv p5, iv p6, iv ln, iv cl, iv pl, iv y0, iv y1, iv y2, rv dr, rv r0, iv dl, iv dc, .val (.int (((((5 : Int32) + dl) + (9 : Int32)) + dc) + (2 : Int32)))] X29 hx (D at_296) ?_
  exact P298 _ h27 T27.vm _ _ ln cl pl y0 y1 y2 dr es1 r0 tr kr nt dl dc (((((5 : Int32) + dl) + (9 : Int32)) + dc) + (2 : Int32)) X29 kq29 O27 N29 hS27 hk27 hZ27 hown27 CR27 hln hcl lp z1 hc0 hc1 hc2 ey0 ey1 ey2 lr ed ec ft30 ft31 ft32 ft33 ps.2.2.2
set_option maxRecDepth 65536 in
set_option maxHeartbeats 40000000 in
theorem rm0_P140 (l : Launch) (Z : State) (a0 : Array Value) (hw : ∀ d ∈ tables_1, d.before a0 Z = true) (p1 : Int32) (p2 : Int32) (p3 : Int32) (p4 : Int32) (p5 : Int32) (p6 : Int32) (wO : Addr) (wT : Addr) (kO : ClassId) (kT : ClassId) (iC : Int32) (vF : Value) (vU : Value) (vS : Value) (h0 : Heap) (n0 : Nat) (O0 : Old Z n0 h0) (hlt : l.stackTraces = true) (WW : World1 Z wO wT kO kT iC vF vU vS) {p : Program} {e : Env} {s : State} {m : MethodId} {below : List Frame} {meth : Method} {c : Code} (St : Stp p Z s m meth c code maxLocals ret x) (hh : s.heap = h0) (hTK : s.vm.MethodsKnown) (hBelow : s.vm.FramesKnown below) :
    ∀ (TJ34 : State) (hJ34 : Heap) (vmJ34 : Vm) (kJ34 : Nat) (LJ34 : List Loc) (ln : Int32) (cl : Int32) (pl : Int32) (y0 : Int32) (y1 : Int32) (y2 : Int32) (dr : Addr) (t1 : Addr) (k1 : ClassId) (n1 : Int32) (es1 : List Value), (Stand p l e room_1 (s.setVm vmJ34) m #[(.int p1), (.int p2), (.int p3), (.int p4), (.int p5), (.int p6)] below meth c TJ34 LJ34 6 12) → (TJ34.heap = hJ34) → (Old Z n0 hJ34) → (Fr n0 LJ34) → (s.Since vmJ34 kJ34) → (kJ34 ≤ hJ34.size) → (Z.Warmed39 (s.setVm vmJ34).vm) → ((s.setVm vmJ34).vm.findClass "com/example/hearsay_rules/hearsayrules/InvalidJsonExceptionAtPinLaw" = some m.cls) → (CHr Z EL s.vm h0 vmJ34 hJ34) → (0 ≤ ln.toInt) → (0 ≤ cl.toInt) → (Ln pl es1) → (es1.length ≤ 3) → (1 ≤ es1.length → es1.getD 0 (.int (0 : Int32)) = .int (nar .byte ((nar .char y0).toInt8.toInt32))) → (2 ≤ es1.length → es1.getD 1 (.int (0 : Int32)) = .int (nar .byte ((nar .char y1).toInt8.toInt32))) → (3 ≤ es1.length → es1.getD 2 (.int (0 : Int32)) = .int (nar .byte ((nar .char y2).toInt8.toInt32))) → ((caL (nar .byte ((nar .char y0).toInt8.toInt32))) = y0) → ((caL (nar .byte ((nar .char y1).toInt8.toInt32))) = y1) → ((caL (nar .byte ((nar .char y2).toInt8.toInt32))) = y2) → (Ln n1 es1) → (Exa Z hJ34 dr "java/lang/String") → (Fld Z hJ34 dr "java/lang/String" "coder" "B" (.int (0 : Int32))) → (Fld Z hJ34 dr "java/lang/String" "value" "[B" (.ref t1)) → (Arv Z hJ34 t1 k1 .byte n1 es1 (.int (0 : Int32))) → Go p e below (DoneW s Z EL (QL n0) room_1.cells room_1.slots) TJ34 (mkF m 140 #[iv p1, iv p2, iv p3, iv p4, iv p5, iv p6, iv ln, iv cl, iv pl, iv y0, iv y1, iv y2, rv dr, .unset, .unset, .unset, .unset] []) := by
  obtain ⟨hx, hby, hml, hnm, hlk, hret, hZ, hown⟩ := St
  have hEL := own_EL hw
  have wS := own_wS hw
  have hZ0 := hZ
  have N0 := Fr.nil n0
  have D := @hb _ _ hby
  have ⟨S_iC, nz_iC, S_vF, r_vF, S_vU, r_vU, S_vS, r_vS, S_wO, E_wO, S_wT, E_wT, V_wO, V_wT⟩ := WW
  have lt_wO := E_wO.lt
  have lt_wT := E_wT.lt
  have P200 := @rm0_P200 l Z a0 hw p1 p2 p3 p4 p5 p6 wO wT kO kT iC vF vU vS h0 n0 O0 hlt WW p e s m below meth c ⟨hx, hby, hml, hnm, hlk, hret, hZ, hown⟩ hh hTK hBelow
  intro TJ34 hJ34 vmJ34 kJ34 LJ34 ln cl pl y0 y1 y2 dr t1 k1 n1 es1 XJ34 eJ34 OJ34 NJ34 hSJ34 hkJ34 hZJ34 hownJ34 CRJ34 hln hcl lp z1 hc0 hc1 hc2 ey0 ey1 ey2 l1 E_dr F_dr_coder F_dr_value V_t1
  have lt_dr := E_dr.lt
  have lt_t1 := V_t1.lt
  refine zil 142 XJ34 hx (D at_140) rfl ?_
  refine zil 144 XJ34 hx (D at_142) rfl ?_
  refine zal 146 XJ34 hx (D at_144) rfl rfl ?_
  obtain ⟨_, _, ⟨T35, L35, kk35, nn35⟩, -, Xw35, hSw35, hgw35, ⟨Lc35, hQ35, lq35, yq35, zz35, crw35⟩, st35⟩ := callSS XJ34 hx (y := mq52) hownJ34 (mvT hZJ34 (ww hw 31 rfl)) (mvT hZJ34 (ww hw 32 rfl)) (mvT hZJ34 (ww hw 33 rfl)) (mvT hZJ34 (ww hw 34 rfl)) (by decide) (own_backX (W := 0) (rmAt l Z a0 hw [] ln cl dr t1 k1 n1 es1 wO wT kO kT iC vF vU vS hJ34 n0 OJ34 hlt l1 z1 E_dr F_dr_coder F_dr_value V_t1 WW) hZJ34 (ww hw 34 rfl) (ww hw 33 rfl) (by decide) (by decide) hEL CRJ34.1 (Vm.MethodsKnown.alikeC (hZ0.alike.symm.trans hZJ34.alike) hTK) (Vm.FramesKnown.alikeC (hZ0.alike.symm.trans hZJ34.alike) hBelow)) (g := (mkF m 146 #[iv p1, iv p2, iv p3, iv p4, iv p5, iv p6, iv ln, iv cl, iv pl, iv y0, iv y1, iv y2, rv dr, .unset, .unset, .unset, .unset] [(.ref dr), (.int cl), (.int ln)])) rfl (by rw [hml]; rfl) (argsL := [(.int ln), (.int cl), (.ref dr)]) (rest := []) (lenOf pd__IILjava_lang_String__Lcom_example_hearsay_rules_hearsayrules_InvalidJsonException_ rfl) rfl (by show 2 * 0 + _ ≤ _; exact Nat.le_of_eq rfl) (D at_146) (fun _ _ => ⟨rfl, eJ34, (by decide : 6 + 18 ≤ _), (by decide : 12 + 4258 ≤ _)⟩)
  dsimp only [Pt.U, Pt.locs, Pt.cells, Pt.slots] at Xw35 lq35 yq35 zz35 st35 hQ35 hSw35 hgw35 crw35
  subst lq35 yq35 zz35
  obtain ⟨X35, hS35, hZ35, hown35⟩ := rebS hSJ34 (by rw [eJ34]; exact hkJ34) Xw35 hSw35 hgw35 hZJ34 hownJ34
  obtain ⟨bx35, br35, tt35, kt35, n35, rfl, Nq35, zb35, zr35, kq35, ex35, fm35, eq35, cq35, fq35, vq35, ln35⟩ := hQ35
  have N35 := Fr.app NJ34 Nq35
  have ne_dr_bx35 : dr ≠ bx35 := Nat.ne_of_lt (Nat.lt_of_lt_of_le lt_dr zb35)
  have ne_t1_bx35 : t1 ≠ bx35 := Nat.ne_of_lt (Nat.lt_of_lt_of_le lt_t1 zb35)
  have ne_wO_bx35 : wO ≠ bx35 := Nat.ne_of_lt (Nat.lt_of_lt_of_le lt_wO (Nat.le_trans OJ34.2.1 zb35))
  have ne_wT_bx35 : wT ≠ bx35 := Nat.ne_of_lt (Nat.lt_of_lt_of_le lt_wT (Nat.le_trans OJ34.2.1 zb35))
  have g_bx35 : n0 ≤ bx35 := Nat.le_trans (OJ34.1 ▸ OJ34.2.1) zb35
  have ne_dr_br35 : dr ≠ br35 := Nat.ne_of_lt (Nat.lt_of_lt_of_le lt_dr zr35)
  have ne_t1_br35 : t1 ≠ br35 := Nat.ne_of_lt (Nat.lt_of_lt_of_le lt_t1 zr35)
  have ne_wO_br35 : wO ≠ br35 := Nat.ne_of_lt (Nat.lt_of_lt_of_le lt_wO (Nat.le_trans OJ34.2.1 zr35))
  have ne_wT_br35 : wT ≠ br35 := Nat.ne_of_lt (Nat.lt_of_lt_of_le lt_wT (Nat.le_trans OJ34.2.1 zr35))
  have g_br35 : n0 ≤ br35 := Nat.le_trans (OJ34.1 ▸ OJ34.2.1) zr35
  have O35 : Old Z n0 T35.heap := OJ34.keep kq35 all0
  have lt_br35 := eq35.lt
  have lt_tt35 := vq35.lt
  have hk35 : T35.heap.size ≤ T35.heap.size := Nat.le_refl _
  have CR35 := CRJ34.trans crw35
  refine Go.tr (f' := (mkF m 149 #[iv p1, iv p2, iv p3, iv p4, iv p5, iv p6, iv ln, iv cl, iv pl, iv y0, iv y1, iv y2, rv dr, .unset, .unset, .unset, .unset] [(.ref bx35)])) st35 ?_
  obtain ⟨cq36, kq36, q36a, q36b, q36c⟩ := isOf hZ35 rfl ex35
  obtain ⟨_, _, ⟨T36, L36, kk36, nn36⟩, -, X36, ⟨Lc36, hQ36, lq36, yq36, zz36⟩, st36⟩ := X35.virtualBackUp hx (x := mq54) (y := mq53) hown35 (mvT hZ35 (ww hw 238 rfl)) (mvT hZ35 (ww hw 239 rfl)) (mvT hZ35 (ww hw 240 rfl)) (by decide) (mvT hZ35 (ww hw 242 rfl)) (mvT hZ35 (ww hw 241 rfl)) (own_back (W := 0) (rmGm l Z a0 hw [] bx35 br35 T35.heap n0 O35 ex35 fm35) hZ35 (ww hw 243 rfl) (ww hw 199 rfl) (by decide) (by decide)) q36a q36c (g := (mkF m 149 #[iv p1, iv p2, iv p3, iv p4, iv p5, iv p6, iv ln, iv cl, iv pl, iv y0, iv y1, iv y2, rv dr, .unset, .unset, .unset, .unset] [(.ref bx35)])) rfl (by rw [hml]; rfl) (Steps.refl _) (argsL := []) (rest := []) (lenOf pd___Ljava_lang_String_ rfl) rfl (by show 2 * 0 + _ ≤ _; exact Nat.le_of_eq rfl) (D at_149) (fun _ _ => ⟨rfl, rfl, (by decide : 24 + 0 ≤ _), (by decide : 4270 + 0 ≤ _)⟩)
  dsimp only [Pt.U, Pt.locs, Pt.cells, Pt.slots] at X36 lq36 yq36 zz36 st36 hQ36
  subst lq36 yq36 zz36
  obtain ⟨rfl, Nq36, kq36⟩ := hQ36
  have N36 := Fr.app N35 Nq36
  refine Go.tr (f' := (mkF m 152 #[iv p1, iv p2, iv p3, iv p4, iv p5, iv p6, iv ln, iv cl, iv pl, iv y0, iv y1, iv y2, rv dr, .unset, .unset, .unset, .unset] [(.ref br35)])) st36 ?_
  refine zrl 154 #[iv p1, iv p2, iv p3, iv p4, iv p5, iv p6, iv ln, iv cl, iv pl, iv y0, iv y1, iv y2, rv dr, rv br35, .unset, .unset, .unset] X36 hx (D at_152) rfl ?_
  refine zal 156 X36 hx (D at_154) rfl rfl ?_
  refine Go.st (f' := (mkF m 161 #[iv p1, iv p2, iv p3, iv p4, iv p5, iv p6, iv ln, iv cl, iv pl, iv y0, iv y1, iv y2, rv dr, rv br35, .unset, .unset, .unset] [])) (fun _ k => XS.ifnonnullYes X36.here hx rfl (pc0 := 156) (pc' := 161) rfl (D at_156) rfl (by decide) (by decide) k) ?_
  refine zil 163 X36 hx (D at_161) rfl ?_
  refine gS 166 0 24 4270 X36 N36 hx hZ35 (y := mq43) hown35 hml (ww hw 244 rfl) (ww hw 245 rfl) (ww hw 246 rfl) (rmDc l Z a0 hw [] ln (nAbs ln) T35.heap n0 O35 (own_na hln)) (ww hw 247 rfl) kq36 [(.int ln)] [] (lenOf pd__I_I rfl) (D at_163) ?_
  rintro T37 L37 M37 _ X37 uu37 ⟨dc37, rfl, Nq37, kq37, ed37⟩
  have N37 := uu37 Nq37
  refine zsk [(.int dc37)] ?_
  refine zsl 168 #[iv p1, iv p2, iv p3, iv p4, iv p5, iv p6, iv ln, iv cl, iv pl, iv y0, iv y1, iv y2, rv dr, rv br35, iv dc37, .unset, .unset] X37 hx (D at_166) ?_
  refine zil 170 X37 hx (D at_168) rfl ?_
  refine gS 173 0 24 4270 X37 N37 hx hZ35 (y := mq43) hown35 hml (ww hw 244 rfl) (ww hw 245 rfl) (ww hw 246 rfl) (rmDc l Z a0 hw [] cl (nAbs cl) T35.heap n0 O35 (own_na hcl)) (ww hw 247 rfl) kq37 [(.int cl)] [] (lenOf pd__I_I rfl) (D at_170) ?_
  rintro T38 L38 M38 _ X38 uu38 ⟨dc38, rfl, Nq38, kq38, ed38⟩
  have N38 := uu38 Nq38
  refine zsk [(.int dc38)] ?_
  refine zsl 175 #[iv p1, iv p2, iv p3, iv p4, iv p5, iv p6, iv ln, iv cl, iv pl, iv y0, iv y1, iv y2, rv dr, rv br35, iv dc37, iv dc38, .unset] X38 hx (D at_173) ?_
  refine zal 177 X38 hx (D at_175) rfl rfl ?_
  refine gV 180 0 24 4270 X38 N38 hx hZ35 (y := mq11) hown35 hml (ww hw 248 rfl) (ww hw 69 rfl) (ww hw 71 rfl) (ww hw 70 rfl) (slen l Z a0 hw [] br35 tt35 kt35 n35 (ML ln cl es1) wO wT kO kT iC vF vU vS T35.heap n0 O35 eq35 cq35 fq35 vq35 WW) (ww hw 72 rfl) (ww hw 3 rfl) kq38 eq35 [] [] (lenOf pd___I rfl) (D at_177) ?_
  rintro T39 L39 M39 _ X39 uu39 ⟨rfl, Nq39, kq39⟩
  have N39 := uu39 Nq39
  refine zsk [(.int n35)] ?_
  refine zic 181 5 X39 hx (D at_180) ?_
  refine zil 183 X39 hx (D at_181) rfl ?_
  refine zad 184 X39 hx (D at_183) ?_
  refine zbp 186 9 X39 hx (D at_184) ?_
  refine zad 187 X39 hx (D at_186) ?_
  refine zil 189 X39 hx (D at_187) rfl ?_
  refine zad 190 X39 hx (D at_189) ?_
  refine zic 191 2 X39 hx (D at_190) ?_
  refine zad 192 X39 hx (D at_191) ?_
  refine zil 194 X39 hx (D at_192) rfl ?_
  refine zad 195 X39 hx (D at_194) ?_
  refine zcy 200 X39 hx (D at_195) (teq (own_tot hln hcl ed37 ed38 lp z1 ln35)).1 ?_
  exact P200 _ T35.heap T35.vm _ _ ln cl pl y0 y1 y2 dr es1 br35 tt35 kt35 n35 dc37 dc38 X39 kq39 O35 N39 hS35 hk35 hZ35 hown35 CR35 hln hcl lp z1 hc0 hc1 hc2 ey0 ey1 ey2 ln35 ed37 ed38 eq35 cq35 fq35 vq35
set_option maxRecDepth 65536 in
set_option maxHeartbeats 40000000 in
theorem rm0 (l : Launch) (Z : State) (a0 : Array Value) (hw : ∀ d ∈ tables_1, d.before a0 Z = true) (ws : List Jvm.Cond) (p1 : Int32) (p2 : Int32) (p3 : Int32) (p4 : Int32) (p5 : Int32) (p6 : Int32) (wO : Addr) (wT : Addr) (kO : ClassId) (kT : ClassId) (iC : Int32) (vF : Value) (vU : Value) (vS : Value) (h0 : Heap) (n0 : Nat) (O0 : Old Z n0 h0) (hlt : l.stackTraces = true) (WW : World1 Z wO wT kO kT iC vF vU vS) :
    ConX l Z EL x code maxLocals ret ws room_1 #[(.int p1), (.int p2), (.int p3), (.int p4), (.int p5), (.int p6)] h0 (QL n0) := by
  refine own_bodyX (plainFor_of_name pn_com_example_hearsay_rules_hearsayrules_InvalidJsonExceptionAtPinLaw) ?_
  intro p e s m below meth c s₁ hx hby hml hZ hown hnm hlk hret X0 e0 hh hS CR0 hTK hBelow
  have hZ0 := hZ
  have hEL := own_EL hw
  have wS := own_wS hw
  have N0 := Fr.nil n0
  have D := @hb _ _ hby
  refine Go.st (T' := s₁) (f' := (mkF m 0 #[iv p1, iv p2, iv p3, iv p4, iv p5, iv p6, .unset, .unset, .unset, .unset, .unset, .unset, .unset, .unset, .unset, .unset, .unset] [])) (fun _ k => castTop (by first | (simp [entryFrame, mkF, argsToLocals, Value.category, maxLocals]; done) | rfl) k) ?_
  have ⟨S_iC, nz_iC, S_vF, r_vF, S_vU, r_vU, S_vS, r_vS, S_wO, E_wO, S_wT, E_wT, V_wO, V_wT⟩ := WW
  have lt_wO := E_wO.lt
  have lt_wT := E_wT.lt
  have P140 := @rm0_P140 l Z a0 hw p1 p2 p3 p4 p5 p6 wO wT kO kT iC vF vU vS h0 n0 O0 hlt WW p e s m below meth c ⟨hx, hby, hml, hnm, hlk, hret, hZ, hown⟩ hh hTK hBelow
  refine zin 1 X0 hx (D at_0) rfl ?_
  refine Go.st (f' := (mkF m 3 #[iv p1, iv p2, iv p3, iv p4, iv p5, iv p6, .unset, .unset, .unset, .unset, .unset, .unset, .unset, .unset, .unset, .unset, .unset] [(.int 2147483647), (.int p1)])) (fun _ k => X0.ldcInt hx hown (mvT hZ (ww hw 0 rfl)) (g := (mkF m 1 #[iv p1, iv p2, iv p3, iv p4, iv p5, iv p6, .unset, .unset, .unset, .unset, .unset, .unset, .unset, .unset, .unset, .unset, .unset] [(.int p1)])) rfl (D at_1) _ k) ?_
  refine Go.st (f' := (mkF m 4 #[iv p1, iv p2, iv p3, iv p4, iv p5, iv p6, .unset, .unset, .unset, .unset, .unset, .unset, .unset, .unset, .unset, .unset, .unset] [(.int (p1 &&& (2147483647 : Int32)))])) (fun _ k => XS.iand X0.here hx rfl (D at_3) rfl k) ?_
  obtain ⟨yy40, hyy40⟩ : ∃ z, z = (p1 &&& (2147483647 : Int32)) := ⟨_, rfl⟩
  rw [← hyy40]
  refine zsl 6 #[iv p1, iv p2, iv p3, iv p4, iv p5, iv p6, iv yy40, .unset, .unset, .unset, .unset, .unset, .unset, .unset, .unset, .unset, .unset] X0 hx (D at_4) ?_
  refine zin 7 X0 hx (D at_6) rfl ?_
  refine Go.st (f' := (mkF m 9 #[iv p1, iv p2, iv p3, iv p4, iv p5, iv p6, iv yy40, .unset, .unset, .unset, .unset, .unset, .unset, .unset, .unset, .unset, .unset] [(.int 2147483647), (.int p2)])) (fun _ k => X0.ldcInt hx hown (mvT hZ (ww hw 0 rfl)) (g := (mkF m 7 #[iv p1, iv p2, iv p3, iv p4, iv p5, iv p6, iv yy40, .unset, .unset, .unset, .unset, .unset, .unset, .unset, .unset, .unset, .unset] [(.int p2)])) rfl (D at_7) _ k) ?_
  refine Go.st (f' := (mkF m 10 #[iv p1, iv p2, iv p3, iv p4, iv p5, iv p6, iv yy40, .unset, .unset, .unset, .unset, .unset, .unset, .unset, .unset, .unset, .unset] [(.int (p2 &&& (2147483647 : Int32)))])) (fun _ k => XS.iand X0.here hx rfl (D at_9) rfl k) ?_
  obtain ⟨yy41, hyy41⟩ : ∃ z, z = (p2 &&& (2147483647 : Int32)) := ⟨_, rfl⟩
  rw [← hyy41]
  refine zsl 12 #[iv p1, iv p2, iv p3, iv p4, iv p5, iv p6, iv yy40, iv yy41, .unset, .unset, .unset, .unset, .unset, .unset, .unset, .unset, .unset] X0 hx (D at_10) ?_
  refine zil 14 X0 hx (D at_12) rfl ?_
  refine Go.st (f' := (mkF m 16 #[iv p1, iv p2, iv p3, iv p4, iv p5, iv p6, iv yy40, iv yy41, .unset, .unset, .unset, .unset, .unset, .unset, .unset, .unset, .unset] [(.int 2147483647), (.int p6)])) (fun _ k => X0.ldcInt hx hown (mvT hZ (ww hw 0 rfl)) (g := (mkF m 14 #[iv p1, iv p2, iv p3, iv p4, iv p5, iv p6, iv yy40, iv yy41, .unset, .unset, .unset, .unset, .unset, .unset, .unset, .unset, .unset] [(.int p6)])) rfl (D at_14) _ k) ?_
  refine Go.st (f' := (mkF m 17 #[iv p1, iv p2, iv p3, iv p4, iv p5, iv p6, iv yy40, iv yy41, .unset, .unset, .unset, .unset, .unset, .unset, .unset, .unset, .unset] [(.int (p6 &&& (2147483647 : Int32)))])) (fun _ k => XS.iand X0.here hx rfl (D at_16) rfl k) ?_
  refine zic 18 4 X0 hx (D at_17) ?_
  refine Go.st (f' := (mkF m 19 #[iv p1, iv p2, iv p3, iv p4, iv p5, iv p6, iv yy40, iv yy41, .unset, .unset, .unset, .unset, .unset, .unset, .unset, .unset, .unset] [(.int ((p6 &&& (2147483647 : Int32)) % (4 : Int32)))])) (fun _ k => iremM (g := (mkF m 18 #[.val (.int p1), .val (.int p2), .val (.int p3), .val (.int p4), .val (.int p5), .val (.int p6), .val (.int yy40), .val (.int yy41), .unset, .unset, .unset, .unset, .unset, .unset, .unset, .unset, .unset] [(.int (4 : Int32)), (.int (p6 &&& (2147483647 : Int32)))])) X0 hx rfl (D at_18) rfl (by decide) k) ?_
  obtain ⟨yy42, hyy42⟩ : ∃ z, z = ((p6 &&& (2147483647 : Int32)) % (4 : Int32)) := ⟨_, rfl⟩
  rw [← hyy42]
  refine zsl 21 #[iv p1, iv p2, iv p3, iv p4, iv p5, iv p6, iv yy40, iv yy41, iv yy42, .unset, .unset, .unset, .unset, .unset, .unset, .unset, .unset] X0 hx (D at_19) ?_
  refine zin 22 X0 hx (D at_21) rfl ?_
  refine Go.st (f' := (mkF m 25 #[iv p1, iv p2, iv p3, iv p4, iv p5, iv p6, iv yy40, iv yy41, iv yy42, .unset, .unset, .unset, .unset, .unset, .unset, .unset, .unset] [(.int 255), (.int p3)])) (fun _ k => XS.sipush X0.here hx rfl (D at_22) k) ?_
  refine Go.st (f' := (mkF m 26 #[iv p1, iv p2, iv p3, iv p4, iv p5, iv p6, iv yy40, iv yy41, iv yy42, .unset, .unset, .unset, .unset, .unset, .unset, .unset, .unset] [(.int (p3 &&& (255 : Int32)))])) (fun _ k => XS.iand X0.here hx rfl (D at_25) rfl k) ?_
  refine Go.st (f' := (mkF m 27 #[iv p1, iv p2, iv p3, iv p4, iv p5, iv p6, iv yy40, iv yy41, iv yy42, .unset, .unset, .unset, .unset, .unset, .unset, .unset, .unset] [(.int ((p3 &&& (255 : Int32)).toUInt32.toUInt16.toUInt32.toInt32))])) (fun _ k => XS.i2c X0.here hx rfl (D at_26) rfl k) ?_
  obtain ⟨yy43, hyy43⟩ : ∃ z, z = ((p3 &&& (255 : Int32)).toUInt32.toUInt16.toUInt32.toInt32) := ⟨_, rfl⟩
  rw [← hyy43]
  have eyy43 := own_y hyy43
  refine zsl 29 #[iv p1, iv p2, iv p3, iv p4, iv p5, iv p6, iv yy40, iv yy41, iv yy42, iv yy43, .unset, .unset, .unset, .unset, .unset, .unset, .unset] X0 hx (D at_27) ?_
  refine zin 30 X0 hx (D at_29) rfl ?_
  refine Go.st (f' := (mkF m 33 #[iv p1, iv p2, iv p3, iv p4, iv p5, iv p6, iv yy40, iv yy41, iv yy42, iv yy43, .unset, .unset, .unset, .unset, .unset, .unset, .unset] [(.int 255), (.int p4)])) (fun _ k => XS.sipush X0.here hx rfl (D at_30) k) ?_
  refine Go.st (f' := (mkF m 34 #[iv p1, iv p2, iv p3, iv p4, iv p5, iv p6, iv yy40, iv yy41, iv yy42, iv yy43, .unset, .unset, .unset, .unset, .unset, .unset, .unset] [(.int (p4 &&& (255 : Int32)))])) (fun _ k => XS.iand X0.here hx rfl (D at_33) rfl k) ?_
  refine Go.st (f' := (mkF m 35 #[iv p1, iv p2, iv p3, iv p4, iv p5, iv p6, iv yy40, iv yy41, iv yy42, iv yy43, .unset, .unset, .unset, .unset, .unset, .unset, .unset] [(.int ((p4 &&& (255 : Int32)).toUInt32.toUInt16.toUInt32.toInt32))])) (fun _ k => XS.i2c X0.here hx rfl (D at_34) rfl k) ?_
  obtain ⟨yy44, hyy44⟩ : ∃ z, z = ((p4 &&& (255 : Int32)).toUInt32.toUInt16.toUInt32.toInt32) := ⟨_, rfl⟩
  rw [← hyy44]
  have eyy44 := own_y hyy44
  refine zsl 37 #[iv p1, iv p2, iv p3, iv p4, iv p5, iv p6, iv yy40, iv yy41, iv yy42, iv yy43, iv yy44, .unset, .unset, .unset, .unset, .unset, .unset] X0 hx (D at_35) ?_
  refine zil 39 X0 hx (D at_37) rfl ?_
  refine Go.st (f' := (mkF m 42 #[iv p1, iv p2, iv p3, iv p4, iv p5, iv p6, iv yy40, iv yy41, iv yy42, iv yy43, iv yy44, .unset, .unset, .unset, .unset, .unset, .unset] [(.int 255), (.int p5)])) (fun _ k => XS.sipush X0.here hx rfl (D at_39) k) ?_
  refine Go.st (f' := (mkF m 43 #[iv p1, iv p2, iv p3, iv p4, iv p5, iv p6, iv yy40, iv yy41, iv yy42, iv yy43, iv yy44, .unset, .unset, .unset, .unset, .unset, .unset] [(.int (p5 &&& (255 : Int32)))])) (fun _ k => XS.iand X0.here hx rfl (D at_42) rfl k) ?_
  refine Go.st (f' := (mkF m 44 #[iv p1, iv p2, iv p3, iv p4, iv p5, iv p6, iv yy40, iv yy41, iv yy42, iv yy43, iv yy44, .unset, .unset, .unset, .unset, .unset, .unset] [(.int ((p5 &&& (255 : Int32)).toUInt32.toUInt16.toUInt32.toInt32))])) (fun _ k => XS.i2c X0.here hx rfl (D at_43) rfl k) ?_
  obtain ⟨yy45, hyy45⟩ : ∃ z, z = ((p5 &&& (255 : Int32)).toUInt32.toUInt16.toUInt32.toInt32) := ⟨_, rfl⟩
  rw [← hyy45]
  have eyy45 := own_y hyy45
  refine zsl 46 #[iv p1, iv p2, iv p3, iv p4, iv p5, iv p6, iv yy40, iv yy41, iv yy42, iv yy43, iv yy44, iv yy45, .unset, .unset, .unset, .unset, .unset] X0 hx (D at_44) ?_
  refine zil 48 X0 hx (D at_46) rfl ?_
  by_cases cd46 : yy42 = (0 : Int32)
  · refine zfn 51 X0 hx (D at_48) ((if0 _ _).trans (teq cd46).2) ?_
    obtain ⟨T47, h47, X47, e47, E47, A47, D47, -, st47⟩ := newO X0 hx hZ hown (ww hw 1 rfl) (ww hw 2 rfl) (ww hw 3 rfl) e0 (g := (mkF m 51 #[iv p1, iv p2, iv p3, iv p4, iv p5, iv p6, iv yy40, iv yy41, iv yy42, iv yy43, iv yy44, iv yy45, .unset, .unset, .unset, .unset, .unset] [])) rfl (D at_51) (by decide) (by decide)
    obtain ⟨b47, g47⟩ : ∃ z, z = h0.size := ⟨_, rfl⟩
    rw [← g47] at A47 D47 st47
    have ne_wO_b47 : wO ≠ b47 := Nat.ne_of_lt (Nat.lt_of_lt_of_le lt_wO (Nat.le_trans O0.2.1 (Nat.le_of_eq g47.symm)))
    have ne_wT_b47 : wT ≠ b47 := Nat.ne_of_lt (Nat.lt_of_lt_of_le lt_wT (Nat.le_trans O0.2.1 (Nat.le_of_eq g47.symm)))
    have g_b47 : n0 ≤ b47 := Nat.le_trans (O0.1 ▸ O0.2.1) (Nat.le_of_eq g47.symm)
    have O47 : Old Z n0 h47 := O0.ext E47
    have CR47 : CHr Z EL s.vm h0 s.vm h47 := CR0.trans (CHr.ext E47 CR0.1)
    have sf_b47 : Safe Z EL s.vm h47 b47 := (Safe.new (Nat.le_of_eq g47.symm)).ext E47 CR0.1
    have lt_b47 := A47.lt
    have F_coder_b47 : Fld Z h47 b47 "java/lang/String" "coder" "B" (.int (0 : Int32)) := D47 (Or.inr (ww hw 28 rfl)) (ty := .byte) (by decide)
    have F_value_b47 : Fld Z h47 b47 "java/lang/String" "value" "[B" .null := D47 (Or.inr (ww hw 30 rfl)) (ty := (.array .byte)) (by decide)
    refine zst 54 #[iv p1, iv p2, iv p3, iv p4, iv p5, iv p6, iv yy40, iv yy41, iv yy42, iv yy43, iv yy44, iv yy45, .unset, .unset, .unset, .unset, .unset] [(.ref b47)] st47 ?_
    refine Go.st (f' := (mkF m 55 #[iv p1, iv p2, iv p3, iv p4, iv p5, iv p6, iv yy40, iv yy41, iv yy42, iv yy43, iv yy44, iv yy45, .unset, .unset, .unset, .unset, .unset] [(.ref b47), (.ref b47)])) (fun _ k => XS.dup X47.here hx rfl (D at_54) rfl rfl k) ?_
    refine zic 56 0 X47 hx (D at_55) ?_
    obtain ⟨T48, h48, kc48, X48, e48, E48, A48, st48⟩ := newP X47 hx hZ (ww hw 4 rfl) e47 (g := (mkF m 56 #[iv p1, iv p2, iv p3, iv p4, iv p5, iv p6, iv yy40, iv yy41, iv yy42, iv yy43, iv yy44, iv yy45, .unset, .unset, .unset, .unset, .unset] [(.int 0), (.ref b47), (.ref b47)])) rfl (D at_56) rfl (by decide) (cap := 0) (by decide) (by decide) (by decide) (by decide)
    obtain ⟨b48, g48⟩ : ∃ z, z = h47.size := ⟨_, rfl⟩
    rw [← g48] at A48 st48
    have ne_b47_b48 : b47 ≠ b48 := Nat.ne_of_lt (Nat.lt_of_lt_of_eq lt_b47 g48.symm)
    have ne_wO_b48 : wO ≠ b48 := Nat.ne_of_lt (Nat.lt_of_lt_of_le lt_wO (Nat.le_trans O47.2.1 (Nat.le_of_eq g48.symm)))
    have ne_wT_b48 : wT ≠ b48 := Nat.ne_of_lt (Nat.lt_of_lt_of_le lt_wT (Nat.le_trans O47.2.1 (Nat.le_of_eq g48.symm)))
    have g_b48 : n0 ≤ b48 := Nat.le_trans (O47.1 ▸ O47.2.1) (Nat.le_of_eq g48.symm)
    have O48 : Old Z n0 h48 := O47.ext E48
    have CR48 : CHr Z EL s.vm h0 s.vm h48 := CR47.trans (CHr.ext E48 CR47.1)
    have sf_b48 : Safe Z EL s.vm h48 b48 := (Safe.new (Nat.le_of_eq g48.symm)).ext E48 CR47.1
    have V_b48 : Arv Z h48 b48 kc48 .char (0 : Int32) [] (.int (0 : Int32)) := Arv.new A48 (by decide)
    have lt_b48 := V_b48.lt
    refine zst 58 #[iv p1, iv p2, iv p3, iv p4, iv p5, iv p6, iv yy40, iv yy41, iv yy42, iv yy43, iv yy44, iv yy45, .unset, .unset, .unset, .unset, .unset] [(.ref b48), (.ref b47), (.ref b47)] st48 ?_
    have ft50 := (A47.ext E48)
    have ft51 := (F_coder_b47.ext E48)
    have ft52 := (F_value_b47.ext E48)
    obtain ⟨_, _, ⟨T49, L49, kk49, nn49⟩, -, Xw49, hSw49, hgw49, ⟨Lc49, hQ49, lq49, yq49, zz49, crw49⟩, st49⟩ := X48.specialBackS hx (y := mq4) rfl hown (mvT hZ (ww hw 5 rfl)) (mvT hZ (ww hw 6 rfl)) (mvT hZ (ww hw 7 rfl)) (by decide) (own_backW (W := 1) (s1_0 l Z a0 hw [] b47 b48 kc48 wO wT kO kT iC vF vU vS h48 n0 O48 g_b47 ft50 ft51 ft52 V_b48 WW) hZ (ww hw 7 rfl) (ww hw 3 rfl) (by decide) (by decide) hEL CR48.1) (g := (mkF m 58 #[iv p1, iv p2, iv p3, iv p4, iv p5, iv p6, iv yy40, iv yy41, iv yy42, iv yy43, iv yy44, iv yy45, .unset, .unset, .unset, .unset, .unset] [(.ref b48), (.ref b47), (.ref b47)])) rfl (by rw [hml]; rfl) (Steps.refl _) (a := b47) (argsL := [(.ref b48)]) (rest := [(.ref b47)]) (lenOf pd___C_V rfl) rfl (by show 2 * 0 + _ ≤ _; exact Nat.le_of_eq rfl) (D at_58) (fun _ _ => ⟨rfl, e48, (by decide : 2 + 4 ≤ _), (by decide : 4 + 8 ≤ _)⟩)
    dsimp only [Pt.U, Pt.locs, Pt.cells, Pt.slots] at Xw49 lq49 yq49 zz49 st49 hQ49 hSw49 hgw49 crw49
    subst lq49 yq49 zz49
    obtain ⟨X49, hS49, hZ49, hown49⟩ := rebS hS (by rw [e48]; exact (Nat.zero_le _)) Xw49 hSw49 hgw49 hZ hown
    obtain ⟨rfl, Nq49, kq49, eq49, cq49, tt49, kt49, fq49, vq49⟩ := hQ49
    have N49 := Fr.app N0 Nq49
    have ft53 := (Safe.ext E48 CR47.1 sf_b47)
    have ft54 := (Nat.lt_of_lt_of_le lt_b47 E48.1)
    have O49 : Old Z n0 T49.heap := O48.keep kq49 (allS g_b47 all0)
    have lt_tt49 := vq49.lt
    have nt_b47_tt49 : b47 ≠ tt49 := Exa.neArv eq49 vq49 (ww hw 2 rfl)
    have ft55 := (V_b48.keep kq49 (ninS (Ne.symm ne_b47_b48) nin0))
    have nt_b48_tt49 : b48 ≠ tt49 := own_neArv ft55 vq49 (by decide)
    have hk49 : T49.heap.size ≤ T49.heap.size := Nat.le_refl _
    have sf56 := crw49.safe ft54 ft53
    have sf57 := crw49.safe lt_b48 sf_b48
    have CR49 := CR48.trans crw49
    refine Go.tr (f' := (mkF m 61 #[iv p1, iv p2, iv p3, iv p4, iv p5, iv p6, iv yy40, iv yy41, iv yy42, iv yy43, iv yy44, iv yy45, .unset, .unset, .unset, .unset, .unset] [(.ref b47)])) st49 ?_
    refine zrl 63 #[iv p1, iv p2, iv p3, iv p4, iv p5, iv p6, iv yy40, iv yy41, iv yy42, iv yy43, iv yy44, iv yy45, rv b47, .unset, .unset, .unset, .unset] X49 hx (D at_61) rfl ?_
    refine zgo 140 X49 hx (D at_63) ?_
    exact P140 _ T49.heap T49.vm _ _ yy40 yy41 yy42 yy43 yy44 yy45 b47 tt49 kt49 (0 : Int32) [] X49 rfl O49 N49 hS49 hk49 hZ49 hown49 CR49 (own_an hyy40) (own_an hyy41) (own_lnp cd46 ⟨by decide, by show _ = ((0 : Nat) : Int); decide⟩) (Nat.le_of_ble_eq_true rfl) (fun h => absurd h (Nat.not_le.mpr (Nat.le_of_ble_eq_true rfl))) (fun h => absurd h (Nat.not_le.mpr (Nat.le_of_ble_eq_true rfl))) (fun h => absurd h (Nat.not_le.mpr (Nat.le_of_ble_eq_true rfl))) eyy43.2.1 eyy44.2.1 eyy45.2.1 ⟨by decide, by show _ = ((0 : Nat) : Int); decide⟩ eq49 cq49 fq49 vq49
  · refine zfy 66 X0 hx (D at_48) ((if0 _ _).trans (feq cd46).2) ?_
    refine zil 68 X0 hx (D at_66) rfl ?_
    refine zic 69 1 X0 hx (D at_68) ?_
    by_cases cd58 : yy42 = (1 : Int32)
    · refine zcn 72 X0 hx (D at_69) (teq cd58).2 ?_
      refine zil 74 X0 hx (D at_72) rfl ?_
      refine gS 77 0 2 5 X0 N0 hx hZ (y := mq8) hown hml (ww hw 300 rfl) (ww hw 301 rfl) (ww hw 3 rfl) (st_vof l Z a0 hw [] yy43 wO wT kO kT iC vF vU vS h0 n0 O0 eyy43.2.2.1 WW) (ww hw 302 rfl) e0 [(.int yy43)] [] (lenOf pd__C_Ljava_lang_String_ rfl) (D at_74) ?_
      rintro T59 L59 M59 _ X59 uu59 ⟨b59, rfl, Nq59, zb59, kq59, eq59, cq59, tt59, kt59, zq59, fq59, vq59⟩
      have N59 := uu59 Nq59
      have ne_wO_b59 : wO ≠ b59 := Nat.ne_of_lt (Nat.lt_of_lt_of_le lt_wO (Nat.le_trans O0.2.1 zb59))
      have ne_wT_b59 : wT ≠ b59 := Nat.ne_of_lt (Nat.lt_of_lt_of_le lt_wT (Nat.le_trans O0.2.1 zb59))
      have g_b59 : n0 ≤ b59 := Nat.le_trans (O0.1 ▸ O0.2.1) zb59
      have sn_b59 : Safe Z EL s.vm h0 b59 := Safe.new zb59
      have ne_wO_tt59 : wO ≠ tt59 := Nat.ne_of_lt (Nat.lt_of_lt_of_le lt_wO (Nat.le_trans O0.2.1 zq59))
      have ne_wT_tt59 : wT ≠ tt59 := Nat.ne_of_lt (Nat.lt_of_lt_of_le lt_wT (Nat.le_trans O0.2.1 zq59))
      have g_tt59 : n0 ≤ tt59 := Nat.le_trans (O0.1 ▸ O0.2.1) zq59
      have sn_tt59 : Safe Z EL s.vm h0 tt59 := Safe.new zq59
      have O59 : Old Z n0 T59.heap := O0.keep kq59 all0
      have CR59 : CHr Z EL s.vm h0 s.vm T59.heap := CR0.trans (CHr.keep kq59 sf0 CR0.1)
      have lt_b59 := eq59.lt
      have lt_tt59 := vq59.lt
      refine zsk [(.ref b59)] ?_
      refine zrl 79 #[iv p1, iv p2, iv p3, iv p4, iv p5, iv p6, iv yy40, iv yy41, iv yy42, iv yy43, iv yy44, iv yy45, rv b59, .unset, .unset, .unset, .unset] X59 hx (D at_77) rfl ?_
      refine zgo 140 X59 hx (D at_79) ?_
      exact P140 _ T59.heap s.vm _ _ yy40 yy41 yy42 yy43 yy44 yy45 b59 tt59 kt59 (1 : Int32) [(.int (nar .byte (yy43.toInt8.toInt32)))] (X59.more (by decide) (by decide)) rfl O59 N59 hS (Nat.zero_le _) hZ hown CR59 (own_an hyy40) (own_an hyy41) (own_lnp cd58 ⟨by decide, by show _ = ((1 : Nat) : Int); decide⟩) (Nat.le_of_ble_eq_true rfl) (fun _ => (congrArg Value.int eyy43.2.2.2)) (fun h => absurd h (Nat.not_le.mpr (Nat.le_of_ble_eq_true rfl))) (fun h => absurd h (Nat.not_le.mpr (Nat.le_of_ble_eq_true rfl))) eyy43.2.1 eyy44.2.1 eyy45.2.1 ⟨by decide, by show _ = ((1 : Nat) : Int); decide⟩ eq59 cq59 fq59 vq59
    · refine zcy 82 X0 hx (D at_69) (feq cd58).2 ?_
      refine zil 84 X0 hx (D at_82) rfl ?_
      refine zic 85 2 X0 hx (D at_84) ?_
      by_cases cd60 : yy42 = (2 : Int32)
      · refine zcn 88 X0 hx (D at_85) (teq cd60).2 ?_
        obtain ⟨T61, h61, X61, e61, E61, A61, D61, -, st61⟩ := newO X0 hx hZ hown (ww hw 1 rfl) (ww hw 2 rfl) (ww hw 3 rfl) e0 (g := (mkF m 88 #[iv p1, iv p2, iv p3, iv p4, iv p5, iv p6, iv yy40, iv yy41, iv yy42, iv yy43, iv yy44, iv yy45, .unset, .unset, .unset, .unset, .unset] [])) rfl (D at_88) (by decide) (by decide)
        obtain ⟨b61, g61⟩ : ∃ z, z = h0.size := ⟨_, rfl⟩
        rw [← g61] at A61 D61 st61
        have ne_wO_b61 : wO ≠ b61 := Nat.ne_of_lt (Nat.lt_of_lt_of_le lt_wO (Nat.le_trans O0.2.1 (Nat.le_of_eq g61.symm)))
        have ne_wT_b61 : wT ≠ b61 := Nat.ne_of_lt (Nat.lt_of_lt_of_le lt_wT (Nat.le_trans O0.2.1 (Nat.le_of_eq g61.symm)))
        have g_b61 : n0 ≤ b61 := Nat.le_trans (O0.1 ▸ O0.2.1) (Nat.le_of_eq g61.symm)
        have O61 : Old Z n0 h61 := O0.ext E61
        have CR61 : CHr Z EL s.vm h0 s.vm h61 := CR0.trans (CHr.ext E61 CR0.1)
        have sf_b61 : Safe Z EL s.vm h61 b61 := (Safe.new (Nat.le_of_eq g61.symm)).ext E61 CR0.1
        have lt_b61 := A61.lt
        have F_coder_b61 : Fld Z h61 b61 "java/lang/String" "coder" "B" (.int (0 : Int32)) := D61 (Or.inr (ww hw 28 rfl)) (ty := .byte) (by decide)
        have F_value_b61 : Fld Z h61 b61 "java/lang/String" "value" "[B" .null := D61 (Or.inr (ww hw 30 rfl)) (ty := (.array .byte)) (by decide)
        refine zst 91 #[iv p1, iv p2, iv p3, iv p4, iv p5, iv p6, iv yy40, iv yy41, iv yy42, iv yy43, iv yy44, iv yy45, .unset, .unset, .unset, .unset, .unset] [(.ref b61)] st61 ?_
        refine Go.st (f' := (mkF m 92 #[iv p1, iv p2, iv p3, iv p4, iv p5, iv p6, iv yy40, iv yy41, iv yy42, iv yy43, iv yy44, iv yy45, .unset, .unset, .unset, .unset, .unset] [(.ref b61), (.ref b61)])) (fun _ k => XS.dup X61.here hx rfl (D at_91) rfl rfl k) ?_
        refine zic 93 2 X61 hx (D at_92) ?_
        obtain ⟨T62, h62, kc62, X62, e62, E62, A62, st62⟩ := newP X61 hx hZ (ww hw 4 rfl) e61 (g := (mkF m 93 #[iv p1, iv p2, iv p3, iv p4, iv p5, iv p6, iv yy40, iv yy41, iv yy42, iv yy43, iv yy44, iv yy45, .unset, .unset, .unset, .unset, .unset] [(.int 2), (.ref b61), (.ref b61)])) rfl (D at_93) rfl (by decide) (cap := 2) (by decide) (by decide) (by decide) (by decide)
        obtain ⟨b62, g62⟩ : ∃ z, z = h61.size := ⟨_, rfl⟩
        rw [← g62] at A62 st62
        have ne_b61_b62 : b61 ≠ b62 := Nat.ne_of_lt (Nat.lt_of_lt_of_eq lt_b61 g62.symm)
        have ne_wO_b62 : wO ≠ b62 := Nat.ne_of_lt (Nat.lt_of_lt_of_le lt_wO (Nat.le_trans O61.2.1 (Nat.le_of_eq g62.symm)))
        have ne_wT_b62 : wT ≠ b62 := Nat.ne_of_lt (Nat.lt_of_lt_of_le lt_wT (Nat.le_trans O61.2.1 (Nat.le_of_eq g62.symm)))
        have g_b62 : n0 ≤ b62 := Nat.le_trans (O61.1 ▸ O61.2.1) (Nat.le_of_eq g62.symm)
        have O62 : Old Z n0 h62 := O61.ext E62
        have CR62 : CHr Z EL s.vm h0 s.vm h62 := CR61.trans (CHr.ext E62 CR61.1)
        have sf_b62 : Safe Z EL s.vm h62 b62 := (Safe.new (Nat.le_of_eq g62.symm)).ext E62 CR61.1
        have V_b62 : Arv Z h62 b62 kc62 .char (2 : Int32) [(.int (0 : Int32)), (.int (0 : Int32))] (.int (0 : Int32)) := (Arv.new A62 (by decide)).pad (pad_rep [] (.int (0 : Int32)) 2)
        have lt_b62 := V_b62.lt
        refine zst 95 #[iv p1, iv p2, iv p3, iv p4, iv p5, iv p6, iv yy40, iv yy41, iv yy42, iv yy43, iv yy44, iv yy45, .unset, .unset, .unset, .unset, .unset] [(.ref b62), (.ref b61), (.ref b61)] st62 ?_
        refine Go.st (f' := (mkF m 96 #[iv p1, iv p2, iv p3, iv p4, iv p5, iv p6, iv yy40, iv yy41, iv yy42, iv yy43, iv yy44, iv yy45, .unset, .unset, .unset, .unset, .unset] [(.ref b62), (.ref b62), (.ref b61), (.ref b61)])) (fun _ k => XS.dup X62.here hx rfl (D at_95) rfl rfl k) ?_
        refine zic 97 0 X62 hx (D at_96) ?_
        refine zil 99 X62 hx (D at_97) rfl ?_
        obtain ⟨cl63, Ar63, q63, S63, Nx63, H63, G63⟩ := id V_b62
        have hin63 : ¬ ((0 : Int32) < 0 ∨ cl63.slots.size ≤ ((0 : Int32)).toNatClampNeg) := inb_of S63 ⟨by decide, by decide⟩
        obtain ⟨T64, h64, X64, e64, W64, st64⟩ := stC X62 hx hZ e62 Ar63 (j := (0 : Int32)) hin63 (g := (mkF m 99 #[iv p1, iv p2, iv p3, iv p4, iv p5, iv p6, iv yy40, iv yy41, iv yy42, iv yy43, iv yy44, iv yy45, .unset, .unset, .unset, .unset, .unset] [(.int yy43), (.int 0), (.ref b62), (.ref b62), (.ref b61), (.ref b61)])) rfl rfl (D at_99)
        have V_b62_64 : Arv Z h64 b62 kc62 .char (2 : Int32) [(.int (nar .char yy43)), (.int (0 : Int32))] (.int (0 : Int32)) := Arv.set Ar63 q63 S63 Nx63 H63 G63 (fits_nar_char _) W64 0 rfl (Nat.le_of_ble_eq_true rfl)
        have N64 := Fr.snoc X64 N0 g_b62
        have O64 : Old Z n0 h64 := O62.wr W64 g_b62
        have CR64 : CHr Z EL s.vm h0 s.vm h64 := CR62.trans (CHr.wr W64 sf_b62 CR62.1)
        refine zst 100 #[iv p1, iv p2, iv p3, iv p4, iv p5, iv p6, iv yy40, iv yy41, iv yy42, iv yy43, iv yy44, iv yy45, .unset, .unset, .unset, .unset, .unset] [(.ref b62), (.ref b61), (.ref b61)] st64 ?_
        refine Go.st (f' := (mkF m 101 #[iv p1, iv p2, iv p3, iv p4, iv p5, iv p6, iv yy40, iv yy41, iv yy42, iv yy43, iv yy44, iv yy45, .unset, .unset, .unset, .unset, .unset] [(.ref b62), (.ref b62), (.ref b61), (.ref b61)])) (fun _ k => XS.dup X64.here hx rfl (D at_100) rfl rfl k) ?_
        refine zic 102 1 X64 hx (D at_101) ?_
        refine zil 104 X64 hx (D at_102) rfl ?_
        have ft66 := (Safe.wr W64 sf_b62 CR62.1 sf_b62)
        obtain ⟨cl65, Ar65, q65, S65, Nx65, H65, G65⟩ := id V_b62_64
        have hin65 : ¬ ((1 : Int32) < 0 ∨ cl65.slots.size ≤ ((1 : Int32)).toNatClampNeg) := inb_of S65 ⟨by decide, by decide⟩
        obtain ⟨T67, h67, X67, e67, W67, st67⟩ := stC X64 hx hZ e64 Ar65 (j := (1 : Int32)) hin65 (g := (mkF m 104 #[iv p1, iv p2, iv p3, iv p4, iv p5, iv p6, iv yy40, iv yy41, iv yy42, iv yy43, iv yy44, iv yy45, .unset, .unset, .unset, .unset, .unset] [(.int yy44), (.int 1), (.ref b62), (.ref b62), (.ref b61), (.ref b61)])) rfl rfl (D at_104)
        have V_b62_67 : Arv Z h67 b62 kc62 .char (2 : Int32) [(.int (nar .char yy43)), (.int (nar .char yy44))] (.int (0 : Int32)) := Arv.set Ar65 q65 S65 Nx65 H65 G65 (fits_nar_char _) W67 1 rfl (Nat.le_of_ble_eq_true rfl)
        have N67 := Fr.snoc X67 N64 g_b62
        have O67 : Old Z n0 h67 := O64.wr W67 g_b62
        have CR67 : CHr Z EL s.vm h0 s.vm h67 := CR64.trans (CHr.wr W67 ft66 CR64.1)
        refine zst 105 #[iv p1, iv p2, iv p3, iv p4, iv p5, iv p6, iv yy40, iv yy41, iv yy42, iv yy43, iv yy44, iv yy45, .unset, .unset, .unset, .unset, .unset] [(.ref b62), (.ref b61), (.ref b61)] st67 ?_
        have ft69 := (((A61.ext E62).wr W64).wr W67)
        have ft70 := (((F_coder_b61.ext E62).other W64 (Or.inl ne_b61_b62)).other W67 (Or.inl ne_b61_b62))
        have ft71 := (((F_value_b61.ext E62).other W64 (Or.inl ne_b61_b62)).other W67 (Or.inl ne_b61_b62))
        obtain ⟨_, _, ⟨T68, L68, kk68, nn68⟩, -, X68, ⟨Lc68, hQ68, lq68, yq68, zz68⟩, st68⟩ := X67.specialBack hx (y := mq4) rfl hown (mvT hZ (ww hw 5 rfl)) (mvT hZ (ww hw 6 rfl)) (mvT hZ (ww hw 7 rfl)) (by decide) (own_back (W := 1) (st1_2 l Z a0 hw [] b61 b62 kc62 (nar .char yy43) (nar .char yy44) wO wT kO kT iC vF vU vS h67 n0 O67 eyy43.1 eyy44.1 g_b61 ne_b61_b62 ft69 ft70 ft71 V_b62_67 WW) hZ (ww hw 7 rfl) (ww hw 3 rfl) (by decide) (by decide)) (g := (mkF m 105 #[iv p1, iv p2, iv p3, iv p4, iv p5, iv p6, iv yy40, iv yy41, iv yy42, iv yy43, iv yy44, iv yy45, .unset, .unset, .unset, .unset, .unset] [(.ref b62), (.ref b61), (.ref b61)])) rfl (by rw [hml]; rfl) (Steps.refl _) (a := b61) (argsL := [(.ref b62)]) (rest := [(.ref b61)]) (lenOf pd___C_V rfl) rfl (by show 2 * 0 + _ ≤ _; exact Nat.le_of_eq rfl) (D at_105) (fun _ _ => ⟨rfl, e67, (by decide : 2 + 1 ≤ _), (by decide : 6 + 2 ≤ _)⟩)
        dsimp only [Pt.U, Pt.locs, Pt.cells, Pt.slots] at X68 lq68 yq68 zz68 st68 hQ68
        subst lq68 yq68 zz68
        obtain ⟨rfl, Nq68, kq68, eq68, cq68, tt68, kt68, zq68, fq68, vq68⟩ := hQ68
        have N68 := Fr.app N67 Nq68
        have ft72 := (Nat.lt_of_lt_of_eq (Nat.lt_of_lt_of_eq (Nat.lt_of_lt_of_le lt_b61 E62.1) W64.size.symm) W67.size.symm)
        have ne_b61_tt68 : b61 ≠ tt68 := Nat.ne_of_lt (Nat.lt_of_lt_of_le ft72 zq68)
        have ft73 := (Nat.lt_of_lt_of_eq (Nat.lt_of_lt_of_eq lt_b62 W64.size.symm) W67.size.symm)
        have ne_b62_tt68 : b62 ≠ tt68 := Nat.ne_of_lt (Nat.lt_of_lt_of_le ft73 zq68)
        have ne_wO_tt68 : wO ≠ tt68 := Nat.ne_of_lt (Nat.lt_of_lt_of_le lt_wO (Nat.le_trans O67.2.1 zq68))
        have ne_wT_tt68 : wT ≠ tt68 := Nat.ne_of_lt (Nat.lt_of_lt_of_le lt_wT (Nat.le_trans O67.2.1 zq68))
        have g_tt68 : n0 ≤ tt68 := Nat.le_trans (O67.1 ▸ O67.2.1) zq68
        have sn_tt68 : Safe Z EL s.vm h67 tt68 := Safe.new zq68
        have O68 : Old Z n0 T68.heap := O67.keep kq68 (allS g_b61 all0)
        have ft74 := (Safe.wr W67 ft66 CR64.1 (Safe.wr W64 sf_b62 CR62.1 (Safe.ext E62 CR61.1 sf_b61)))
        have CR68 : CHr Z EL s.vm h0 s.vm T68.heap := CR67.trans (CHr.keep kq68 (sfS ft74 sf0) CR67.1)
        have lt_tt68 := vq68.lt
        refine Go.tr (f' := (mkF m 108 #[iv p1, iv p2, iv p3, iv p4, iv p5, iv p6, iv yy40, iv yy41, iv yy42, iv yy43, iv yy44, iv yy45, .unset, .unset, .unset, .unset, .unset] [(.ref b61)])) st68 ?_
        refine zrl 110 #[iv p1, iv p2, iv p3, iv p4, iv p5, iv p6, iv yy40, iv yy41, iv yy42, iv yy43, iv yy44, iv yy45, rv b61, .unset, .unset, .unset, .unset] X68 hx (D at_108) rfl ?_
        refine zgo 140 X68 hx (D at_110) ?_
        exact P140 _ T68.heap s.vm _ _ yy40 yy41 yy42 yy43 yy44 yy45 b61 tt68 kt68 (2 : Int32) [(.int (nar .byte ((nar .char yy43).toInt8.toInt32))), (.int (nar .byte ((nar .char yy44).toInt8.toInt32)))] (X68.more (by decide) (by decide)) rfl O68 N68 hS (Nat.zero_le _) hZ hown CR68 (own_an hyy40) (own_an hyy41) (own_lnp cd60 ⟨by decide, by show _ = ((2 : Nat) : Int); decide⟩) (Nat.le_of_ble_eq_true rfl) (fun _ => rfl) (fun _ => rfl) (fun h => absurd h (Nat.not_le.mpr (Nat.le_of_ble_eq_true rfl))) eyy43.2.1 eyy44.2.1 eyy45.2.1 ⟨by decide, by show _ = ((2 : Nat) : Int); decide⟩ eq68 cq68 fq68 vq68
      · refine zcy 113 X0 hx (D at_85) (feq cd60).2 ?_
        have pl3 := own_m4 hyy42 cd46 cd58 cd60
        obtain ⟨T75, h75, X75, e75, E75, A75, D75, -, st75⟩ := newO X0 hx hZ hown (ww hw 1 rfl) (ww hw 2 rfl) (ww hw 3 rfl) e0 (g := (mkF m 113 #[iv p1, iv p2, iv p3, iv p4, iv p5, iv p6, iv yy40, iv yy41, iv yy42, iv yy43, iv yy44, iv yy45, .unset, .unset, .unset, .unset, .unset] [])) rfl (D at_113) (by decide) (by decide)
        obtain ⟨b75, g75⟩ : ∃ z, z = h0.size := ⟨_, rfl⟩
        rw [← g75] at A75 D75 st75
        have ne_wO_b75 : wO ≠ b75 := Nat.ne_of_lt (Nat.lt_of_lt_of_le lt_wO (Nat.le_trans O0.2.1 (Nat.le_of_eq g75.symm)))
        have ne_wT_b75 : wT ≠ b75 := Nat.ne_of_lt (Nat.lt_of_lt_of_le lt_wT (Nat.le_trans O0.2.1 (Nat.le_of_eq g75.symm)))
        have g_b75 : n0 ≤ b75 := Nat.le_trans (O0.1 ▸ O0.2.1) (Nat.le_of_eq g75.symm)
        have O75 : Old Z n0 h75 := O0.ext E75
        have CR75 : CHr Z EL s.vm h0 s.vm h75 := CR0.trans (CHr.ext E75 CR0.1)
        have sf_b75 : Safe Z EL s.vm h75 b75 := (Safe.new (Nat.le_of_eq g75.symm)).ext E75 CR0.1
        have lt_b75 := A75.lt
        have F_coder_b75 : Fld Z h75 b75 "java/lang/String" "coder" "B" (.int (0 : Int32)) := D75 (Or.inr (ww hw 28 rfl)) (ty := .byte) (by decide)
        have F_value_b75 : Fld Z h75 b75 "java/lang/String" "value" "[B" .null := D75 (Or.inr (ww hw 30 rfl)) (ty := (.array .byte)) (by decide)
        refine zst 116 #[iv p1, iv p2, iv p3, iv p4, iv p5, iv p6, iv yy40, iv yy41, iv yy42, iv yy43, iv yy44, iv yy45, .unset, .unset, .unset, .unset, .unset] [(.ref b75)] st75 ?_
        refine Go.st (f' := (mkF m 117 #[iv p1, iv p2, iv p3, iv p4, iv p5, iv p6, iv yy40, iv yy41, iv yy42, iv yy43, iv yy44, iv yy45, .unset, .unset, .unset, .unset, .unset] [(.ref b75), (.ref b75)])) (fun _ k => XS.dup X75.here hx rfl (D at_116) rfl rfl k) ?_
        refine zic 118 3 X75 hx (D at_117) ?_
        obtain ⟨T76, h76, kc76, X76, e76, E76, A76, st76⟩ := newP X75 hx hZ (ww hw 4 rfl) e75 (g := (mkF m 118 #[iv p1, iv p2, iv p3, iv p4, iv p5, iv p6, iv yy40, iv yy41, iv yy42, iv yy43, iv yy44, iv yy45, .unset, .unset, .unset, .unset, .unset] [(.int 3), (.ref b75), (.ref b75)])) rfl (D at_118) rfl (by decide) (cap := 3) (by decide) (by decide) (by decide) (by decide)
        obtain ⟨b76, g76⟩ : ∃ z, z = h75.size := ⟨_, rfl⟩
        rw [← g76] at A76 st76
        have ne_b75_b76 : b75 ≠ b76 := Nat.ne_of_lt (Nat.lt_of_lt_of_eq lt_b75 g76.symm)
        have ne_wO_b76 : wO ≠ b76 := Nat.ne_of_lt (Nat.lt_of_lt_of_le lt_wO (Nat.le_trans O75.2.1 (Nat.le_of_eq g76.symm)))
        have ne_wT_b76 : wT ≠ b76 := Nat.ne_of_lt (Nat.lt_of_lt_of_le lt_wT (Nat.le_trans O75.2.1 (Nat.le_of_eq g76.symm)))
        have g_b76 : n0 ≤ b76 := Nat.le_trans (O75.1 ▸ O75.2.1) (Nat.le_of_eq g76.symm)
        have O76 : Old Z n0 h76 := O75.ext E76
        have CR76 : CHr Z EL s.vm h0 s.vm h76 := CR75.trans (CHr.ext E76 CR75.1)
        have sf_b76 : Safe Z EL s.vm h76 b76 := (Safe.new (Nat.le_of_eq g76.symm)).ext E76 CR75.1
        have V_b76 : Arv Z h76 b76 kc76 .char (3 : Int32) [(.int (0 : Int32)), (.int (0 : Int32)), (.int (0 : Int32))] (.int (0 : Int32)) := (Arv.new A76 (by decide)).pad (pad_rep [] (.int (0 : Int32)) 3)
        have lt_b76 := V_b76.lt
        refine zst 120 #[iv p1, iv p2, iv p3, iv p4, iv p5, iv p6, iv yy40, iv yy41, iv yy42, iv yy43, iv yy44, iv yy45, .unset, .unset, .unset, .unset, .unset] [(.ref b76), (.ref b75), (.ref b75)] st76 ?_
        refine Go.st (f' := (mkF m 121 #[iv p1, iv p2, iv p3, iv p4, iv p5, iv p6, iv yy40, iv yy41, iv yy42, iv yy43, iv yy44, iv yy45, .unset, .unset, .unset, .unset, .unset] [(.ref b76), (.ref b76), (.ref b75), (.ref b75)])) (fun _ k => XS.dup X76.here hx rfl (D at_120) rfl rfl k) ?_
        refine zic 122 0 X76 hx (D at_121) ?_
        refine zil 124 X76 hx (D at_122) rfl ?_
        obtain ⟨cl77, Ar77, q77, S77, Nx77, H77, G77⟩ := id V_b76
        have hin77 : ¬ ((0 : Int32) < 0 ∨ cl77.slots.size ≤ ((0 : Int32)).toNatClampNeg) := inb_of S77 ⟨by decide, by decide⟩
        obtain ⟨T78, h78, X78, e78, W78, st78⟩ := stC X76 hx hZ e76 Ar77 (j := (0 : Int32)) hin77 (g := (mkF m 124 #[iv p1, iv p2, iv p3, iv p4, iv p5, iv p6, iv yy40, iv yy41, iv yy42, iv yy43, iv yy44, iv yy45, .unset, .unset, .unset, .unset, .unset] [(.int yy43), (.int 0), (.ref b76), (.ref b76), (.ref b75), (.ref b75)])) rfl rfl (D at_124)
        have V_b76_78 : Arv Z h78 b76 kc76 .char (3 : Int32) [(.int (nar .char yy43)), (.int (0 : Int32)), (.int (0 : Int32))] (.int (0 : Int32)) := Arv.set Ar77 q77 S77 Nx77 H77 G77 (fits_nar_char _) W78 0 rfl (Nat.le_of_ble_eq_true rfl)
        have N78 := Fr.snoc X78 N0 g_b76
        have O78 : Old Z n0 h78 := O76.wr W78 g_b76
        have CR78 : CHr Z EL s.vm h0 s.vm h78 := CR76.trans (CHr.wr W78 sf_b76 CR76.1)
        refine zst 125 #[iv p1, iv p2, iv p3, iv p4, iv p5, iv p6, iv yy40, iv yy41, iv yy42, iv yy43, iv yy44, iv yy45, .unset, .unset, .unset, .unset, .unset] [(.ref b76), (.ref b75), (.ref b75)] st78 ?_
        refine Go.st (f' := (mkF m 126 #[iv p1, iv p2, iv p3, iv p4, iv p5, iv p6, iv yy40, iv yy41, iv yy42, iv yy43, iv yy44, iv yy45, .unset, .unset, .unset, .unset, .unset] [(.ref b76), (.ref b76), (.ref b75), (.ref b75)])) (fun _ k => XS.dup X78.here hx rfl (D at_125) rfl rfl k) ?_
        refine zic 127 1 X78 hx (D at_126) ?_
        refine zil 129 X78 hx (D at_127) rfl ?_
        have ft80 := (Safe.wr W78 sf_b76 CR76.1 sf_b76)
        obtain ⟨cl79, Ar79, q79, S79, Nx79, H79, G79⟩ := id V_b76_78
        have hin79 : ¬ ((1 : Int32) < 0 ∨ cl79.slots.size ≤ ((1 : Int32)).toNatClampNeg) := inb_of S79 ⟨by decide, by decide⟩
        obtain ⟨T81, h81, X81, e81, W81, st81⟩ := stC X78 hx hZ e78 Ar79 (j := (1 : Int32)) hin79 (g := (mkF m 129 #[iv p1, iv p2, iv p3, iv p4, iv p5, iv p6, iv yy40, iv yy41, iv yy42, iv yy43, iv yy44, iv yy45, .unset, .unset, .unset, .unset, .unset] [(.int yy44), (.int 1), (.ref b76), (.ref b76), (.ref b75), (.ref b75)])) rfl rfl (D at_129)
        have V_b76_81 : Arv Z h81 b76 kc76 .char (3 : Int32) [(.int (nar .char yy43)), (.int (nar .char yy44)), (.int (0 : Int32))] (.int (0 : Int32)) := Arv.set Ar79 q79 S79 Nx79 H79 G79 (fits_nar_char _) W81 1 rfl (Nat.le_of_ble_eq_true rfl)
        have N81 := Fr.snoc X81 N78 g_b76
        have O81 : Old Z n0 h81 := O78.wr W81 g_b76
        have CR81 : CHr Z EL s.vm h0 s.vm h81 := CR78.trans (CHr.wr W81 ft80 CR78.1)
        refine zst 130 #[iv p1, iv p2, iv p3, iv p4, iv p5, iv p6, iv yy40, iv yy41, iv yy42, iv yy43, iv yy44, iv yy45, .unset, .unset, .unset, .unset, .unset] [(.ref b76), (.ref b75), (.ref b75)] st81 ?_
        refine Go.st (f' := (mkF m 131 #[iv p1, iv p2, iv p3, iv p4, iv p5, iv p6, iv yy40, iv yy41, iv yy42, iv yy43, iv yy44, iv yy45, .unset, .unset, .unset, .unset, .unset] [(.ref b76), (.ref b76), (.ref b75), (.ref b75)])) (fun _ k => XS.dup X81.here hx rfl (D at_130) rfl rfl k) ?_
        refine zic 132 2 X81 hx (D at_131) ?_
        refine zil 134 X81 hx (D at_132) rfl ?_
        have ft83 := (Safe.wr W81 ft80 CR78.1 ft80)
        obtain ⟨cl82, Ar82, q82, S82, Nx82, H82, G82⟩ := id V_b76_81
        have hin82 : ¬ ((2 : Int32) < 0 ∨ cl82.slots.size ≤ ((2 : Int32)).toNatClampNeg) := inb_of S82 ⟨by decide, by decide⟩
        obtain ⟨T84, h84, X84, e84, W84, st84⟩ := stC X81 hx hZ e81 Ar82 (j := (2 : Int32)) hin82 (g := (mkF m 134 #[iv p1, iv p2, iv p3, iv p4, iv p5, iv p6, iv yy40, iv yy41, iv yy42, iv yy43, iv yy44, iv yy45, .unset, .unset, .unset, .unset, .unset] [(.int yy45), (.int 2), (.ref b76), (.ref b76), (.ref b75), (.ref b75)])) rfl rfl (D at_134)
        have V_b76_84 : Arv Z h84 b76 kc76 .char (3 : Int32) [(.int (nar .char yy43)), (.int (nar .char yy44)), (.int (nar .char yy45))] (.int (0 : Int32)) := Arv.set Ar82 q82 S82 Nx82 H82 G82 (fits_nar_char _) W84 2 rfl (Nat.le_of_ble_eq_true rfl)
        have N84 := Fr.snoc X84 N81 g_b76
        have O84 : Old Z n0 h84 := O81.wr W84 g_b76
        have CR84 : CHr Z EL s.vm h0 s.vm h84 := CR81.trans (CHr.wr W84 ft83 CR81.1)
        refine zst 135 #[iv p1, iv p2, iv p3, iv p4, iv p5, iv p6, iv yy40, iv yy41, iv yy42, iv yy43, iv yy44, iv yy45, .unset, .unset, .unset, .unset, .unset] [(.ref b76), (.ref b75), (.ref b75)] st84 ?_
        have ft86 := ((((A75.ext E76).wr W78).wr W81).wr W84)
        have ft87 := ((((F_coder_b75.ext E76).other W78 (Or.inl ne_b75_b76)).other W81 (Or.inl ne_b75_b76)).other W84 (Or.inl ne_b75_b76))
        have ft88 := ((((F_value_b75.ext E76).other W78 (Or.inl ne_b75_b76)).other W81 (Or.inl ne_b75_b76)).other W84 (Or.inl ne_b75_b76))
        obtain ⟨_, _, ⟨T85, L85, kk85, nn85⟩, -, X85, ⟨Lc85, hQ85, lq85, yq85, zz85⟩, st85⟩ := X84.specialBack hx (y := mq4) rfl hown (mvT hZ (ww hw 5 rfl)) (mvT hZ (ww hw 6 rfl)) (mvT hZ (ww hw 7 rfl)) (by decide) (own_back (W := 1) (st1_3 l Z a0 hw [] b75 b76 kc76 (nar .char yy43) (nar .char yy44) (nar .char yy45) wO wT kO kT iC vF vU vS h84 n0 O84 eyy43.1 eyy44.1 eyy45.1 g_b75 ne_b75_b76 ft86 ft87 ft88 V_b76_84 WW) hZ (ww hw 7 rfl) (ww hw 3 rfl) (by decide) (by decide)) (g := (mkF m 135 #[iv p1, iv p2, iv p3, iv p4, iv p5, iv p6, iv yy40, iv yy41, iv yy42, iv yy43, iv yy44, iv yy45, .unset, .unset, .unset, .unset, .unset] [(.ref b76), (.ref b75), (.ref b75)])) rfl (by rw [hml]; rfl) (Steps.refl _) (a := b75) (argsL := [(.ref b76)]) (rest := [(.ref b75)]) (lenOf pd___C_V rfl) rfl (by show 2 * 0 + _ ≤ _; exact Nat.le_of_eq rfl) (D at_135) (fun _ _ => ⟨rfl, e84, (by decide : 2 + 1 ≤ _), (by decide : 7 + 3 ≤ _)⟩)
        dsimp only [Pt.U, Pt.locs, Pt.cells, Pt.slots] at X85 lq85 yq85 zz85 st85 hQ85
        subst lq85 yq85 zz85
        obtain ⟨rfl, Nq85, kq85, eq85, cq85, tt85, kt85, zq85, fq85, vq85⟩ := hQ85
        have N85 := Fr.app N84 Nq85
        have ft89 := (Nat.lt_of_lt_of_eq (Nat.lt_of_lt_of_eq (Nat.lt_of_lt_of_eq (Nat.lt_of_lt_of_le lt_b75 E76.1) W78.size.symm) W81.size.symm) W84.size.symm)
        have ne_b75_tt85 : b75 ≠ tt85 := Nat.ne_of_lt (Nat.lt_of_lt_of_le ft89 zq85)
        have ft90 := (Nat.lt_of_lt_of_eq (Nat.lt_of_lt_of_eq (Nat.lt_of_lt_of_eq lt_b76 W78.size.symm) W81.size.symm) W84.size.symm)
        have ne_b76_tt85 : b76 ≠ tt85 := Nat.ne_of_lt (Nat.lt_of_lt_of_le ft90 zq85)
        have ne_wO_tt85 : wO ≠ tt85 := Nat.ne_of_lt (Nat.lt_of_lt_of_le lt_wO (Nat.le_trans O84.2.1 zq85))
        have ne_wT_tt85 : wT ≠ tt85 := Nat.ne_of_lt (Nat.lt_of_lt_of_le lt_wT (Nat.le_trans O84.2.1 zq85))
        have g_tt85 : n0 ≤ tt85 := Nat.le_trans (O84.1 ▸ O84.2.1) zq85
        have sn_tt85 : Safe Z EL s.vm h84 tt85 := Safe.new zq85
        have O85 : Old Z n0 T85.heap := O84.keep kq85 (allS g_b75 all0)
        have ft91 := (Safe.wr W84 ft83 CR81.1 (Safe.wr W81 ft80 CR78.1 (Safe.wr W78 sf_b76 CR76.1 (Safe.ext E76 CR75.1 sf_b75))))
        have CR85 : CHr Z EL s.vm h0 s.vm T85.heap := CR84.trans (CHr.keep kq85 (sfS ft91 sf0) CR84.1)
        have lt_tt85 := vq85.lt
        refine Go.tr (f' := (mkF m 138 #[iv p1, iv p2, iv p3, iv p4, iv p5, iv p6, iv yy40, iv yy41, iv yy42, iv yy43, iv yy44, iv yy45, .unset, .unset, .unset, .unset, .unset] [(.ref b75)])) st85 ?_
        refine zrl 140 #[iv p1, iv p2, iv p3, iv p4, iv p5, iv p6, iv yy40, iv yy41, iv yy42, iv yy43, iv yy44, iv yy45, rv b75, .unset, .unset, .unset, .unset] X85 hx (D at_138) rfl ?_
        exact P140 _ T85.heap s.vm _ _ yy40 yy41 yy42 yy43 yy44 yy45 b75 tt85 kt85 (3 : Int32) [(.int (nar .byte ((nar .char yy43).toInt8.toInt32))), (.int (nar .byte ((nar .char yy44).toInt8.toInt32))), (.int (nar .byte ((nar .char yy45).toInt8.toInt32)))] (X85.more (by decide) (by decide)) rfl O85 N85 hS (Nat.zero_le _) hZ hown CR85 (own_an hyy40) (own_an hyy41) (own_lnp pl3 ⟨by decide, by show _ = ((3 : Nat) : Int); decide⟩) (Nat.le_of_ble_eq_true rfl) (fun _ => rfl) (fun _ => rfl) (fun _ => rfl) eyy43.2.1 eyy44.2.1 eyy45.2.1 ⟨by decide, by show _ = ((3 : Nat) : Int); decide⟩ eq85 cq85 fq85 vq85
theorem own_el {args : Array Value} {first s : State} {o : Option Outcome} {idx : List Nat} {t i : Term} {a : Addr} {j : Int32} {cell : Cell} (h1 : t.eval args first o idx s = some (.ref a)) (h2 : i.eval args first o idx s = some (.int j)) (h3 : ¬ j < 0) (h4 : s.arrayAt? a = some cell) : (Term.elem t i).eval args first o idx s = cell.slots[j.toNatClampNeg]? := by
  simp only [Term.eval, h1, h2, Option.bind_eq_bind, Option.bind_some, h4]
  rw [if_neg h3]
theorem own_eq_i {args : Array Value} {first s : State} {o : Option Outcome} {idx : List Nat} {t u : Term} {k : Int32} (h : (Jvm.Cond.eq t u).value args first o s idx = some true) (hu : u.eval args first o idx s = some (.int k)) : t.eval args first o idx s = some (.int k) := by
  simp only [Cond.value] at h
  rw [hu] at h
  cases ht : t.eval args first o idx s with
  | none => simp [ht] at h
  | some x => cases x <;> simp [ht] at h ⊢ <;> exact h
theorem own_tab {s : State} {args a0 : Array Value} {C n d : String} {a : Addr} {f : Nat → Int32} {u : Term} (hf : Fit s) (ev : (Term.static C n d).eval args s none [] s = some (.ref a)) (E : Exa s s.heap a "[B") (wa : (Cond.arrayClass .byte).before a0 s = true)
    (hl : (Term.length (.static C n d)).eval args s none [] s = some (.int 100)) (ha : (Jvm.Cond.all (.static C n d) (.eq (.elem (.static C n d) (.index 0)) u)).value args s none s [] = some true) (hu : ∀ i, i < 100 → u.eval args s none [i] s = some (.int (f i))) :
    ∃ k, Arv s s.heap a k .byte (100 : Int32) ((List.range 100).map (fun r => .int (f r))) (.int (0 : Int32)) := by
  obtain ⟨a', cell, e1, e2, e3⟩ := Term.length_spec hl
  cases ev.symm.trans e1
  have e4 := State.arrayAt?_spec e2
  have hc := e4.1
  obtain ⟨q1, q2⟩ := own_len hl ev hc
  have hs : cell.slots.size = 100 := by
    have t := congrArg Int32.toInt q2
    rw [len_toInt q1] at t
    have e : (100 : Int32).toInt = 100 := by decide
    omega
  obtain ⟨cB, kB, comp, f1, f2, f3⟩ := Cond.arrayClass_spec wa
  obtain ⟨cell', k', g1, g2, g3, g4, -⟩ := E
  cases hc.symm.trans g1
  cases (show s.vm.findClass "[B" = some cB from f1).symm.trans g2
  have hu' : cell.vm ≠ .unknown := fun q => by
    unfold State.arrayAt? at e2; simp [hc, g3, q] at e2
  have A : Arr s s.heap a cell .byte := ⟨hc, ⟨fun k q => by rw [q] at g4; exact absurd g4 (by simp [VmData.isStatics]), kB, f2, comp, f3⟩, hu'⟩
  have al := Cond.all_elim (t := .static C n d) (idx := []) ev e2 ha
  have S : cell.slots.size = (100 : Int32).toNatClampNeg := hs
  have H : Has cell ((List.range 100).map (fun r => Value.int (f r))) (.int (0 : Int32)) := fun j hj => by
    have hj' : j < 100 := by omega
    have q := own_eq_i (al j hj) (hu j hj')
    have ev' : (Term.static C n d).eval args s none [j] s = some (.ref a) := ev
    have jt : (Nat.toInt32 j).toInt = (j : Int) := len_toInt (Nat.lt_trans hj q1)
    have jn : (Nat.toInt32 j).toNatClampNeg = j := by simp only [Int32.toNatClampNeg, jt]; rfl
    have jl : ¬ (Nat.toInt32 j) < 0 := by
      have e0 : (0 : Int32).toInt = 0 := by decide
      rw [Int32.lt_iff_toInt_lt]; omega
    have q' : (Term.elem (.static C n d) (.index 0)).eval args s none [j] s = cell.slots[j]? := by
      rw [own_el (j := Nat.toInt32 j) ev' rfl jl e2, jn]
    rw [q'] at q
    rw [q]; simp [List.getD, hj']
  refine ⟨cell.cls, cell, A, rfl, S, by decide, H, fun j hj => ?_⟩
  have e1 : (Nat.toInt32 j).toNatClampNeg = j := by simp only [Int32.toNatClampNeg, len_toInt (Nat.lt_trans hj q1)]; rfl
  exact elem_fits (j := Nat.toInt32 j) hf A (idx_in hj q1) (by rw [e1]; exact H j hj)
theorem own_tu : (∀ i : Fin 100, (48 : Int32) + (Nat.toInt32 i.val) % 10 = Int32.ofNat (48 + i.val % 10)) ∧ (∀ i : Fin 100, (48 : Int32) + (Nat.toInt32 i.val) / 10 = Int32.ofNat (48 + i.val / 10)) := by decide +kernel
theorem own_tabR {s : State} {args a0 : Array Value} {C n d : String} {a : Addr} (hf : Fit s) (ev : (Term.static C n d).eval args s none [] s = some (.ref a)) (E : Exa s s.heap a "[B") (wa : (Cond.arrayClass .byte).before a0 s = true)
    (hl : (Term.length (.static C n d)).eval args s none [] s = some (.int 100)) (ha : (Jvm.Cond.all (.static C n d) (.eq (.elem (.static C n d) (.index 0)) (.add (.int 48) (.rem (.index 0) (.int 10))))).value args s none s [] = some true) : ∃ k, Arv s s.heap a k .byte (100 : Int32) onesL (.int (0 : Int32)) :=
  own_tab (f := fun r => Int32.ofNat (48 + r % 10)) hf ev E wa hl ha (fun i hi => by
    have q := own_tu.1 ⟨i, hi⟩
    simp only [Term.eval, List.getElem?_cons_zero, Option.map_some, Option.bind_eq_bind, Option.bind_some, Option.pure_def]
    rw [if_neg (by decide)]; simp only [Option.bind_some]; rw [q])
theorem own_tabD {s : State} {args a0 : Array Value} {C n d : String} {a : Addr} (hf : Fit s) (ev : (Term.static C n d).eval args s none [] s = some (.ref a)) (E : Exa s s.heap a "[B") (wa : (Cond.arrayClass .byte).before a0 s = true)
    (hl : (Term.length (.static C n d)).eval args s none [] s = some (.int 100)) (ha : (Jvm.Cond.all (.static C n d) (.eq (.elem (.static C n d) (.index 0)) (.add (.int 48) (.div (.index 0) (.int 10))))).value args s none s [] = some true) : ∃ k, Arv s s.heap a k .byte (100 : Int32) tensL (.int (0 : Int32)) :=
  own_tab (f := fun r => Int32.ofNat (48 + r / 10)) hf ev E wa hl ha (fun i hi => by
    have q := own_tu.2 ⟨i, hi⟩
    simp only [Term.eval, List.getElem?_cons_zero, Option.map_some, Option.bind_eq_bind, Option.bind_some, Option.pure_def]
    rw [if_neg (by decide)]; simp only [Option.bind_some]; rw [q])

set_option maxRecDepth 65536 in
set_option maxHeartbeats 40000000 in
theorem comes_1 {Post : Tables → Env → Array Value → State → Outcome → State → Prop} (hpost : ∀ tb e args s v u, (limb_1_1.after args s (.returned v) u = true ∧ limb_1_2.after args s (.returned v) u = true ∧ True) → ReturnedEndW s (.returned v) u (Jvm.fieldLocs frame_1_writes args s ++ Jvm.arrayLocs frame_1_arrays args s ++ Jvm.staticLocs frame_1_statics s) 88 13568 → Post tb e args s (.returned v) u) :
    ArmFor flags0 classFile x code maxLocals ret World_1 tables_1 room_1 Calls_1 rest_1 Pre_1 Post := by
  intro l hfl _ _ p e ha hc hk s m args below hf hA hF happ hP
  obtain ⟨hcalls, hrest, hpre⟩ := hP
  obtain ⟨-, -, -, hnamed, -, -, -, hat⟩ := (Spec.applies_iff hf).mp happ
  obtain ⟨hg, hn⟩ := and_e (Cond.before_iff.mp (show (Jvm.Cond.and given_1 narrow_1).before args s = true from hpre))
  obtain ⟨g1, g2⟩ := and_e hg
  obtain ⟨g3, g4⟩ := and_e g2
  obtain ⟨g5, g6⟩ := and_e g4
  obtain ⟨g7, g8⟩ := and_e g6
  obtain ⟨g9, g10⟩ := and_e g8
  obtain ⟨g11, g12⟩ := and_e g10
  obtain ⟨v0, v1, v2, v3, v4, v5, rfl⟩ : ∃ v0 v1 v2 v3 v4 v5 : Value, args = #[v0, v1, v2, v3, v4, v5] := by
    have hs : args.size = 6 := by simpa [Cond.value, given_1] using g1
    obtain ⟨L⟩ := args
    match L, hs with
    | [v0, v1, v2, v3, v4, v5], _ => exact ⟨v0, v1, v2, v3, v4, v5, rfl⟩
  have hw := fun d (hd : d ∈ tables_1) => atoms_spec (ws := Jvm.Cond.code x code maxLocals ret :: tables_1) hat d (List.mem_cons_of_mem _ hd)
  have hfit : Fit s := fun {y c} hc i hi => by
    obtain ⟨ha, rfl⟩ := Array.getElem?_eq_some_iff.mp hc
    have q := List.all_eq_true.mp ((Array.all_eq_true_iff_forall_mem.mp hF) _ (Array.getElem_mem ha)) i (List.mem_range.mpr hi)
    simpa [Array.getElem?_eq_getElem hi] using q
  obtain ⟨hsets, hown0⟩ := atoms_of _ (rest_1_c_eq ▸ (show rest_1_c.before _ s = true from hrest))
  have hr0 := Cond.before_iff.mp hown0
  obtain ⟨i0, ei0⟩ := is_v g3
  obtain rfl : v0 = (.int i0) := Option.some.inj ei0
  obtain ⟨i1, ei1⟩ := is_v g5
  obtain rfl : v1 = (.int i1) := Option.some.inj ei1
  obtain ⟨i2, ei2⟩ := is_v g7
  obtain rfl : v2 = (.int i2) := Option.some.inj ei2
  obtain ⟨i3, ei3⟩ := is_v g9
  obtain rfl : v3 = (.int i3) := Option.some.inj ei3
  obtain ⟨i4, ei4⟩ := is_v g11
  obtain rfl : v4 = (.int i4) := Option.some.inj ei4
  obtain ⟨i5, ei5⟩ := is_v g12
  obtain rfl : v5 = (.int i5) := Option.some.inj ei5
  obtain ⟨wO, ev_wO⟩ := exa_v (Cond.before_iff.mp (hsets _ (List.mem_of_getElem? (i := 12) rfl)))
  obtain ⟨wT, ev_wT⟩ := exa_v (Cond.before_iff.mp (hsets _ (List.mem_of_getElem? (i := 17) rfl)))
  have S_wO := Sta.start ev_wO (Or.inl (hsets _ (List.mem_of_getElem? (i := 11) rfl)))
  have E_wO := Exa.start ev_wO (Cond.before_iff.mp (hsets _ (List.mem_of_getElem? (i := 12) rfl)))
  have S_wT := Sta.start ev_wT (Or.inl (hsets _ (List.mem_of_getElem? (i := 16) rfl)))
  have E_wT := Exa.start ev_wT (Cond.before_iff.mp (hsets _ (List.mem_of_getElem? (i := 17) rfl)))
  obtain ⟨iC, ev_iC⟩ := is_v (Cond.before_iff.mp (hsets _ (List.mem_of_getElem? (i := 1) rfl)))
  have S_iC := Sta.start ev_iC (Or.inl (hsets _ (List.mem_of_getElem? (i := 0) rfl)))
  have nz_iC : ¬ iC = (0 : Int32) := own_ne_int (Cond.before_iff.mp (hsets _ (List.mem_of_getElem? (i := 2) rfl))) ev_iC
  obtain ⟨vF, ev_vF, r_vF⟩ := isR_v (Cond.before_iff.mp (hsets _ (List.mem_of_getElem? (i := 8) rfl)))
  have S_vF := Sta.start ev_vF (Or.inl (hsets _ (List.mem_of_getElem? (i := 7) rfl)))
  obtain ⟨vU, ev_vU, r_vU⟩ := isR_v (Cond.before_iff.mp (hsets _ (List.mem_of_getElem? (i := 27) rfl)))
  have S_vU := Sta.start ev_vU (Or.inl (hsets _ (List.mem_of_getElem? (i := 26) rfl)))
  obtain ⟨vS, ev_vS, r_vS⟩ := isR_v (Cond.before_iff.mp (hsets _ (List.mem_of_getElem? (i := 32) rfl)))
  have S_vS := Sta.start ev_vS (Or.inl (hsets _ (List.mem_of_getElem? (i := 31) rfl)))
  obtain ⟨kO, V_wO⟩ := own_tabR hfit ev_wO E_wO (hw _ (List.mem_of_getElem? (i := 20) rfl)) (own_eq_int (Cond.before_iff.mp (hsets _ (List.mem_of_getElem? (i := 13) rfl)))) (Cond.before_iff.mp (hsets _ (List.mem_of_getElem? (i := 14) rfl)))
  obtain ⟨kT, V_wT⟩ := own_tabD hfit ev_wT E_wT (hw _ (List.mem_of_getElem? (i := 20) rfl)) (own_eq_int (Cond.before_iff.mp (hsets _ (List.mem_of_getElem? (i := 18) rfl)))) (Cond.before_iff.mp (hsets _ (List.mem_of_getElem? (i := 19) rfl)))
  have WW : World1 s  wO wT kO kT iC vF vU vS  := ⟨S_iC, nz_iC, S_vF, r_vF, S_vU, r_vU, S_vS, r_vS, S_wO, E_wO, S_wT, E_wT, V_wO, V_wT⟩
  have hCH : CHv s EL s.vm s.heap := CHv.start (own_EL hw) (fun p hp => hcalls.2.2.1 p hp) (hsets _ (List.mem_of_getElem? (i := 2) rfl)) (own_wS hw _ (by simp [Bundle.stringAtoms])) (own_wS hw _ (by simp [Bundle.stringAtoms, Bundle.sN]))
  obtain ⟨n, o, h1, h2, h3, _, L, rfl, ⟨rfl, N⟩, -, hq⟩ := rm0 l s _ hw tables_1 i0 i1 i2 i3 i4 i5  wO wT kO kT iC vF vU vS  s.heap s.heap.size (Old.start s) (by unfold Launch.stackTraces; rw [hfl]; decide) WW  p e ha hc hk s m _ below hf ((Spec.applies_iff_loose hf).mp happ).1 ⟨rfl, State.Warmed39.refl s, rfl, hCH⟩ ⟨Jvm.MethodsKnown_of_tablesKnown hcalls.2.1, Jvm.FramesKnown_of_framesKnown hcalls.1 hf⟩
  refine ⟨n, _, h1, h2, h3, hpost _ _ _ _ _ _ ⟨Cond.after_iff.mpr rfl, Cond.after_iff.mpr (eq_i res_at (Term.int_eval (1)) rfl), trivial⟩ ⟨hq.1, hq.2.1, hq.2.2.1, (hq.2.2.2.sift fun y hy => Or.inr (N y hy)).mono (by decide) (by decide)⟩⟩
theorem main_1_1 : Claimed_1_1 := comes_1 fun _ _ _ _ _ _ h hF => ⟨h.1, hF⟩
theorem main_1_2 : Claimed_1_2 := comes_1 fun _ _ _ _ _ _ h hF => ⟨h.2.1, hF⟩
end Jvm.Pilot.@@N@@
namespace Jvm.Pilot.@@N@@
open Jvm Jvm.ClassFile Sem Op Lib Jvm.Free Jvm.Stand Jvm.Pilot.@@N@@.Jvm.D
/-! MADE BY PROGRAM (witnessworld.py) out of the Statement's table words and the real class files: 45 classes; the members and pool entries that the words name. The judged class is class 1, her method 1. -/
namespace start1
open Jvm.ClassFile
def u (s : String) : CpInfo := .utf8 (stringToUtf16 s)
/-- a pool by its gaps: so many unusable entries, then the entry; so many at the end -/
def gap : Nat → List CpInfo → List CpInfo
  | 0, r => r
  | n + 1, r => .unusable :: gap n r
def poolList (es : List (Nat × CpInfo)) (last : Nat) : List CpInfo := es.foldr (fun e r => gap e.1 (e.2 :: r)) (gap last [])
def pool (es : List (Nat × CpInfo)) (last : Nat) : Array CpInfo := ⟨poolList es last⟩
def fileOf (pool : Array CpInfo) (this : Nat) (attrs : Array Attribute := #[]) (ms : Array MethodInfo := #[]) (fl : Nat := 33) (sup : Nat := 0) (ifs : Array Nat := #[]) (fds : Array FieldInfo := #[]) : ClassFile where
  minorVersion := 0
  majorVersion := 65
  constantPool := pool
  accessFlags := fl
  thisClass := this
  superClass := sup
  interfaces := ifs
  fields := fds
  methods := ms
  attributes := attrs
def plain (name : String) (sup : Option ClassId) : Class where
  name := name
  kind := .ordinary
  loader := none
  accessFlags := 33
  super := sup
  interfaces := #[]
  cf := none
  fields := #[]
  methods := #[]
  instanceTypes := #[]
  staticTypes := #[]
  resolved := #[]
  callSites := []
  init := .initialized
  statics := none
  mirror := none

def pool0 : Array CpInfo := pool [(5, u "<init>"), (0, u "()V"), (1, .class_ 10), (1, u "java/lang/Object"), (85, u "clone"), (0, u "()Ljava/lang/Object;")] 26

def k0c0 : Code := { maxStack := 0, maxLocals := 1, code := object_method_1_code, exceptionTable := #[], attributes := #[] }
def k0m0 : Method := { name := "<init>", desc := "()V", sig := { parameters := [], returnType := none }, accessFlags := 1, code := some k0c0 }
def k0m1 : Method := { name := "clone", desc := "()Ljava/lang/Object;", sig := { parameters := [], returnType := some (.object "java/lang/Object") }, accessFlags := 260, code := none }
/-- java/lang/Object -/
def k0 : Class := { plain "java/lang/Object" none with
  accessFlags := 33
  interfaces := #[]
  cf := some (fileOf pool0 8 #[] #[{ accessFlags := 1, nameIndex := 5, descriptorIndex := 6, attributes := #[] }, { accessFlags := 260, nameIndex := 96, descriptorIndex := 97, attributes := #[] }] 33 0 #[] #[])
  fields := #[]
  methods := #[k0m0, k0m1]
  instanceTypes := #[]
  staticTypes := #[]
  resolved := Array.replicate 124 none
  statics := none }

def pool1 : Array CpInfo := pool [(2, .class_ 4), (1, u "java/lang/Object"), (0, u "<init>"), (0, u "()V"), (0, .integer 2147483647), (0, .class_ 9), (0, u "java/lang/String"), (0, .methodref 8 11), (0, .nameAndType 5 12), (0, u "([C)V"), (0, .methodref 8 14), (0, .nameAndType 15 16), (0, u "valueOf"), (0, u "(C)Ljava/lang/String;"), (0, .methodref 18 19), (0, .class_ 20), (0, .nameAndType 21 22), (0, u "com/example/hearsay_rules/hearsayrules/InvalidJsonException"), (0, u "at"), (0, u "(IILjava/lang/String;)Lcom/example/hearsay_rules/hearsayrules/InvalidJsonException;"), (0, .methodref 18 24), (0, .nameAndType 25 26), (0, u "getMessage"), (0, u "()Ljava/lang/String;"), (0, .methodref 28 29), (0, .class_ 30), (0, .nameAndType 31 32), (0, u "com/example/hearsay_rules/hearsayrules/InvalidJsonExceptionAtPinLaw"), (0, u "digits"), (0, u "(I)I"), (0, .methodref 8 34), (0, .nameAndType 35 36), (0, u "length"), (0, u "()I"), (0, .string 38), (0, u "line "), (0, .methodref 28 40), (0, .nameAndType 41 42), (0, u "lit"), (0, u "(Ljava/lang/String;ILjava/lang/String;)Z"), (0, .methodref 28 44), (0, .nameAndType 45 46), (0, u "num"), (0, u "(Ljava/lang/String;III)Z"), (0, .string 48), (0, u ", column "), (0, .string 50), (0, u ": "), (0, .methodref 8 52), (0, .nameAndType 53 54), (0, u "charAt"), (0, u "(I)C"), (0, .integer 100000), (0, .integer 1000000), (0, .integer 10000000), (0, .integer 100000000), (0, .integer 1000000000), (0, .long 10), (1, .long 100), (1, .long 1000), (1, .long 10000), (1, .long 100000), (1, .long 1000000), (1, .long 10000000), (1, .long 100000000), (1, .long 1000000000), (1, .methodref 28 79), (0, .nameAndType 80 81), (0, u "ch"), (0, u "(Ljava/lang/String;ILjava/lang/String;I)Z"), (0, .methodref 28 83), (0, .nameAndType 84 85), (0, u "pow10"), (0, u "(I)J"), (0, .methodref 28 87), (0, .nameAndType 88 89), (0, u "dig"), (0, u "(Ljava/lang/String;IIII)Z"), (2, u "law"), (0, u "(IIIIII)Z")] 3

def k1m0 : Method := { name := "<init>", desc := "()V", sig := { parameters := [], returnType := none }, accessFlags := 1, code := none }
def k1c1 : Code := { maxStack := 6, maxLocals := 17, code := code, exceptionTable := #[], attributes := #[] }
def k1m1 : Method := { name := "law", desc := "(IIIIII)Z", sig := { parameters := [.int, .int, .int, .int, .int, .int], returnType := some .boolean }, accessFlags := 9, code := some k1c1 }
def k1c2 : Code := { maxStack := 2, maxLocals := 1, code := method_3_code, exceptionTable := #[], attributes := #[] }
def k1m2 : Method := { name := "digits", desc := "(I)I", sig := { parameters := [.int], returnType := some .int }, accessFlags := 10, code := some k1c2 }
def k1c3 : Code := { maxStack := 5, maxLocals := 2, code := method_4_code, exceptionTable := #[], attributes := #[] }
def k1m3 : Method := { name := "pow10", desc := "(I)J", sig := { parameters := [.int], returnType := some .long }, accessFlags := 10, code := some k1c3 }
def k1c4 : Code := { maxStack := 3, maxLocals := 4, code := method_5_code, exceptionTable := #[], attributes := #[] }
def k1m4 : Method := { name := "ch", desc := "(Ljava/lang/String;ILjava/lang/String;I)Z", sig := { parameters := [(.object "java/lang/String"), .int, (.object "java/lang/String"), .int], returnType := some .boolean }, accessFlags := 10, code := some k1c4 }
def k1c5 : Code := { maxStack := 4, maxLocals := 3, code := method_6_code, exceptionTable := #[], attributes := #[] }
def k1m5 : Method := { name := "lit", desc := "(Ljava/lang/String;ILjava/lang/String;)Z", sig := { parameters := [(.object "java/lang/String"), .int, (.object "java/lang/String")], returnType := some .boolean }, accessFlags := 10, code := some k1c5 }
def k1c6 : Code := { maxStack := 4, maxLocals := 6, code := method_7_code, exceptionTable := #[], attributes := #[] }
def k1m6 : Method := { name := "dig", desc := "(Ljava/lang/String;IIII)Z", sig := { parameters := [(.object "java/lang/String"), .int, .int, .int, .int], returnType := some .boolean }, accessFlags := 10, code := some k1c6 }
def k1c7 : Code := { maxStack := 5, maxLocals := 4, code := method_8_code, exceptionTable := #[], attributes := #[] }
def k1m7 : Method := { name := "num", desc := "(Ljava/lang/String;III)Z", sig := { parameters := [(.object "java/lang/String"), .int, .int, .int], returnType := some .boolean }, accessFlags := 10, code := some k1c7 }
/-- com/example/hearsay_rules/hearsayrules/InvalidJsonExceptionAtPinLaw -/
def k1 : Class := { plain "com/example/hearsay_rules/hearsayrules/InvalidJsonExceptionAtPinLaw" (some 0) with
  accessFlags := 49
  interfaces := #[]
  cf := some (fileOf pool1 28 #[] #[{ accessFlags := 1, nameIndex := 5, descriptorIndex := 6, attributes := #[] }, { accessFlags := 9, nameIndex := 92, descriptorIndex := 93, attributes := #[] }, { accessFlags := 10, nameIndex := 31, descriptorIndex := 32, attributes := #[] }, { accessFlags := 10, nameIndex := 84, descriptorIndex := 85, attributes := #[] }, { accessFlags := 10, nameIndex := 80, descriptorIndex := 81, attributes := #[] }, { accessFlags := 10, nameIndex := 41, descriptorIndex := 42, attributes := #[] }, { accessFlags := 10, nameIndex := 88, descriptorIndex := 89, attributes := #[] }, { accessFlags := 10, nameIndex := 45, descriptorIndex := 46, attributes := #[] }] 49 2 #[] #[])
  fields := #[]
  methods := #[k1m0, k1m1, k1m2, k1m3, k1m4, k1m5, k1m6, k1m7]
  instanceTypes := #[]
  staticTypes := #[]
  resolved := Array.replicate 97 none
  statics := none }

def pool2 : Array CpInfo := pool [(1, .class_ 2), (0, u "java/io/Serializable"), (0, .class_ 4), (0, u "java/lang/Object")] 2

/-- java/io/Serializable -/
def k2 : Class := { plain "java/io/Serializable" (some 0) with
  accessFlags := 1537
  interfaces := #[]
  cf := some (fileOf pool2 1 #[] #[] 1537 3 #[] #[])
  fields := #[]
  methods := #[]
  instanceTypes := #[]
  staticTypes := #[]
  resolved := Array.replicate 7 none
  statics := none }

def pool3 : Array CpInfo := pool [(1, .class_ 2), (0, u "java/lang/Comparable"), (0, .class_ 4), (0, u "java/lang/Object")] 7

/-- java/lang/Comparable -/
def k3 : Class := { plain "java/lang/Comparable" (some 0) with
  accessFlags := 1537
  interfaces := #[]
  cf := some (fileOf pool3 1 #[] #[] 1537 3 #[] #[])
  fields := #[]
  methods := #[]
  instanceTypes := #[]
  staticTypes := #[]
  resolved := Array.replicate 12 none
  statics := none }

def pool4 : Array CpInfo := pool [(2, .class_ 4), (1, u "java/lang/CharSequence"), (42, .class_ 48), (0, u "java/lang/CharSequence$1CodePointIterator"), (10, .class_ 60), (0, u "java/lang/CharSequence$1CharIterator"), (5, .class_ 67), (0, u "java/lang/Object")] 63

/-- java/lang/CharSequence -/
def k4 : Class := { plain "java/lang/CharSequence" (some 0) with
  accessFlags := 1537
  interfaces := #[]
  cf := some (fileOf pool4 2 #[.nestMembers #[47, 59]] #[] 1537 66 #[] #[])
  fields := #[]
  methods := #[]
  instanceTypes := #[]
  staticTypes := #[]
  resolved := Array.replicate 131 none
  statics := none }

def pool5 : Array CpInfo := pool [(1, .class_ 2), (0, u "java/lang/constant/Constable"), (0, .class_ 4), (0, u "java/lang/Object")] 6

/-- java/lang/constant/Constable -/
def k5 : Class := { plain "java/lang/constant/Constable" (some 0) with
  accessFlags := 1537
  interfaces := #[]
  cf := some (fileOf pool5 1 #[] #[] 1537 3 #[] #[])
  fields := #[]
  methods := #[]
  instanceTypes := #[]
  staticTypes := #[]
  resolved := Array.replicate 11 none
  statics := none }

def pool6 : Array CpInfo := pool [(1, .class_ 2), (0, u "java/lang/constant/ConstantDesc"), (0, .class_ 4), (0, u "java/lang/Object")] 32

/-- java/lang/constant/ConstantDesc -/
def k6 : Class := { plain "java/lang/constant/ConstantDesc" (some 0) with
  accessFlags := 1537
  interfaces := #[]
  cf := some (fileOf pool6 1 #[] #[] 1537 3 #[] #[])
  fields := #[]
  methods := #[]
  instanceTypes := #[]
  staticTypes := #[]
  resolved := Array.replicate 37 none
  statics := none }

def pool7 : Array CpInfo := pool [(1, .methodref 2 3), (0, .class_ 4), (0, .nameAndType 5 6), (0, u "java/lang/Object"), (0, u "<init>"), (0, u "()V"), (0, .string 8), (0, u ""), (0, .fieldref 10 11), (0, .class_ 12), (0, .nameAndType 13 14), (0, u "java/lang/String"), (0, u "value"), (0, u "[B"), (0, .fieldref 10 16), (0, .nameAndType 17 18), (0, u "coder"), (0, u "B"), (2, u "hash"), (0, u "I"), (2, u "hashIsZero"), (0, u "Z"), (0, .methodref 10 28), (0, .nameAndType 5 29), (0, u "([CIILjava/lang/Void;)V"), (8, .fieldref 10 39), (0, .nameAndType 40 26), (0, u "COMPACT_STRINGS"), (1, .class_ 44), (1, u "java/lang/StringUTF16"), (0, u "compress"), (1, .methodref 42 48), (0, .nameAndType 49 50), (0, u "coderFromArrayLen"), (0, u "([BI)B"), (2, u "toBytes"), (0, .methodref 55 56), (0, .class_ 57), (0, .nameAndType 58 59), (0, u "java/util/Arrays"), (0, u "copyOfRange"), (0, u "([BII)[B"), (47, .class_ 109), (1, u "java/lang/StringLatin1"), (32, u "()Z"), (34, .methodref 42 178), (0, .nameAndType 45 179), (0, u "([CII)[B"), (13, .class_ 195), (1, u "java/lang/System"), (13, .methodref 10 210), (0, .nameAndType 5 211), (0, u "([BB)V"), (0, .methodref 193 213), (0, .nameAndType 214 215), (0, u "arraycopy"), (0, u "(Ljava/lang/Object;ILjava/lang/Object;II)V"), (118, u "()I"), (0, .methodref 10 336), (0, .nameAndType 17 337), (0, u "()B"), (2, u "()[B"), (22, u "([BI)C"), (5, u "(C)Z"), (21, u "(II)V"), (35, u "(I)C"), (61, .methodref 10 490), (0, .nameAndType 5 491), (0, u "(Ljava/lang/AbstractStringBuilder;Ljava/lang/Void;)V"), (0, .methodref 10 493), (0, .nameAndType 494 142), (0, u "isLatin1"), (0, .methodref 107 496), (0, .nameAndType 497 363), (0, u "charAt"), (3, u "checkIndex"), (4, .nameAndType 507 334), (0, u "length"), (24, u "getBytes"), (16, .methodref 550 506), (0, .class_ 551), (0, u "java/lang/AbstractStringBuilder"), (0, .methodref 550 553), (0, .nameAndType 554 340), (0, u "getValue"), (20, .class_ 576), (0, u "java/lang/CharSequence"), (22, u "CASE_INSENSITIVE_ORDER"), (0, u "Ljava/util/Comparator;"), (181, u "valueOf"), (0, u "(C)Ljava/lang/String;"), (37, u "([BIB)V"), (188, u "([C)V"), (4, .methodref 107 1016), (0, .nameAndType 1017 369), (0, u "canEncode"), (0, .methodref 107 1019), (0, .nameAndType 53 1020), (0, u "(C)[B"), (26, .methodref 550 493), (5, .fieldref 1054 1055), (0, .class_ 1056), (0, .nameAndType 1057 1058), (0, u "jdk/internal/util/Preconditions"), (0, u "SIOOBE_FORMATTER"), (0, u "Ljava/util/function/BiFunction;"), (0, .methodref 1054 1060), (0, .nameAndType 501 1061), (0, u "(IILjava/util/function/BiFunction;)I"), (39, u "serialPersistentFields"), (0, u "[Ljava/io/ObjectStreamField;"), (0, .class_ 1104), (0, u "java/lang/String$CaseInsensitiveComparator"), (1, .class_ 1107), (0, u "java/io/Serializable"), (0, .class_ 1109), (0, u "java/lang/Comparable"), (0, .class_ 1111), (0, u "java/lang/constant/Constable"), (0, .class_ 1113), (0, u "java/lang/constant/ConstantDesc"), (2, u "serialVersionUID"), (0, u "J"), (3, u "REPL"), (0, u "C"), (2, u "LATIN1"), (1, u "UTF16"), (105, u "(Ljava/lang/StringBuilder;)V")] 217

def k7m0 : Method := { name := "<init>", desc := "()V", sig := { parameters := [], returnType := none }, accessFlags := 1, code := none }
def k7c1 : Code := { maxStack := 5, maxLocals := 2, code := jdk_42_method_3_code, exceptionTable := #[], attributes := #[] }
def k7m1 : Method := { name := "<init>", desc := "([C)V", sig := { parameters := [(.array .char)], returnType := none }, accessFlags := 1, code := some k7c1 }
def k7c2 : Code := { maxStack := 3, maxLocals := 2, code := jdk_42_method_53_code, exceptionTable := #[], attributes := #[] }
def k7m2 : Method := { name := "<init>", desc := "(Ljava/lang/StringBuilder;)V", sig := { parameters := [(.object "java/lang/StringBuilder")], returnType := none }, accessFlags := 1, code := some k7c2 }
def k7c3 : Code := { maxStack := 2, maxLocals := 1, code := jdk_42_method_54_code, exceptionTable := #[], attributes := #[] }
def k7m3 : Method := { name := "length", desc := "()I", sig := { parameters := [], returnType := some .int }, accessFlags := 1, code := some k7c3 }
def k7c4 : Code := { maxStack := 2, maxLocals := 2, code := jdk_42_method_56_code, exceptionTable := #[], attributes := #[] }
def k7m4 : Method := { name := "charAt", desc := "(I)C", sig := { parameters := [.int], returnType := some .char }, accessFlags := 1, code := some k7c4 }
def k7c5 : Code := { maxStack := 4, maxLocals := 1, code := jdk_42_method_139_code, exceptionTable := #[], attributes := #[] }
def k7m5 : Method := { name := "valueOf", desc := "(C)Ljava/lang/String;", sig := { parameters := [.char], returnType := some (.object "java/lang/String") }, accessFlags := 9, code := some k7c5 }
def k7c6 : Code := { maxStack := 5, maxLocals := 4, code := jdk_42_method_147_code, exceptionTable := #[], attributes := #[] }
def k7m6 : Method := { name := "getBytes", desc := "([BIB)V", sig := { parameters := [(.array .byte), .int, .byte], returnType := none }, accessFlags := 0, code := some k7c6 }
def k7c7 : Code := { maxStack := 4, maxLocals := 6, code := jdk_42_method_149_code, exceptionTable := #[], attributes := #[] }
def k7m7 : Method := { name := "<init>", desc := "([CIILjava/lang/Void;)V", sig := { parameters := [(.array .char), .int, .int, (.object "java/lang/Void")], returnType := none }, accessFlags := 2, code := some k7c7 }
def k7c8 : Code := { maxStack := 5, maxLocals := 5, code := jdk_42_method_150_code, exceptionTable := #[], attributes := #[] }
def k7m8 : Method := { name := "<init>", desc := "(Ljava/lang/AbstractStringBuilder;Ljava/lang/Void;)V", sig := { parameters := [(.object "java/lang/AbstractStringBuilder"), (.object "java/lang/Void")], returnType := none }, accessFlags := 0, code := some k7c8 }
def k7c9 : Code := { maxStack := 2, maxLocals := 3, code := jdk_42_method_151_code, exceptionTable := #[], attributes := #[] }
def k7m9 : Method := { name := "<init>", desc := "([BB)V", sig := { parameters := [(.array .byte), .byte], returnType := none }, accessFlags := 0, code := some k7c9 }
def k7c10 : Code := { maxStack := 1, maxLocals := 1, code := jdk_42_method_152_code, exceptionTable := #[], attributes := #[] }
def k7m10 : Method := { name := "coder", desc := "()B", sig := { parameters := [], returnType := some .byte }, accessFlags := 0, code := some k7c10 }
def k7c11 : Code := { maxStack := 1, maxLocals := 1, code := jdk_42_method_154_code, exceptionTable := #[], attributes := #[] }
def k7m11 : Method := { name := "isLatin1", desc := "()Z", sig := { parameters := [], returnType := some .boolean }, accessFlags := 0, code := some k7c11 }
def k7c12 : Code := { maxStack := 3, maxLocals := 2, code := jdk_42_method_155_code, exceptionTable := #[], attributes := #[] }
def k7m12 : Method := { name := "checkIndex", desc := "(II)V", sig := { parameters := [.int, .int], returnType := none }, accessFlags := 8, code := some k7c12 }
/-- java/lang/String -/
def k7 : Class := { plain "java/lang/String" (some 0) with
  accessFlags := 49
  interfaces := #[2, 3, 4, 5, 6]
  cf := some (fileOf pool7 10 #[.nestMembers #[1103]] #[{ accessFlags := 1, nameIndex := 5, descriptorIndex := 6, attributes := #[] }, { accessFlags := 1, nameIndex := 5, descriptorIndex := 1010, attributes := #[] }, { accessFlags := 1, nameIndex := 5, descriptorIndex := 1233, attributes := #[] }, { accessFlags := 1, nameIndex := 507, descriptorIndex := 334, attributes := #[] }, { accessFlags := 1, nameIndex := 497, descriptorIndex := 427, attributes := #[] }, { accessFlags := 9, nameIndex := 782, descriptorIndex := 783, attributes := #[] }, { accessFlags := 0, nameIndex := 532, descriptorIndex := 821, attributes := #[] }, { accessFlags := 2, nameIndex := 5, descriptorIndex := 29, attributes := #[] }, { accessFlags := 0, nameIndex := 5, descriptorIndex := 491, attributes := #[] }, { accessFlags := 0, nameIndex := 5, descriptorIndex := 211, attributes := #[] }, { accessFlags := 0, nameIndex := 17, descriptorIndex := 337, attributes := #[] }, { accessFlags := 0, nameIndex := 494, descriptorIndex := 142, attributes := #[] }, { accessFlags := 8, nameIndex := 501, descriptorIndex := 391, attributes := #[] }] 49 2 #[1106, 1108, 575, 1110, 1112] #[{ accessFlags := 18, nameIndex := 13, descriptorIndex := 14, attributes := #[] }, { accessFlags := 18, nameIndex := 17, descriptorIndex := 18, attributes := #[] }, { accessFlags := 2, nameIndex := 21, descriptorIndex := 22, attributes := #[] }, { accessFlags := 2, nameIndex := 25, descriptorIndex := 26, attributes := #[] }, { accessFlags := 26, nameIndex := 1116, descriptorIndex := 1117, attributes := #[] }, { accessFlags := 24, nameIndex := 40, descriptorIndex := 26, attributes := #[] }, { accessFlags := 26, nameIndex := 1101, descriptorIndex := 1102, attributes := #[] }, { accessFlags := 26, nameIndex := 1121, descriptorIndex := 1122, attributes := #[] }, { accessFlags := 25, nameIndex := 599, descriptorIndex := 600, attributes := #[] }, { accessFlags := 24, nameIndex := 1125, descriptorIndex := 18, attributes := #[] }, { accessFlags := 24, nameIndex := 1127, descriptorIndex := 18, attributes := #[] }])
  fields := #[{ name := "value", type := (.array .byte), accessFlags := 18, slot := 0, constantValue := 0 }, { name := "coder", type := .byte, accessFlags := 18, slot := 1, constantValue := 0 }, { name := "hash", type := .int, accessFlags := 2, slot := 2, constantValue := 0 }, { name := "hashIsZero", type := .boolean, accessFlags := 2, slot := 3, constantValue := 0 }, { name := "serialVersionUID", type := .long, accessFlags := 26, slot := 0, constantValue := 0 }, { name := "COMPACT_STRINGS", type := .boolean, accessFlags := 24, slot := 1, constantValue := 0 }, { name := "serialPersistentFields", type := (.array (.object "java/io/ObjectStreamField")), accessFlags := 26, slot := 2, constantValue := 0 }, { name := "REPL", type := .char, accessFlags := 26, slot := 3, constantValue := 0 }, { name := "CASE_INSENSITIVE_ORDER", type := (.object "java/util/Comparator"), accessFlags := 25, slot := 4, constantValue := 0 }, { name := "LATIN1", type := .byte, accessFlags := 24, slot := 5, constantValue := 0 }, { name := "UTF16", type := .byte, accessFlags := 24, slot := 6, constantValue := 0 }]
  methods := #[k7m0, k7m1, k7m2, k7m3, k7m4, k7m5, k7m6, k7m7, k7m8, k7m9, k7m10, k7m11, k7m12]
  instanceTypes := #[(.array .byte), .byte, .int, .boolean]
  staticTypes := #[.long, .boolean, (.array (.object "java/io/ObjectStreamField")), .char, (.object "java/util/Comparator"), .byte, .byte]
  resolved := Array.replicate 1451 none
  statics := some 0 }

def pool8 : Array CpInfo := pool [(6, .class_ 8), (1, u "java/lang/Object"), (0, u "<init>"), (0, u "()V"), (1, .class_ 14), (1, u "java/lang/StringUTF16"), (31, u "$assertionsDisabled"), (0, u "Z"), (13, u "HI_BYTE_SHIFT"), (0, u "I"), (2, u "LO_BYTE_SHIFT"), (49, .methodref 12 116), (0, .nameAndType 117 118), (0, u "compress"), (0, u "([CI[BII)I"), (3, u "([CII)[B"), (138, u "coderFromArrayLen"), (0, u "([BI)B"), (106, .class_ 371), (1, u "java/lang/StringUTF16$LinesSpliterator"), (58, u "MAX_LENGTH"), (196, .class_ 628), (0, u "java/lang/StringUTF16$CodePointsSpliterator"), (0, .class_ 630), (0, u "java/lang/StringUTF16$CharsSpliterator")] 4

def k8m0 : Method := { name := "<init>", desc := "()V", sig := { parameters := [], returnType := none }, accessFlags := 0, code := none }
def k8c1 : Code := { maxStack := 2, maxLocals := 2, code := jdk_52_method_15_code, exceptionTable := #[], attributes := #[] }
def k8m1 : Method := { name := "coderFromArrayLen", desc := "([BI)B", sig := { parameters := [(.array .byte), .int], returnType := some .byte }, accessFlags := 8, code := some k8c1 }
def k8c2 : Code := { maxStack := 5, maxLocals := 6, code := jdk_52_method_16_code, exceptionTable := #[], attributes := #[] }
def k8m2 : Method := { name := "compress", desc := "([CII)[B", sig := { parameters := [(.array .char), .int, .int], returnType := some (.array .byte) }, accessFlags := 9, code := some k8c2 }
def k8c3 : Code := { maxStack := 3, maxLocals := 7, code := jdk_52_method_21_code, exceptionTable := #[], attributes := #[] }
def k8m3 : Method := { name := "compress", desc := "([CI[BII)I", sig := { parameters := [(.array .char), .int, (.array .byte), .int, .int], returnType := some .int }, accessFlags := 9, code := some k8c3 }
/-- java/lang/StringUTF16 -/
def k8 : Class := { plain "java/lang/StringUTF16" (some 0) with
  accessFlags := 48
  interfaces := #[]
  cf := some (fileOf pool8 12 #[.nestMembers #[627, 629, 369]] #[{ accessFlags := 0, nameIndex := 9, descriptorIndex := 10, attributes := #[] }, { accessFlags := 8, nameIndex := 261, descriptorIndex := 262, attributes := #[] }, { accessFlags := 9, nameIndex := 117, descriptorIndex := 122, attributes := #[] }, { accessFlags := 9, nameIndex := 117, descriptorIndex := 118, attributes := #[] }] 48 6 #[] #[{ accessFlags := 26, nameIndex := 61, descriptorIndex := 62, attributes := #[] }, { accessFlags := 26, nameIndex := 65, descriptorIndex := 62, attributes := #[] }, { accessFlags := 24, nameIndex := 430, descriptorIndex := 62, attributes := #[] }, { accessFlags := 4120, nameIndex := 46, descriptorIndex := 47, attributes := #[] }])
  fields := #[{ name := "HI_BYTE_SHIFT", type := .int, accessFlags := 26, slot := 0, constantValue := 0 }, { name := "LO_BYTE_SHIFT", type := .int, accessFlags := 26, slot := 1, constantValue := 0 }, { name := "MAX_LENGTH", type := .int, accessFlags := 24, slot := 2, constantValue := 0 }, { name := "$assertionsDisabled", type := .boolean, accessFlags := 4120, slot := 3, constantValue := 0 }]
  methods := #[k8m0, k8m1, k8m2, k8m3]
  instanceTypes := #[]
  staticTypes := #[.int, .int, .int, .boolean]
  resolved := Array.replicate 635 none
  statics := none }

def pool9 : Array CpInfo := pool [(1, .methodref 2 3), (0, .class_ 4), (0, .nameAndType 5 6), (0, u "java/lang/Object"), (0, u "<init>"), (0, u "()V"), (0, .fieldref 8 9), (0, .class_ 10), (0, .nameAndType 11 12), (0, u "java/lang/Throwable"), (0, u "cause"), (0, u "Ljava/lang/Throwable;"), (0, .fieldref 8 14), (0, .nameAndType 15 16), (0, u "UNASSIGNED_STACK"), (0, u "[Ljava/lang/StackTraceElement;"), (0, .fieldref 8 18), (0, .nameAndType 19 16), (0, u "stackTrace"), (0, .fieldref 8 21), (0, .nameAndType 22 23), (0, u "SUPPRESSED_SENTINEL"), (0, u "Ljava/util/List;"), (0, .fieldref 8 25), (0, .nameAndType 26 23), (0, u "suppressedExceptions"), (0, .methodref 8 28), (0, .nameAndType 29 30), (0, u "fillInStackTrace"), (0, u "()Ljava/lang/Throwable;"), (0, .fieldref 8 32), (0, .nameAndType 33 34), (0, u "detailMessage"), (0, u "Ljava/lang/String;"), (3, u "()Ljava/lang/String;"), (2, u "getMessage"), (51, .class_ 94), (0, u "java/lang/Throwable$WrappedPrintStream"), (6, .class_ 103), (1, u "java/lang/Throwable$PrintStreamOrWriter"), (61, u "$assertionsDisabled"), (0, u "Z"), (26, .class_ 194), (0, u "java/lang/Throwable$WrappedPrintWriter"), (3, .fieldref 8 199), (0, .nameAndType 200 201), (0, u "backtrace"), (0, u "Ljava/lang/Object;"), (0, .methodref 8 203), (0, .nameAndType 29 204), (0, u "(I)Ljava/lang/Throwable;"), (6, u "depth"), (0, u "I"), (10, u "(Ljava/lang/String;)V"), (45, .class_ 271), (1, u "java/lang/Throwable$SentinelHolder"), (32, u "EMPTY_THROWABLE_ARRAY"), (0, u "[Ljava/lang/Throwable;"), (12, .class_ 319), (0, u "java/io/Serializable"), (0, u "serialVersionUID"), (0, u "J"), (5, u "NULL_CAUSE_MESSAGE"), (0, u "SELF_SUPPRESSION_MESSAGE"), (0, u "CAUSE_CAPTION"), (0, u "SUPPRESSED_CAPTION")] 73

def k9c0 : Code := { maxStack := 2, maxLocals := 1, code := jdk_78_method_1_code, exceptionTable := #[], attributes := #[] }
def k9m0 : Method := { name := "<init>", desc := "()V", sig := { parameters := [], returnType := none }, accessFlags := 1, code := some k9c0 }
def k9c1 : Code := { maxStack := 2, maxLocals := 2, code := jdk_78_method_2_code, exceptionTable := #[], attributes := #[] }
def k9m1 : Method := { name := "<init>", desc := "(Ljava/lang/String;)V", sig := { parameters := [(.object "java/lang/String")], returnType := none }, accessFlags := 1, code := some k9c1 }
def k9c2 : Code := { maxStack := 1, maxLocals := 1, code := jdk_78_method_6_code, exceptionTable := #[], attributes := #[] }
def k9m2 : Method := { name := "getMessage", desc := "()Ljava/lang/String;", sig := { parameters := [], returnType := some (.object "java/lang/String") }, accessFlags := 1, code := some k9c2 }
def k9c3 : Code := { maxStack := 2, maxLocals := 1, code := ⟨#[0x2a, 0xb4, 0x00, 0x11, 0xc7, 0x00, 0x0a, 0x2a, 0xb4, 0x00, 0xc6, 0xc6, 0x00, 0x10, 0x2a, 0x03, 0xb6, 0x00, 0xca, 0x57, 0x2a, 0xb2, 0x00, 0x0d, 0xb5, 0x00, 0x11, 0x2a, 0xb0]⟩, exceptionTable := #[], attributes := #[] }
def k9m3 : Method := { name := "fillInStackTrace", desc := "()Ljava/lang/Throwable;", sig := { parameters := [], returnType := some (.object "java/lang/Throwable") }, accessFlags := 33, code := some k9c3 }
def k9m4 : Method := { name := "fillInStackTrace", desc := "(I)Ljava/lang/Throwable;", sig := { parameters := [.int], returnType := some (.object "java/lang/Throwable") }, accessFlags := 258, code := none }
/-- java/lang/Throwable -/
def k9 : Class := { plain "java/lang/Throwable" (some 0) with
  accessFlags := 33
  interfaces := #[2]
  cf := some (fileOf pool9 8 #[.nestMembers #[193, 93, 101, 269]] #[{ accessFlags := 1, nameIndex := 5, descriptorIndex := 6, attributes := #[] }, { accessFlags := 1, nameIndex := 5, descriptorIndex := 223, attributes := #[] }, { accessFlags := 1, nameIndex := 41, descriptorIndex := 38, attributes := #[] }, { accessFlags := 33, nameIndex := 29, descriptorIndex := 30, attributes := #[] }, { accessFlags := 258, nameIndex := 29, descriptorIndex := 204, attributes := #[] }] 33 2 #[318] #[{ accessFlags := 26, nameIndex := 320, descriptorIndex := 321, attributes := #[] }, { accessFlags := 130, nameIndex := 200, descriptorIndex := 201, attributes := #[] }, { accessFlags := 2, nameIndex := 33, descriptorIndex := 34, attributes := #[] }, { accessFlags := 26, nameIndex := 15, descriptorIndex := 16, attributes := #[] }, { accessFlags := 2, nameIndex := 11, descriptorIndex := 12, attributes := #[] }, { accessFlags := 2, nameIndex := 19, descriptorIndex := 16, attributes := #[] }, { accessFlags := 130, nameIndex := 211, descriptorIndex := 212, attributes := #[] }, { accessFlags := 26, nameIndex := 22, descriptorIndex := 23, attributes := #[] }, { accessFlags := 2, nameIndex := 26, descriptorIndex := 23, attributes := #[] }, { accessFlags := 26, nameIndex := 327, descriptorIndex := 34, attributes := #[] }, { accessFlags := 26, nameIndex := 328, descriptorIndex := 34, attributes := #[] }, { accessFlags := 26, nameIndex := 329, descriptorIndex := 34, attributes := #[] }, { accessFlags := 26, nameIndex := 330, descriptorIndex := 34, attributes := #[] }, { accessFlags := 26, nameIndex := 304, descriptorIndex := 305, attributes := #[] }, { accessFlags := 4120, nameIndex := 165, descriptorIndex := 166, attributes := #[] }])
  fields := #[{ name := "serialVersionUID", type := .long, accessFlags := 26, slot := 0, constantValue := 0 }, { name := "backtrace", type := (.object "java/lang/Object"), accessFlags := 130, slot := 0, constantValue := 0 }, { name := "detailMessage", type := (.object "java/lang/String"), accessFlags := 2, slot := 1, constantValue := 0 }, { name := "UNASSIGNED_STACK", type := (.array (.object "java/lang/StackTraceElement")), accessFlags := 26, slot := 1, constantValue := 0 }, { name := "cause", type := (.object "java/lang/Throwable"), accessFlags := 2, slot := 2, constantValue := 0 }, { name := "stackTrace", type := (.array (.object "java/lang/StackTraceElement")), accessFlags := 2, slot := 3, constantValue := 0 }, { name := "depth", type := .int, accessFlags := 130, slot := 4, constantValue := 0 }, { name := "SUPPRESSED_SENTINEL", type := (.object "java/util/List"), accessFlags := 26, slot := 2, constantValue := 0 }, { name := "suppressedExceptions", type := (.object "java/util/List"), accessFlags := 2, slot := 5, constantValue := 0 }, { name := "NULL_CAUSE_MESSAGE", type := (.object "java/lang/String"), accessFlags := 26, slot := 3, constantValue := 0 }, { name := "SELF_SUPPRESSION_MESSAGE", type := (.object "java/lang/String"), accessFlags := 26, slot := 4, constantValue := 0 }, { name := "CAUSE_CAPTION", type := (.object "java/lang/String"), accessFlags := 26, slot := 5, constantValue := 0 }, { name := "SUPPRESSED_CAPTION", type := (.object "java/lang/String"), accessFlags := 26, slot := 6, constantValue := 0 }, { name := "EMPTY_THROWABLE_ARRAY", type := (.array (.object "java/lang/Throwable")), accessFlags := 26, slot := 7, constantValue := 0 }, { name := "$assertionsDisabled", type := .boolean, accessFlags := 4120, slot := 8, constantValue := 0 }]
  methods := #[k9m0, k9m1, k9m2, k9m3, k9m4]
  instanceTypes := #[(.object "java/lang/Object"), (.object "java/lang/String"), (.object "java/lang/Throwable"), (.array (.object "java/lang/StackTraceElement")), .int, (.object "java/util/List")]
  staticTypes := #[.long, (.array (.object "java/lang/StackTraceElement")), (.object "java/util/List"), (.object "java/lang/String"), (.object "java/lang/String"), (.object "java/lang/String"), (.object "java/lang/String"), (.array (.object "java/lang/Throwable")), .boolean]
  resolved := Array.replicate 404 none
  statics := some 1 }

def pool10 : Array CpInfo := pool [(2, .class_ 4), (1, u "java/lang/Throwable"), (0, u "<init>"), (0, u "()V"), (0, .methodref 2 8), (0, .nameAndType 5 9), (0, u "(Ljava/lang/String;)V"), (9, .class_ 20), (0, u "java/lang/Exception"), (0, u "serialVersionUID"), (0, u "J")] 17

def k10m0 : Method := { name := "<init>", desc := "()V", sig := { parameters := [], returnType := none }, accessFlags := 1, code := none }
def k10c1 : Code := { maxStack := 2, maxLocals := 2, code := jdk_59_method_2_code, exceptionTable := #[], attributes := #[] }
def k10m1 : Method := { name := "<init>", desc := "(Ljava/lang/String;)V", sig := { parameters := [(.object "java/lang/String")], returnType := none }, accessFlags := 1, code := some k10c1 }
/-- java/lang/Exception -/
def k10 : Class := { plain "java/lang/Exception" (some 9) with
  accessFlags := 33
  interfaces := #[]
  cf := some (fileOf pool10 19 #[] #[{ accessFlags := 1, nameIndex := 5, descriptorIndex := 6, attributes := #[] }, { accessFlags := 1, nameIndex := 5, descriptorIndex := 9, attributes := #[] }] 33 2 #[] #[{ accessFlags := 24, nameIndex := 21, descriptorIndex := 22, attributes := #[] }])
  fields := #[{ name := "serialVersionUID", type := .long, accessFlags := 24, slot := 0, constantValue := 0 }]
  methods := #[k10m0, k10m1]
  instanceTypes := #[(.object "java/lang/Object"), (.object "java/lang/String"), (.object "java/lang/Throwable"), (.array (.object "java/lang/StackTraceElement")), .int, (.object "java/util/List")]
  staticTypes := #[.long]
  resolved := Array.replicate 40 none
  statics := none }

def pool11 : Array CpInfo := pool [(1, .methodref 2 3), (0, .class_ 4), (0, .nameAndType 5 6), (0, u "java/lang/Exception"), (0, u "<init>"), (0, u "(Ljava/lang/String;)V"), (0, .class_ 8), (0, u "com/example/hearsay_rules/hearsayrules/InvalidJsonException"), (0, .class_ 10), (0, u "java/lang/StringBuilder"), (0, .methodref 9 12), (0, .nameAndType 5 13), (0, u "()V"), (0, .string 15), (0, u "line "), (0, .methodref 9 17), (0, .nameAndType 18 19), (0, u "append"), (0, u "(Ljava/lang/String;)Ljava/lang/StringBuilder;"), (0, .methodref 9 21), (0, .nameAndType 18 22), (0, u "(I)Ljava/lang/StringBuilder;"), (0, .string 24), (0, u ", column "), (0, .string 26), (0, u ": "), (0, .methodref 9 28), (0, .nameAndType 29 30), (0, u "toString"), (0, u "()Ljava/lang/String;"), (0, .methodref 7 3), (0, u "serialVersionUID"), (0, u "J"), (5, u "at"), (0, u "(IILjava/lang/String;)Lcom/example/hearsay_rules/hearsayrules/InvalidJsonException;")] 2

def k11c0 : Code := { maxStack := 2, maxLocals := 2, code := prog_16_method_1_code, exceptionTable := #[], attributes := #[] }
def k11m0 : Method := { name := "<init>", desc := "(Ljava/lang/String;)V", sig := { parameters := [(.object "java/lang/String")], returnType := none }, accessFlags := 0, code := some k11c0 }
def k11c1 : Code := { maxStack := 4, maxLocals := 3, code := prog_16_method_2_code, exceptionTable := #[], attributes := #[] }
def k11m1 : Method := { name := "at", desc := "(IILjava/lang/String;)Lcom/example/hearsay_rules/hearsayrules/InvalidJsonException;", sig := { parameters := [.int, .int, (.object "java/lang/String")], returnType := some (.object "com/example/hearsay_rules/hearsayrules/InvalidJsonException") }, accessFlags := 8, code := some k11c1 }
/-- com/example/hearsay_rules/hearsayrules/InvalidJsonException -/
def k11 : Class := { plain "com/example/hearsay_rules/hearsayrules/InvalidJsonException" (some 10) with
  accessFlags := 49
  interfaces := #[]
  cf := some (fileOf pool11 7 #[] #[{ accessFlags := 0, nameIndex := 5, descriptorIndex := 6, attributes := #[] }, { accessFlags := 8, nameIndex := 39, descriptorIndex := 40, attributes := #[] }] 49 2 #[] #[{ accessFlags := 26, nameIndex := 32, descriptorIndex := 33, attributes := #[] }])
  fields := #[{ name := "serialVersionUID", type := .long, accessFlags := 26, slot := 0, constantValue := 0 }]
  methods := #[k11m0, k11m1]
  instanceTypes := #[(.object "java/lang/Object"), (.object "java/lang/String"), (.object "java/lang/Throwable"), (.array (.object "java/lang/StackTraceElement")), .int, (.object "java/util/List")]
  staticTypes := #[.long]
  resolved := Array.replicate 43 none
  statics := none }

def pool12 : Array CpInfo := pool [(1, .class_ 2), (0, u "java/lang/Appendable"), (0, .class_ 4), (0, u "java/lang/Object")] 9

/-- java/lang/Appendable -/
def k12 : Class := { plain "java/lang/Appendable" (some 0) with
  accessFlags := 1537
  interfaces := #[]
  cf := some (fileOf pool12 1 #[] #[] 1537 3 #[] #[])
  fields := #[]
  methods := #[]
  instanceTypes := #[]
  staticTypes := #[]
  resolved := Array.replicate 14 none
  statics := none }

def pool13 : Array CpInfo := pool [(1, .class_ 2), (0, u "java/lang/String"), (0, .methodref 4 5), (0, .class_ 6), (0, .nameAndType 7 8), (0, u "java/lang/Object"), (0, u "<init>"), (0, u "()V"), (1, .class_ 12), (1, u "java/lang/AbstractStringBuilder"), (0, u "EMPTYVALUE"), (0, u "[B"), (0, .fieldref 10 16), (0, .nameAndType 17 14), (0, u "value"), (0, .fieldref 1 19), (0, .nameAndType 20 21), (0, u "COMPACT_STRINGS"), (0, u "Z"), (0, .fieldref 10 23), (0, .nameAndType 24 25), (0, u "coder"), (0, u "B"), (6, .methodref 1 33), (0, .nameAndType 34 35), (0, u "length"), (0, u "()I"), (0, .class_ 37), (0, u "java/lang/Integer"), (1, .integer 2147483647), (0, .methodref 1 41), (0, .nameAndType 24 42), (0, u "()B"), (2, u "append"), (0, u "(Ljava/lang/String;)Ljava/lang/AbstractStringBuilder;"), (1, .class_ 49), (0, u "java/lang/CharSequence"), (19, u "(Ljava/lang/String;)V"), (5, u "maybeLatin1"), (3, .fieldref 10 80), (0, .nameAndType 81 82), (0, u "count"), (0, u "I"), (0, .methodref 10 84), (0, .nameAndType 85 86), (0, u "isLatin1"), (0, u "()Z"), (13, .methodref 10 101), (0, .nameAndType 102 103), (0, u "ensureCapacityInternal"), (0, u "(I)V"), (0, .methodref 10 105), (0, .nameAndType 106 107), (0, u "newCapacity"), (0, u "(I)I"), (0, .methodref 109 110), (0, .class_ 111), (0, .nameAndType 112 113), (0, u "java/util/Arrays"), (0, u "copyOf"), (0, u "([BI)[B"), (0, .methodref 115 116), (0, .class_ 117), (0, .nameAndType 118 119), (0, u "jdk/internal/util/ArraysSupport"), (0, u "newLength"), (0, u "(III)I"), (68, u "getChars"), (19, .methodref 10 209), (0, .nameAndType 210 211), (0, u "putStringAt"), (0, u "(ILjava/lang/String;)V"), (5, u "inflateIfNeededFor"), (2, .nameAndType 221 222), (0, u "getBytes"), (0, u "([BIB)V"), (22, .methodref 36 246), (0, .nameAndType 247 107), (0, u "stringSize"), (0, .methodref 36 249), (0, .nameAndType 188 250), (0, u "(II[B)I"), (146, .methodref 10 398), (0, .nameAndType 217 69), (0, .methodref 1 220), (3, u "()[B"), (40, .class_ 445), (0, u "java/lang/Appendable"), (65, u "(I)Ljava/lang/AbstractStringBuilder;"), (40, u "getValue")] 56

def k13m0 : Method := { name := "<init>", desc := "()V", sig := { parameters := [], returnType := none }, accessFlags := 0, code := none }
def k13c1 : Code := { maxStack := 2, maxLocals := 2, code := jdk_68_method_2_code, exceptionTable := #[], attributes := #[] }
def k13m1 : Method := { name := "<init>", desc := "(I)V", sig := { parameters := [.int], returnType := none }, accessFlags := 0, code := some k13c1 }
def k13c2 : Code := { maxStack := 1, maxLocals := 1, code := jdk_68_method_6_code, exceptionTable := #[], attributes := #[] }
def k13m2 : Method := { name := "length", desc := "()I", sig := { parameters := [], returnType := some .int }, accessFlags := 1, code := some k13c2 }
def k13c3 : Code := { maxStack := 4, maxLocals := 3, code := jdk_68_method_9_code, exceptionTable := #[], attributes := #[] }
def k13m3 : Method := { name := "ensureCapacityInternal", desc := "(I)V", sig := { parameters := [.int], returnType := none }, accessFlags := 2, code := some k13c3 }
def k13c4 : Code := { maxStack := 5, maxLocals := 6, code := jdk_68_method_10_code, exceptionTable := #[], attributes := #[] }
def k13m4 : Method := { name := "newCapacity", desc := "(I)I", sig := { parameters := [.int], returnType := some .int }, accessFlags := 2, code := some k13c4 }
def k13c5 : Code := { maxStack := 3, maxLocals := 3, code := jdk_68_method_22_code, exceptionTable := #[], attributes := #[] }
def k13m5 : Method := { name := "append", desc := "(Ljava/lang/String;)Ljava/lang/AbstractStringBuilder;", sig := { parameters := [(.object "java/lang/String")], returnType := some (.object "java/lang/AbstractStringBuilder") }, accessFlags := 1, code := some k13c5 }
def k13c6 : Code := { maxStack := 4, maxLocals := 4, code := jdk_68_method_32_code, exceptionTable := #[], attributes := #[] }
def k13m6 : Method := { name := "append", desc := "(I)Ljava/lang/AbstractStringBuilder;", sig := { parameters := [.int], returnType := some (.object "java/lang/AbstractStringBuilder") }, accessFlags := 1, code := some k13c6 }
def k13c7 : Code := { maxStack := 1, maxLocals := 1, code := jdk_68_method_64_code, exceptionTable := #[], attributes := #[] }
def k13m7 : Method := { name := "getValue", desc := "()[B", sig := { parameters := [], returnType := some (.array .byte) }, accessFlags := 16, code := some k13c7 }
def k13c8 : Code := { maxStack := 1, maxLocals := 1, code := jdk_68_method_68_code, exceptionTable := #[], attributes := #[] }
def k13m8 : Method := { name := "isLatin1", desc := "()Z", sig := { parameters := [], returnType := some .boolean }, accessFlags := 16, code := some k13c8 }
def k13c9 : Code := { maxStack := 2, maxLocals := 2, code := jdk_68_method_71_code, exceptionTable := #[], attributes := #[] }
def k13m9 : Method := { name := "inflateIfNeededFor", desc := "(Ljava/lang/String;)V", sig := { parameters := [(.object "java/lang/String")], returnType := none }, accessFlags := 2, code := some k13c9 }
def k13c10 : Code := { maxStack := 4, maxLocals := 3, code := jdk_68_method_73_code, exceptionTable := #[], attributes := #[] }
def k13m10 : Method := { name := "putStringAt", desc := "(ILjava/lang/String;)V", sig := { parameters := [.int, (.object "java/lang/String")], returnType := none }, accessFlags := 2, code := some k13c10 }
/-- java/lang/AbstractStringBuilder -/
def k13 : Class := { plain "java/lang/AbstractStringBuilder" (some 0) with
  accessFlags := 1056
  interfaces := #[12, 4]
  cf := some (fileOf pool13 10 #[] #[{ accessFlags := 0, nameIndex := 7, descriptorIndex := 8, attributes := #[] }, { accessFlags := 0, nameIndex := 7, descriptorIndex := 103, attributes := #[] }, { accessFlags := 1, nameIndex := 34, descriptorIndex := 35, attributes := #[] }, { accessFlags := 2, nameIndex := 102, descriptorIndex := 103, attributes := #[] }, { accessFlags := 2, nameIndex := 106, descriptorIndex := 107, attributes := #[] }, { accessFlags := 1, nameIndex := 45, descriptorIndex := 46, attributes := #[] }, { accessFlags := 1, nameIndex := 45, descriptorIndex := 511, attributes := #[] }, { accessFlags := 16, nameIndex := 552, descriptorIndex := 403, attributes := #[] }, { accessFlags := 16, nameIndex := 85, descriptorIndex := 86, attributes := #[] }, { accessFlags := 2, nameIndex := 217, descriptorIndex := 69, attributes := #[] }, { accessFlags := 2, nameIndex := 210, descriptorIndex := 211, attributes := #[] }] 1056 4 #[444, 48] #[{ accessFlags := 0, nameIndex := 17, descriptorIndex := 14, attributes := #[] }, { accessFlags := 0, nameIndex := 24, descriptorIndex := 25, attributes := #[] }, { accessFlags := 0, nameIndex := 75, descriptorIndex := 21, attributes := #[] }, { accessFlags := 0, nameIndex := 81, descriptorIndex := 82, attributes := #[] }, { accessFlags := 26, nameIndex := 13, descriptorIndex := 14, attributes := #[] }])
  fields := #[{ name := "value", type := (.array .byte), accessFlags := 0, slot := 0, constantValue := 0 }, { name := "coder", type := .byte, accessFlags := 0, slot := 1, constantValue := 0 }, { name := "maybeLatin1", type := .boolean, accessFlags := 0, slot := 2, constantValue := 0 }, { name := "count", type := .int, accessFlags := 0, slot := 3, constantValue := 0 }, { name := "EMPTYVALUE", type := (.array .byte), accessFlags := 26, slot := 0, constantValue := 0 }]
  methods := #[k13m0, k13m1, k13m2, k13m3, k13m4, k13m5, k13m6, k13m7, k13m8, k13m9, k13m10]
  instanceTypes := #[(.array .byte), .byte, .boolean, .int]
  staticTypes := #[(.array .byte)]
  resolved := Array.replicate 609 none
  statics := none }

def pool14 : Array CpInfo := pool [(1, .methodref 2 3), (0, .class_ 4), (0, .nameAndType 5 6), (0, u "java/lang/AbstractStringBuilder"), (0, u "<init>"), (0, u "(I)V"), (11, .class_ 20), (1, u "java/lang/String"), (3, .class_ 26), (1, u "java/lang/StringBuilder"), (0, u "append"), (0, u "(Ljava/lang/String;)Ljava/lang/StringBuilder;"), (0, .methodref 2 30), (0, .nameAndType 27 31), (0, u "(Ljava/lang/String;)Ljava/lang/AbstractStringBuilder;"), (21, .methodref 2 54), (0, .nameAndType 27 55), (0, u "(I)Ljava/lang/AbstractStringBuilder;"), (81, .methodref 18 138), (0, .nameAndType 5 139), (0, u "(Ljava/lang/StringBuilder;)V"), (5, u "()V"), (10, u "()I"), (111, u "(I)Ljava/lang/StringBuilder;"), (74, .methodref 2 344), (0, .nameAndType 345 156), (0, u "length"), (3, .class_ 350), (0, u "java/lang/Appendable"), (0, .class_ 352), (0, u "java/io/Serializable"), (0, .class_ 354), (0, u "java/lang/Comparable"), (0, .class_ 356), (0, u "java/lang/CharSequence"), (0, u "serialVersionUID"), (0, u "J"), (40, u "toString"), (0, u "()Ljava/lang/String;")] 21

def k14c0 : Code := { maxStack := 2, maxLocals := 1, code := jdk_67_method_1_code, exceptionTable := #[], attributes := #[] }
def k14m0 : Method := { name := "<init>", desc := "()V", sig := { parameters := [], returnType := none }, accessFlags := 1, code := some k14c0 }
def k14c1 : Code := { maxStack := 2, maxLocals := 2, code := jdk_67_method_7_code, exceptionTable := #[], attributes := #[] }
def k14m1 : Method := { name := "append", desc := "(Ljava/lang/String;)Ljava/lang/StringBuilder;", sig := { parameters := [(.object "java/lang/String")], returnType := some (.object "java/lang/StringBuilder") }, accessFlags := 1, code := some k14c1 }
def k14c2 : Code := { maxStack := 2, maxLocals := 2, code := jdk_67_method_15_code, exceptionTable := #[], attributes := #[] }
def k14m2 : Method := { name := "append", desc := "(I)Ljava/lang/StringBuilder;", sig := { parameters := [.int], returnType := some (.object "java/lang/StringBuilder") }, accessFlags := 1, code := some k14c2 }
def k14c3 : Code := { maxStack := 3, maxLocals := 1, code := jdk_67_method_42_code, exceptionTable := #[], attributes := #[] }
def k14m3 : Method := { name := "toString", desc := "()Ljava/lang/String;", sig := { parameters := [], returnType := some (.object "java/lang/String") }, accessFlags := 1, code := some k14c3 }
def k14c4 : Code := { maxStack := 1, maxLocals := 1, code := jdk_67_method_93_code, exceptionTable := #[], attributes := #[] }
def k14m4 : Method := { name := "length", desc := "()I", sig := { parameters := [], returnType := some .int }, accessFlags := 4161, code := some k14c4 }
/-- java/lang/StringBuilder -/
def k14 : Class := { plain "java/lang/StringBuilder" (some 13) with
  accessFlags := 49
  interfaces := #[12, 2, 3, 4]
  cf := some (fileOf pool14 24 #[] #[{ accessFlags := 1, nameIndex := 5, descriptorIndex := 145, attributes := #[] }, { accessFlags := 1, nameIndex := 27, descriptorIndex := 28, attributes := #[] }, { accessFlags := 1, nameIndex := 27, descriptorIndex := 268, attributes := #[] }, { accessFlags := 1, nameIndex := 399, descriptorIndex := 400, attributes := #[] }, { accessFlags := 4161, nameIndex := 345, descriptorIndex := 156, attributes := #[] }] 49 2 #[349, 351, 353, 355] #[{ accessFlags := 24, nameIndex := 357, descriptorIndex := 358, attributes := #[] }])
  fields := #[{ name := "serialVersionUID", type := .long, accessFlags := 24, slot := 0, constantValue := 0 }]
  methods := #[k14m0, k14m1, k14m2, k14m3, k14m4]
  instanceTypes := #[(.array .byte), .byte, .boolean, .int]
  staticTypes := #[.long]
  resolved := Array.replicate 422 none
  statics := none }

def pool15 : Array CpInfo := pool [(2, .class_ 4), (1, u "java/lang/Object"), (0, u "<init>"), (0, u "()V"), (1, .class_ 10), (1, u "java/lang/System"), (0, u "allowSecurityManager"), (0, u "I"), (16, u "cons"), (0, u "Ljava/io/Console;"), (77, .class_ 110), (1, u "java/lang/System$CallersHolder"), (43, u "initialErrStream"), (0, u "Ljava/io/PrintStream;"), (19, u "security"), (0, u "Ljava/lang/SecurityManager;"), (31, .class_ 209), (0, u "java/lang/System$1"), (7, u "props"), (0, u "Ljava/util/Properties;"), (2, u "lineSeparator"), (0, u "Ljava/lang/String;"), (96, .class_ 321), (1, u "java/lang/System$LoggerFinder"), (5, .class_ 328), (0, u "java/lang/System$Logger"), (67, u "err"), (2, u "out"), (91, u "notSupportedJnuEncoding"), (15, u "in"), (17, u "initialIn"), (0, u "Ljava/io/InputStream;"), (35, u "bootLayer"), (0, u "Ljava/lang/ModuleLayer;"), (99, .class_ 664), (0, u "java/lang/System$2"), (9, u "NEVER"), (2, u "MAYBE"), (49, u "arraycopy"), (0, u "(Ljava/lang/Object;ILjava/lang/Object;II)V"), (72, .class_ 802), (0, u "java/lang/System$Logger$Level")] 31

def k15m0 : Method := { name := "<init>", desc := "()V", sig := { parameters := [], returnType := none }, accessFlags := 2, code := none }
def k15m1 : Method := { name := "arraycopy", desc := "(Ljava/lang/Object;ILjava/lang/Object;II)V", sig := { parameters := [(.object "java/lang/Object"), .int, (.object "java/lang/Object"), .int, .int], returnType := none }, accessFlags := 265, code := none }
/-- java/lang/System -/
def k15 : Class := { plain "java/lang/System" (some 0) with
  accessFlags := 49
  interfaces := #[]
  cf := some (fileOf pool15 8 #[.nestMembers #[319, 327, 801, 108, 663, 208]] #[{ accessFlags := 2, nameIndex := 5, descriptorIndex := 6, attributes := #[] }, { accessFlags := 265, nameIndex := 727, descriptorIndex := 728, attributes := #[] }] 49 2 #[] #[{ accessFlags := 25, nameIndex := 507, descriptorIndex := 526, attributes := #[] }, { accessFlags := 25, nameIndex := 399, descriptorIndex := 155, attributes := #[] }, { accessFlags := 25, nameIndex := 396, descriptorIndex := 155, attributes := #[] }, { accessFlags := 10, nameIndex := 525, descriptorIndex := 526, attributes := #[] }, { accessFlags := 26, nameIndex := 674, descriptorIndex := 12, attributes := #[] }, { accessFlags := 26, nameIndex := 677, descriptorIndex := 12, attributes := #[] }, { accessFlags := 10, nameIndex := 11, descriptorIndex := 12, attributes := #[] }, { accessFlags := 74, nameIndex := 175, descriptorIndex := 176, attributes := #[] }, { accessFlags := 10, nameIndex := 491, descriptorIndex := 222, attributes := #[] }, { accessFlags := 74, nameIndex := 29, descriptorIndex := 30, attributes := #[] }, { accessFlags := 74, nameIndex := 154, descriptorIndex := 155, attributes := #[] }, { accessFlags := 10, nameIndex := 217, descriptorIndex := 218, attributes := #[] }, { accessFlags := 10, nameIndex := 221, descriptorIndex := 222, attributes := #[] }, { accessFlags := 8, nameIndex := 562, descriptorIndex := 563, attributes := #[] }])
  fields := #[{ name := "in", type := (.object "java/io/InputStream"), accessFlags := 25, slot := 0, constantValue := 0 }, { name := "out", type := (.object "java/io/PrintStream"), accessFlags := 25, slot := 1, constantValue := 0 }, { name := "err", type := (.object "java/io/PrintStream"), accessFlags := 25, slot := 2, constantValue := 0 }, { name := "initialIn", type := (.object "java/io/InputStream"), accessFlags := 10, slot := 3, constantValue := 0 }, { name := "NEVER", type := .int, accessFlags := 26, slot := 4, constantValue := 0 }, { name := "MAYBE", type := .int, accessFlags := 26, slot := 5, constantValue := 0 }, { name := "allowSecurityManager", type := .int, accessFlags := 10, slot := 6, constantValue := 0 }, { name := "security", type := (.object "java/lang/SecurityManager"), accessFlags := 74, slot := 7, constantValue := 0 }, { name := "notSupportedJnuEncoding", type := (.object "java/lang/String"), accessFlags := 10, slot := 8, constantValue := 0 }, { name := "cons", type := (.object "java/io/Console"), accessFlags := 74, slot := 9, constantValue := 0 }, { name := "initialErrStream", type := (.object "java/io/PrintStream"), accessFlags := 74, slot := 10, constantValue := 0 }, { name := "props", type := (.object "java/util/Properties"), accessFlags := 10, slot := 11, constantValue := 0 }, { name := "lineSeparator", type := (.object "java/lang/String"), accessFlags := 10, slot := 12, constantValue := 0 }, { name := "bootLayer", type := (.object "java/lang/ModuleLayer"), accessFlags := 8, slot := 13, constantValue := 0 }]
  methods := #[k15m0, k15m1]
  instanceTypes := #[]
  staticTypes := #[(.object "java/io/InputStream"), (.object "java/io/PrintStream"), (.object "java/io/PrintStream"), (.object "java/io/InputStream"), .int, .int, .int, (.object "java/lang/SecurityManager"), (.object "java/lang/String"), (.object "java/io/Console"), (.object "java/io/PrintStream"), (.object "java/util/Properties"), (.object "java/lang/String"), (.object "java/lang/ModuleLayer")]
  resolved := Array.replicate 834 none
  statics := none }

def pool16 : Array CpInfo := pool [(2, .class_ 4), (1, u "java/lang/Object"), (0, u "<init>"), (0, u "()V"), (1, .class_ 10), (1, u "java/lang/Number"), (2, .class_ 14), (0, u "java/io/Serializable"), (0, u "serialVersionUID"), (0, u "J")] 20

def k16m0 : Method := { name := "<init>", desc := "()V", sig := { parameters := [], returnType := none }, accessFlags := 1, code := none }
/-- java/lang/Number -/
def k16 : Class := { plain "java/lang/Number" (some 0) with
  accessFlags := 1057
  interfaces := #[2]
  cf := some (fileOf pool16 8 #[] #[{ accessFlags := 1, nameIndex := 5, descriptorIndex := 6, attributes := #[] }] 1057 2 #[13] #[{ accessFlags := 26, nameIndex := 15, descriptorIndex := 16, attributes := #[] }])
  fields := #[{ name := "serialVersionUID", type := .long, accessFlags := 26, slot := 0, constantValue := 0 }]
  methods := #[k16m0]
  instanceTypes := #[]
  staticTypes := #[.long]
  resolved := Array.replicate 37 none
  statics := none }

def pool17 : Array CpInfo := pool [(1, .class_ 2), (0, u "java/lang/Integer"), (16, u "digits"), (0, u "[C"), (33, u "(I)I"), (19, u "stringSize"), (2, u "getChars"), (0, u "(II[B)I"), (4, .fieldref 1 84), (0, .nameAndType 85 86), (0, u "DigitOnes"), (0, u "[B"), (0, .fieldref 1 88), (0, .nameAndType 89 86), (0, u "DigitTens"), (99, .class_ 190), (0, u "java/lang/Integer$IntegerCache"), (3, u "I"), (8, .class_ 204), (0, u "java/lang/Number"), (2, u "value"), (94, u "TYPE"), (0, u "Ljava/lang/Class;"), (0, .class_ 305), (0, u "java/lang/Comparable"), (0, .class_ 307), (0, u "java/lang/constant/Constable"), (0, .class_ 309), (0, u "java/lang/constant/ConstantDesc"), (0, u "MIN_VALUE"), (1, u "MAX_VALUE"), (3, u "SIZE"), (1, u "BYTES"), (1, u "serialVersionUID"), (0, u "J")] 131

def k17c0 : Code := { maxStack := 4, maxLocals := 7, code := jdk_33_method_12_code, exceptionTable := #[], attributes := #[] }
def k17m0 : Method := { name := "getChars", desc := "(II[B)I", sig := { parameters := [.int, .int, (.array .byte)], returnType := some .int }, accessFlags := 8, code := some k17c0 }
def k17c1 : Code := { maxStack := 2, maxLocals := 4, code := jdk_33_method_13_code, exceptionTable := #[], attributes := #[] }
def k17m1 : Method := { name := "stringSize", desc := "(I)I", sig := { parameters := [.int], returnType := some .int }, accessFlags := 8, code := some k17c1 }
/-- java/lang/Integer -/
def k17 : Class := { plain "java/lang/Integer" (some 16) with
  accessFlags := 49
  interfaces := #[3, 5, 6]
  cf := some (fileOf pool17 1 #[.nestMembers #[189]] #[{ accessFlags := 8, nameIndex := 77, descriptorIndex := 78, attributes := #[] }, { accessFlags := 8, nameIndex := 74, descriptorIndex := 54, attributes := #[] }] 49 203 #[304, 306, 308] #[{ accessFlags := 25, nameIndex := 310, descriptorIndex := 194, attributes := #[] }, { accessFlags := 25, nameIndex := 312, descriptorIndex := 194, attributes := #[] }, { accessFlags := 25, nameIndex := 302, descriptorIndex := 303, attributes := #[] }, { accessFlags := 24, nameIndex := 19, descriptorIndex := 20, attributes := #[] }, { accessFlags := 24, nameIndex := 89, descriptorIndex := 86, attributes := #[] }, { accessFlags := 24, nameIndex := 85, descriptorIndex := 86, attributes := #[] }, { accessFlags := 18, nameIndex := 207, descriptorIndex := 194, attributes := #[] }, { accessFlags := 25, nameIndex := 316, descriptorIndex := 194, attributes := #[] }, { accessFlags := 25, nameIndex := 318, descriptorIndex := 194, attributes := #[] }, { accessFlags := 26, nameIndex := 320, descriptorIndex := 321, attributes := #[] }])
  fields := #[{ name := "MIN_VALUE", type := .int, accessFlags := 25, slot := 0, constantValue := 0 }, { name := "MAX_VALUE", type := .int, accessFlags := 25, slot := 1, constantValue := 0 }, { name := "TYPE", type := (.object "java/lang/Class"), accessFlags := 25, slot := 2, constantValue := 0 }, { name := "digits", type := (.array .char), accessFlags := 24, slot := 3, constantValue := 0 }, { name := "DigitTens", type := (.array .byte), accessFlags := 24, slot := 4, constantValue := 0 }, { name := "DigitOnes", type := (.array .byte), accessFlags := 24, slot := 5, constantValue := 0 }, { name := "value", type := .int, accessFlags := 18, slot := 0, constantValue := 0 }, { name := "SIZE", type := .int, accessFlags := 25, slot := 6, constantValue := 0 }, { name := "BYTES", type := .int, accessFlags := 25, slot := 7, constantValue := 0 }, { name := "serialVersionUID", type := .long, accessFlags := 26, slot := 8, constantValue := 0 }]
  methods := #[k17m0, k17m1]
  instanceTypes := #[.int]
  staticTypes := #[.int, .int, (.object "java/lang/Class"), (.array .char), (.array .byte), (.array .byte), .int, .int, .long]
  resolved := Array.replicate 453 none
  statics := some 2 }

def pool18 : Array CpInfo := pool [(9, u "<init>"), (6, .class_ 18), (1, u "java/lang/Object"), (0, u "()V"), (1, .class_ 23), (1, u "jdk/internal/util/ArraysSupport"), (0, u "LOG2_ARRAY_LONG_INDEX_SCALE"), (0, u "I"), (2, u "U"), (0, u "Ljdk/internal/misc/Unsafe;"), (8, u "BIG_ENDIAN"), (0, u "Z"), (8, u "LOG2_BYTE_BIT_SIZE"), (4, u "LOG2_ARRAY_INT_INDEX_SCALE"), (54, u "JLA"), (0, u "Ljdk/internal/access/JavaLangAccess;"), (11, u "LOG2_ARRAY_BOOLEAN_INDEX_SCALE"), (9, u "LOG2_ARRAY_BYTE_INDEX_SCALE"), (5, u "LOG2_ARRAY_CHAR_INDEX_SCALE"), (5, u "LOG2_ARRAY_SHORT_INDEX_SCALE"), (18, u "LOG2_ARRAY_FLOAT_INDEX_SCALE"), (24, u "LOG2_ARRAY_DOUBLE_INDEX_SCALE"), (6, .methodref 195 196), (0, .class_ 197), (0, .nameAndType 198 199), (0, u "java/lang/Math"), (0, u "max"), (0, u "(II)I"), (0, .integer 2147483639), (76, u "T_BOOLEAN"), (2, u "T_CHAR"), (1, u "T_FLOAT"), (1, u "T_DOUBLE"), (1, u "T_BYTE"), (1, u "T_SHORT"), (1, u "T_INT"), (1, u "T_LONG"), (1, u "SOFT_MAX_ARRAY_LENGTH"), (56, u "newLength"), (0, u "(III)I")] 25

def k18m0 : Method := { name := "<init>", desc := "()V", sig := { parameters := [], returnType := none }, accessFlags := 2, code := none }
def k18c1 : Code := { maxStack := 3, maxLocals := 4, code := jdk_48_method_27_code, exceptionTable := #[], attributes := #[] }
def k18m1 : Method := { name := "newLength", desc := "(III)I", sig := { parameters := [.int, .int, .int], returnType := some .int }, accessFlags := 9, code := some k18c1 }
/-- jdk/internal/util/ArraysSupport -/
def k18 : Class := { plain "jdk/internal/util/ArraysSupport" (some 0) with
  accessFlags := 33
  interfaces := #[]
  cf := some (fileOf pool18 21 #[] #[{ accessFlags := 2, nameIndex := 9, descriptorIndex := 19, attributes := #[] }, { accessFlags := 9, nameIndex := 351, descriptorIndex := 352, attributes := #[] }] 33 16 #[] #[{ accessFlags := 24, nameIndex := 28, descriptorIndex := 29, attributes := #[] }, { accessFlags := 26, nameIndex := 38, descriptorIndex := 39, attributes := #[] }, { accessFlags := 25, nameIndex := 121, descriptorIndex := 25, attributes := #[] }, { accessFlags := 25, nameIndex := 131, descriptorIndex := 25, attributes := #[] }, { accessFlags := 25, nameIndex := 137, descriptorIndex := 25, attributes := #[] }, { accessFlags := 25, nameIndex := 143, descriptorIndex := 25, attributes := #[] }, { accessFlags := 25, nameIndex := 53, descriptorIndex := 25, attributes := #[] }, { accessFlags := 25, nameIndex := 24, descriptorIndex := 25, attributes := #[] }, { accessFlags := 25, nameIndex := 162, descriptorIndex := 25, attributes := #[] }, { accessFlags := 25, nameIndex := 187, descriptorIndex := 25, attributes := #[] }, { accessFlags := 26, nameIndex := 48, descriptorIndex := 25, attributes := #[] }, { accessFlags := 25, nameIndex := 277, descriptorIndex := 25, attributes := #[] }, { accessFlags := 25, nameIndex := 280, descriptorIndex := 25, attributes := #[] }, { accessFlags := 25, nameIndex := 282, descriptorIndex := 25, attributes := #[] }, { accessFlags := 25, nameIndex := 284, descriptorIndex := 25, attributes := #[] }, { accessFlags := 25, nameIndex := 286, descriptorIndex := 25, attributes := #[] }, { accessFlags := 25, nameIndex := 288, descriptorIndex := 25, attributes := #[] }, { accessFlags := 25, nameIndex := 290, descriptorIndex := 25, attributes := #[] }, { accessFlags := 25, nameIndex := 292, descriptorIndex := 25, attributes := #[] }, { accessFlags := 26, nameIndex := 108, descriptorIndex := 109, attributes := #[] }, { accessFlags := 25, nameIndex := 294, descriptorIndex := 25, attributes := #[] }])
  fields := #[{ name := "U", type := (.object "jdk/internal/misc/Unsafe"), accessFlags := 24, slot := 0, constantValue := 0 }, { name := "BIG_ENDIAN", type := .boolean, accessFlags := 26, slot := 1, constantValue := 0 }, { name := "LOG2_ARRAY_BOOLEAN_INDEX_SCALE", type := .int, accessFlags := 25, slot := 2, constantValue := 0 }, { name := "LOG2_ARRAY_BYTE_INDEX_SCALE", type := .int, accessFlags := 25, slot := 3, constantValue := 0 }, { name := "LOG2_ARRAY_CHAR_INDEX_SCALE", type := .int, accessFlags := 25, slot := 4, constantValue := 0 }, { name := "LOG2_ARRAY_SHORT_INDEX_SCALE", type := .int, accessFlags := 25, slot := 5, constantValue := 0 }, { name := "LOG2_ARRAY_INT_INDEX_SCALE", type := .int, accessFlags := 25, slot := 6, constantValue := 0 }, { name := "LOG2_ARRAY_LONG_INDEX_SCALE", type := .int, accessFlags := 25, slot := 7, constantValue := 0 }, { name := "LOG2_ARRAY_FLOAT_INDEX_SCALE", type := .int, accessFlags := 25, slot := 8, constantValue := 0 }, { name := "LOG2_ARRAY_DOUBLE_INDEX_SCALE", type := .int, accessFlags := 25, slot := 9, constantValue := 0 }, { name := "LOG2_BYTE_BIT_SIZE", type := .int, accessFlags := 26, slot := 10, constantValue := 0 }, { name := "T_BOOLEAN", type := .int, accessFlags := 25, slot := 11, constantValue := 0 }, { name := "T_CHAR", type := .int, accessFlags := 25, slot := 12, constantValue := 0 }, { name := "T_FLOAT", type := .int, accessFlags := 25, slot := 13, constantValue := 0 }, { name := "T_DOUBLE", type := .int, accessFlags := 25, slot := 14, constantValue := 0 }, { name := "T_BYTE", type := .int, accessFlags := 25, slot := 15, constantValue := 0 }, { name := "T_SHORT", type := .int, accessFlags := 25, slot := 16, constantValue := 0 }, { name := "T_INT", type := .int, accessFlags := 25, slot := 17, constantValue := 0 }, { name := "T_LONG", type := .int, accessFlags := 25, slot := 18, constantValue := 0 }, { name := "JLA", type := (.object "jdk/internal/access/JavaLangAccess"), accessFlags := 26, slot := 19, constantValue := 0 }, { name := "SOFT_MAX_ARRAY_LENGTH", type := .int, accessFlags := 25, slot := 20, constantValue := 0 }]
  methods := #[k18m0, k18m1]
  instanceTypes := #[]
  staticTypes := #[(.object "jdk/internal/misc/Unsafe"), .boolean, .int, .int, .int, .int, .int, .int, .int, .int, .int, .int, .int, .int, .int, .int, .int, .int, .int, (.object "jdk/internal/access/JavaLangAccess"), .int]
  resolved := Array.replicate 378 none
  statics := none }

def pool19 : Array CpInfo := pool [(1, .class_ 2), (0, u "java/lang/Math"), (1, .class_ 6), (1, u "java/lang/Object"), (0, u "<init>"), (0, u "()V"), (89, .class_ 100), (1, u "java/lang/Math$RandomNumberGeneratorHolder"), (71, u "negativeZeroFloatBits"), (0, u "J"), (2, u "negativeZeroDoubleBits"), (21, u "max"), (2, u "min"), (43, u "$assertionsDisabled"), (0, u "Z"), (88, u "(II)I"), (2, u "twoToTheDoubleScaleDown"), (0, u "D"), (4, u "twoToTheDoubleScaleUp"), (9, u "E"), (3, u "PI"), (2, u "TAU"), (2, u "DEGREES_TO_RADIANS"), (0, u "RADIANS_TO_DEGREES")] 94

def k19m0 : Method := { name := "<init>", desc := "()V", sig := { parameters := [], returnType := none }, accessFlags := 2, code := none }
def k19c1 : Code := { maxStack := 2, maxLocals := 2, code := jdk_29_method_65_code, exceptionTable := #[], attributes := #[] }
def k19m1 : Method := { name := "max", desc := "(II)I", sig := { parameters := [.int, .int], returnType := some .int }, accessFlags := 9, code := some k19c1 }
def k19c2 : Code := { maxStack := 2, maxLocals := 2, code := jdk_29_method_69_code, exceptionTable := #[], attributes := #[] }
def k19m2 : Method := { name := "min", desc := "(II)I", sig := { parameters := [.int, .int], returnType := some .int }, accessFlags := 9, code := some k19c2 }
/-- java/lang/Math -/
def k19 : Class := { plain "java/lang/Math" (some 0) with
  accessFlags := 49
  interfaces := #[]
  cf := some (fileOf pool19 1 #[.nestMembers #[98]] #[{ accessFlags := 2, nameIndex := 7, descriptorIndex := 8, attributes := #[] }, { accessFlags := 9, nameIndex := 198, descriptorIndex := 335, attributes := #[] }, { accessFlags := 9, nameIndex := 201, descriptorIndex := 335, attributes := #[] }] 49 4 #[] #[{ accessFlags := 25, nameIndex := 354, descriptorIndex := 339, attributes := #[] }, { accessFlags := 25, nameIndex := 358, descriptorIndex := 339, attributes := #[] }, { accessFlags := 25, nameIndex := 361, descriptorIndex := 339, attributes := #[] }, { accessFlags := 26, nameIndex := 364, descriptorIndex := 339, attributes := #[] }, { accessFlags := 26, nameIndex := 365, descriptorIndex := 339, attributes := #[] }, { accessFlags := 26, nameIndex := 172, descriptorIndex := 173, attributes := #[] }, { accessFlags := 26, nameIndex := 176, descriptorIndex := 173, attributes := #[] }, { accessFlags := 8, nameIndex := 344, descriptorIndex := 339, attributes := #[] }, { accessFlags := 8, nameIndex := 338, descriptorIndex := 339, attributes := #[] }, { accessFlags := 4120, nameIndex := 245, descriptorIndex := 246, attributes := #[] }])
  fields := #[{ name := "E", type := .double, accessFlags := 25, slot := 0, constantValue := 0 }, { name := "PI", type := .double, accessFlags := 25, slot := 1, constantValue := 0 }, { name := "TAU", type := .double, accessFlags := 25, slot := 2, constantValue := 0 }, { name := "DEGREES_TO_RADIANS", type := .double, accessFlags := 26, slot := 3, constantValue := 0 }, { name := "RADIANS_TO_DEGREES", type := .double, accessFlags := 26, slot := 4, constantValue := 0 }, { name := "negativeZeroFloatBits", type := .long, accessFlags := 26, slot := 5, constantValue := 0 }, { name := "negativeZeroDoubleBits", type := .long, accessFlags := 26, slot := 6, constantValue := 0 }, { name := "twoToTheDoubleScaleUp", type := .double, accessFlags := 8, slot := 7, constantValue := 0 }, { name := "twoToTheDoubleScaleDown", type := .double, accessFlags := 8, slot := 8, constantValue := 0 }, { name := "$assertionsDisabled", type := .boolean, accessFlags := 4120, slot := 9, constantValue := 0 }]
  methods := #[k19m0, k19m1, k19m2]
  instanceTypes := #[]
  staticTypes := #[.double, .double, .double, .double, .double, .long, .long, .double, .double, .boolean]
  resolved := Array.replicate 460 none
  statics := none }

def pool20 : Array CpInfo := pool [(2, .class_ 4), (1, u "java/lang/Object"), (0, u "<init>"), (0, u "()V"), (7, .class_ 16), (1, u "java/util/Arrays"), (57, .class_ 76), (1, u "java/util/Arrays$NaturalOrder"), (32, u "()Ljava/lang/Object;"), (3, .class_ 115), (1, u "java/util/Arrays$LegacyMergeSort"), (1, u "Z"), (10, .nameAndType 129 109), (0, u "clone"), (9, u "copyOfRange"), (10, .methodref 151 152), (0, .class_ 153), (0, .nameAndType 154 155), (0, u "java/lang/System"), (0, u "arraycopy"), (0, u "(Ljava/lang/Object;ILjava/lang/Object;II)V"), (146, u "copyOf"), (1, .methodref 305 306), (0, .class_ 307), (0, .nameAndType 308 309), (0, u "java/lang/Math"), (0, u "min"), (0, u "(II)I"), (0, .methodref 311 128), (0, .class_ 312), (0, u "[B"), (26, .methodref 14 340), (0, .nameAndType 341 342), (0, u "copyOfRangeByte"), (0, u "([BII)[B"), (0, .methodref 14 344), (0, .nameAndType 345 346), (0, u "checkLength"), (0, u "(II)V"), (28, .class_ 376), (0, u "java/util/Arrays$ArrayList"), (68, u "$assertionsDisabled"), (269, u "MIN_ARRAY_SORT_GRAN"), (0, u "I"), (2, u "INSERTIONSORT_THRESHOLD"), (149, u "([BI)[B"), (105, .class_ 976), (0, u "java/util/Arrays$ArrayItr")] 52

def k20m0 : Method := { name := "<init>", desc := "()V", sig := { parameters := [], returnType := none }, accessFlags := 2, code := none }
def k20c1 : Code := { maxStack := 6, maxLocals := 3, code := jdk_65_method_121_code, exceptionTable := #[], attributes := #[] }
def k20m1 : Method := { name := "copyOf", desc := "([BI)[B", sig := { parameters := [(.array .byte), .int], returnType := some (.array .byte) }, accessFlags := 9, code := some k20c1 }
def k20c2 : Code := { maxStack := 4, maxLocals := 2, code := jdk_65_method_131_code, exceptionTable := #[], attributes := #[] }
def k20m2 : Method := { name := "checkLength", desc := "(II)V", sig := { parameters := [.int, .int], returnType := none }, accessFlags := 10, code := some k20c2 }
def k20c3 : Code := { maxStack := 3, maxLocals := 3, code := jdk_65_method_132_code, exceptionTable := #[], attributes := #[] }
def k20m3 : Method := { name := "copyOfRange", desc := "([BII)[B", sig := { parameters := [(.array .byte), .int, .int], returnType := some (.array .byte) }, accessFlags := 9, code := some k20c3 }
def k20c4 : Code := { maxStack := 6, maxLocals := 5, code := jdk_65_method_133_code, exceptionTable := #[], attributes := #[] }
def k20m4 : Method := { name := "copyOfRangeByte", desc := "([BII)[B", sig := { parameters := [(.array .byte), .int, .int], returnType := some (.array .byte) }, accessFlags := 10, code := some k20c4 }
/-- java/util/Arrays -/
def k20 : Class := { plain "java/util/Arrays" (some 0) with
  accessFlags := 49
  interfaces := #[]
  cf := some (fileOf pool20 14 #[.nestMembers #[975, 375, 113, 74]] #[{ accessFlags := 2, nameIndex := 5, descriptorIndex := 6, attributes := #[] }, { accessFlags := 9, nameIndex := 302, descriptorIndex := 869, attributes := #[] }, { accessFlags := 10, nameIndex := 345, descriptorIndex := 346, attributes := #[] }, { accessFlags := 9, nameIndex := 139, descriptorIndex := 342, attributes := #[] }, { accessFlags := 10, nameIndex := 341, descriptorIndex := 342, attributes := #[] }] 49 2 #[] #[{ accessFlags := 26, nameIndex := 715, descriptorIndex := 716, attributes := #[] }, { accessFlags := 26, nameIndex := 719, descriptorIndex := 716, attributes := #[] }, { accessFlags := 4120, nameIndex := 445, descriptorIndex := 117, attributes := #[] }])
  fields := #[{ name := "MIN_ARRAY_SORT_GRAN", type := .int, accessFlags := 26, slot := 0, constantValue := 0 }, { name := "INSERTIONSORT_THRESHOLD", type := .int, accessFlags := 26, slot := 1, constantValue := 0 }, { name := "$assertionsDisabled", type := .boolean, accessFlags := 4120, slot := 2, constantValue := 0 }]
  methods := #[k20m0, k20m1, k20m2, k20m3, k20m4]
  instanceTypes := #[]
  staticTypes := #[.int, .int, .boolean]
  resolved := Array.replicate 1029 none
  statics := none }

def pool21 : Array CpInfo := pool [(1, .class_ 2), (0, u "java/lang/String"), (1, .class_ 6), (1, u "java/lang/Object"), (0, u "<init>"), (0, u "()V"), (0, .methodref 1 10), (0, .nameAndType 11 12), (0, u "checkIndex"), (0, u "(II)V"), (1, .class_ 16), (1, u "java/lang/StringLatin1"), (36, u "([BI)C"), (36, u "canEncode"), (14, u "(C)Z"), (15, u "$assertionsDisabled"), (0, u "Z"), (98, .class_ 223), (1, u "java/lang/StringLatin1$LinesSpliterator"), (28, u "charAt"), (127, u "toBytes"), (1, u "(C)[B"), (7, .class_ 391), (0, u "java/lang/StringLatin1$CharsSpliterator")] 3

def k21m0 : Method := { name := "<init>", desc := "()V", sig := { parameters := [], returnType := none }, accessFlags := 0, code := none }
def k21c1 : Code := { maxStack := 2, maxLocals := 2, code := jdk_43_method_2_code, exceptionTable := #[], attributes := #[] }
def k21m1 : Method := { name := "charAt", desc := "([BI)C", sig := { parameters := [(.array .byte), .int], returnType := some .char }, accessFlags := 9, code := some k21c1 }
def k21c2 : Code := { maxStack := 2, maxLocals := 1, code := jdk_43_method_3_code, exceptionTable := #[], attributes := #[] }
def k21m2 : Method := { name := "canEncode", desc := "(C)Z", sig := { parameters := [.char], returnType := some .boolean }, accessFlags := 9, code := some k21c2 }
def k21c3 : Code := { maxStack := 4, maxLocals := 1, code := jdk_43_method_46_code, exceptionTable := #[], attributes := #[] }
def k21m3 : Method := { name := "toBytes", desc := "(C)[B", sig := { parameters := [.char], returnType := some (.array .byte) }, accessFlags := 9, code := some k21c3 }
/-- java/lang/StringLatin1 -/
def k21 : Class := { plain "java/lang/StringLatin1" (some 0) with
  accessFlags := 48
  interfaces := #[]
  cf := some (fileOf pool21 14 #[.nestMembers #[390, 221]] #[{ accessFlags := 0, nameIndex := 7, descriptorIndex := 8, attributes := #[] }, { accessFlags := 9, nameIndex := 252, descriptorIndex := 53, attributes := #[] }, { accessFlags := 9, nameIndex := 90, descriptorIndex := 105, attributes := #[] }, { accessFlags := 9, nameIndex := 380, descriptorIndex := 382, attributes := #[] }] 48 4 #[] #[{ accessFlags := 4120, nameIndex := 121, descriptorIndex := 122, attributes := #[] }])
  fields := #[{ name := "$assertionsDisabled", type := .boolean, accessFlags := 4120, slot := 0, constantValue := 0 }]
  methods := #[k21m0, k21m1, k21m2, k21m3]
  instanceTypes := #[]
  staticTypes := #[.boolean]
  resolved := Array.replicate 395 none
  statics := none }

def pool22 : Array CpInfo := pool [(2, .class_ 4), (1, u "java/lang/Object"), (0, u "<init>"), (0, u "()V"), (17, .class_ 26), (1, u "jdk/internal/util/Preconditions"), (6, u "checkIndex"), (21, .class_ 56), (0, u "jdk/internal/util/Preconditions$4"), (57, .class_ 115), (0, u "jdk/internal/util/Preconditions$1"), (7, u "SIOOBE_FORMATTER"), (0, u "Ljava/util/function/BiFunction;"), (0, .class_ 126), (0, u "jdk/internal/util/Preconditions$2"), (3, u "AIOOBE_FORMATTER"), (0, .class_ 132), (0, u "jdk/internal/util/Preconditions$3"), (3, u "IOOBE_FORMATTER"), (41, u "(IILjava/util/function/BiFunction;)I")] 15

def k22m0 : Method := { name := "<init>", desc := "()V", sig := { parameters := [], returnType := none }, accessFlags := 1, code := none }
def k22c1 : Code := { maxStack := 3, maxLocals := 3, code := jdk_41_method_11_code, exceptionTable := #[], attributes := #[] }
def k22m1 : Method := { name := "checkIndex", desc := "(IILjava/util/function/BiFunction;)I", sig := { parameters := [.int, .int, (.object "java/util/function/BiFunction")], returnType := some .int }, accessFlags := 9, code := some k22c1 }
/-- jdk/internal/util/Preconditions -/
def k22 : Class := { plain "jdk/internal/util/Preconditions" (some 0) with
  accessFlags := 33
  interfaces := #[]
  cf := some (fileOf pool22 24 #[.nestMembers #[55, 131, 125, 114]] #[{ accessFlags := 1, nameIndex := 5, descriptorIndex := 6, attributes := #[] }, { accessFlags := 9, nameIndex := 33, descriptorIndex := 178, attributes := #[] }] 33 2 #[] #[{ accessFlags := 25, nameIndex := 123, descriptorIndex := 124, attributes := #[] }, { accessFlags := 25, nameIndex := 130, descriptorIndex := 124, attributes := #[] }, { accessFlags := 25, nameIndex := 136, descriptorIndex := 124, attributes := #[] }])
  fields := #[{ name := "SIOOBE_FORMATTER", type := (.object "java/util/function/BiFunction"), accessFlags := 25, slot := 0, constantValue := 0 }, { name := "AIOOBE_FORMATTER", type := (.object "java/util/function/BiFunction"), accessFlags := 25, slot := 1, constantValue := 0 }, { name := "IOOBE_FORMATTER", type := (.object "java/util/function/BiFunction"), accessFlags := 25, slot := 2, constantValue := 0 }]
  methods := #[k22m0, k22m1]
  instanceTypes := #[]
  staticTypes := #[(.object "java/util/function/BiFunction"), (.object "java/util/function/BiFunction"), (.object "java/util/function/BiFunction")]
  resolved := Array.replicate 194 none
  statics := some 3 }

def pool23 : Array CpInfo := pool [(1, .class_ 2), (0, u "java/lang/Cloneable"), (0, .class_ 4), (0, u "java/lang/Object")] 2

/-- java/lang/Cloneable -/
def k23 : Class := { plain "java/lang/Cloneable" (some 0) with
  accessFlags := 1537
  interfaces := #[]
  cf := some (fileOf pool23 1 #[] #[] 1537 3 #[] #[])
  fields := #[]
  methods := #[]
  instanceTypes := #[]
  staticTypes := #[]
  resolved := Array.replicate 7 none
  statics := none }

def pool24 : Array CpInfo := pool [(2, .class_ 4), (1, u "java/lang/Object"), (0, u "<init>"), (0, u "()V"), (12, .class_ 20), (0, u "java/util/Collections"), (63, u "r"), (0, u "Ljava/util/Random;"), (80, .class_ 167), (0, u "java/util/Collections$UnmodifiableCollection"), (6, .class_ 175), (0, u "java/util/Collections$UnmodifiableSequencedCollection"), (6, .class_ 183), (0, u "java/util/Collections$UnmodifiableSet"), (6, .class_ 191), (0, u "java/util/Collections$UnmodifiableSequencedSet"), (6, .class_ 199), (0, u "java/util/Collections$UnmodifiableSortedSet"), (6, .class_ 207), (0, u "java/util/Collections$UnmodifiableNavigableSet"), (4, .class_ 213), (0, u "java/util/Collections$UnmodifiableList"), (1, .class_ 216), (0, u "java/util/Collections$UnmodifiableRandomAccessList"), (6, .class_ 224), (0, u "java/util/Collections$UnmodifiableMap"), (6, .class_ 232), (0, u "java/util/Collections$UnmodifiableSequencedMap"), (4, .class_ 238), (0, u "java/util/Collections$UnmodifiableSortedMap"), (6, .class_ 246), (0, u "java/util/Collections$UnmodifiableNavigableMap"), (3, .class_ 251), (0, u "java/util/Collections$SynchronizedCollection"), (4, .class_ 257), (0, u "java/util/Collections$SynchronizedSet"), (4, .class_ 263), (0, u "java/util/Collections$SynchronizedSortedSet"), (1, .class_ 266), (0, u "java/util/Collections$SynchronizedNavigableSet"), (1, .class_ 269), (0, u "java/util/Collections$SynchronizedRandomAccessList"), (1, .class_ 272), (0, u "java/util/Collections$SynchronizedList"), (5, .class_ 279), (0, u "java/util/Collections$SynchronizedMap"), (1, .class_ 282), (0, u "java/util/Collections$SynchronizedSortedMap"), (1, .class_ 285), (0, u "java/util/Collections$SynchronizedNavigableMap"), (1, .class_ 288), (0, u "java/util/Collections$CheckedCollection"), (11, .class_ 301), (0, u "java/util/Collections$CheckedQueue"), (3, .class_ 306), (0, u "java/util/Collections$CheckedSet"), (3, .class_ 311), (0, u "java/util/Collections$CheckedSortedSet"), (3, .class_ 316), (0, u "java/util/Collections$CheckedNavigableSet"), (3, .class_ 321), (0, u "java/util/Collections$CheckedRandomAccessList"), (3, .class_ 326), (0, u "java/util/Collections$CheckedList"), (1, .class_ 329), (0, u "java/util/Collections$CheckedMap"), (3, .class_ 334), (0, u "java/util/Collections$CheckedSortedMap"), (3, .class_ 339), (0, u "java/util/Collections$CheckedNavigableMap"), (4, .class_ 346), (1, u "java/util/Collections$EmptyIterator"), (3, .class_ 352), (1, u "java/util/Collections$EmptyListIterator"), (2, .class_ 357), (1, u "java/util/Collections$EmptyEnumeration"), (4, u "EMPTY_SET"), (0, u "Ljava/util/Set;"), (6, u "EMPTY_LIST"), (0, u "Ljava/util/List;"), (2, u "EMPTY_MAP"), (0, u "Ljava/util/Map;"), (4, .class_ 381), (0, u "java/util/Collections$SingletonSet"), (2, .class_ 385), (0, u "java/util/Collections$1"), (1, .class_ 388), (0, u "java/util/Collections$2"), (1, .class_ 391), (0, u "java/util/Collections$SingletonList"), (1, .class_ 394), (0, u "java/util/Collections$SingletonMap"), (22, .class_ 418), (0, u "java/util/Collections$CopiesList"), (4, .class_ 425), (1, u "java/util/Collections$ReverseComparator"), (8, .class_ 435), (0, u "java/util/Collections$ReverseComparator2"), (6, .class_ 443), (0, u "java/util/Collections$3"), (25, .class_ 470), (0, u "java/util/Collections$SetFromMap"), (2, .class_ 474), (0, u "java/util/Collections$SequencedSetFromMap"), (3, .class_ 479), (0, u "java/util/Collections$AsLIFOQueue"), (11, .class_ 492), (0, u "java/util/Collections$EmptySet"), (1, .class_ 495), (0, u "java/util/Collections$EmptyList"), (1, .class_ 498), (0, u "java/util/Collections$EmptyMap"), (1, u "BINARYSEARCH_THRESHOLD"), (0, u "I"), (2, u "REVERSE_THRESHOLD"), (1, u "SHUFFLE_THRESHOLD"), (1, u "FILL_THRESHOLD"), (1, u "ROTATE_THRESHOLD"), (1, u "COPY_THRESHOLD"), (1, u "REPLACEALL_THRESHOLD"), (1, u "INDEXOFSUBLIST_THRESHOLD"), (333, .class_ 851), (0, u "java/util/Collections$CheckedMap$CheckedEntrySet"), (0, .class_ 853), (0, u "java/util/Collections$CheckedMap$CheckedEntrySet$CheckedEntry"), (0, .class_ 855), (0, u "java/util/Collections$CheckedMap$CheckedEntrySet$1"), (0, .class_ 857), (0, u "java/util/Collections$CheckedList$1"), (0, .class_ 859), (0, u "java/util/Collections$CheckedCollection$1"), (0, .class_ 861), (0, u "java/util/Collections$UnmodifiableNavigableMap$EmptyNavigableMap"), (0, .class_ 863), (0, u "java/util/Collections$UnmodifiableMap$UnmodifiableEntrySet"), (0, .class_ 865), (0, u "java/util/Collections$UnmodifiableMap$UnmodifiableEntrySet$UnmodifiableEntry"), (0, .class_ 867), (0, u "java/util/Collections$UnmodifiableMap$UnmodifiableEntrySet$UnmodifiableEntrySetSpliterator"), (0, .class_ 869), (0, u "java/util/Collections$UnmodifiableMap$UnmodifiableEntrySet$1"), (0, .class_ 871), (0, u "java/util/Collections$UnmodifiableList$1"), (0, .class_ 873), (0, u "java/util/Collections$UnmodifiableNavigableSet$EmptyNavigableSet"), (0, .class_ 875), (0, u "java/util/Collections$UnmodifiableCollection$1")] 57

def k24m0 : Method := { name := "<init>", desc := "()V", sig := { parameters := [], returnType := none }, accessFlags := 2, code := none }
/-- java/util/Collections -/
def k24 : Class := { plain "java/util/Collections" (some 0) with
  accessFlags := 33
  interfaces := #[]
  cf := some (fileOf pool24 19 #[.nestMembers #[478, 473, 469, 434, 423, 417, 393, 390, 380, 497, 494, 491, 355, 350, 344, 338, 333, 328, 850, 852, 854, 320, 325, 856, 315, 310, 305, 300, 287, 858, 284, 281, 278, 268, 271, 265, 262, 256, 250, 245, 860, 237, 231, 223, 862, 864, 866, 868, 215, 212, 870, 206, 872, 198, 190, 182, 174, 166, 874, 442, 387, 384]] #[{ accessFlags := 2, nameIndex := 5, descriptorIndex := 6, attributes := #[] }] 33 2 #[] #[{ accessFlags := 26, nameIndex := 500, descriptorIndex := 501, attributes := #[] }, { accessFlags := 26, nameIndex := 504, descriptorIndex := 501, attributes := #[] }, { accessFlags := 26, nameIndex := 506, descriptorIndex := 501, attributes := #[] }, { accessFlags := 26, nameIndex := 508, descriptorIndex := 501, attributes := #[] }, { accessFlags := 26, nameIndex := 510, descriptorIndex := 501, attributes := #[] }, { accessFlags := 26, nameIndex := 512, descriptorIndex := 501, attributes := #[] }, { accessFlags := 26, nameIndex := 514, descriptorIndex := 501, attributes := #[] }, { accessFlags := 26, nameIndex := 516, descriptorIndex := 501, attributes := #[] }, { accessFlags := 10, nameIndex := 84, descriptorIndex := 85, attributes := #[] }, { accessFlags := 25, nameIndex := 362, descriptorIndex := 363, attributes := #[] }, { accessFlags := 25, nameIndex := 370, descriptorIndex := 371, attributes := #[] }, { accessFlags := 25, nameIndex := 374, descriptorIndex := 375, attributes := #[] }])
  fields := #[{ name := "BINARYSEARCH_THRESHOLD", type := .int, accessFlags := 26, slot := 0, constantValue := 0 }, { name := "REVERSE_THRESHOLD", type := .int, accessFlags := 26, slot := 1, constantValue := 0 }, { name := "SHUFFLE_THRESHOLD", type := .int, accessFlags := 26, slot := 2, constantValue := 0 }, { name := "FILL_THRESHOLD", type := .int, accessFlags := 26, slot := 3, constantValue := 0 }, { name := "ROTATE_THRESHOLD", type := .int, accessFlags := 26, slot := 4, constantValue := 0 }, { name := "COPY_THRESHOLD", type := .int, accessFlags := 26, slot := 5, constantValue := 0 }, { name := "REPLACEALL_THRESHOLD", type := .int, accessFlags := 26, slot := 6, constantValue := 0 }, { name := "INDEXOFSUBLIST_THRESHOLD", type := .int, accessFlags := 26, slot := 7, constantValue := 0 }, { name := "r", type := (.object "java/util/Random"), accessFlags := 10, slot := 8, constantValue := 0 }, { name := "EMPTY_SET", type := (.object "java/util/Set"), accessFlags := 25, slot := 9, constantValue := 0 }, { name := "EMPTY_LIST", type := (.object "java/util/List"), accessFlags := 25, slot := 10, constantValue := 0 }, { name := "EMPTY_MAP", type := (.object "java/util/Map"), accessFlags := 25, slot := 11, constantValue := 0 }]
  methods := #[k24m0]
  instanceTypes := #[]
  staticTypes := #[.int, .int, .int, .int, .int, .int, .int, .int, (.object "java/util/Random"), (.object "java/util/Set"), (.object "java/util/List"), (.object "java/util/Map")]
  resolved := Array.replicate 933 none
  statics := some 4 }

def pool25 : Array CpInfo := pool [(8, .class_ 10), (1, u "java/lang/Iterable"), (24, .class_ 36), (0, u "java/lang/Object")] 25

/-- java/lang/Iterable -/
def k25 : Class := { plain "java/lang/Iterable" (some 0) with
  accessFlags := 1537
  interfaces := #[]
  cf := some (fileOf pool25 8 #[] #[] 1537 35 #[] #[])
  fields := #[]
  methods := #[]
  instanceTypes := #[]
  staticTypes := #[]
  resolved := Array.replicate 62 none
  statics := none }

def pool26 : Array CpInfo := pool [(10, .class_ 12), (1, u "java/util/Collection"), (47, .class_ 61), (0, u "java/lang/Object"), (0, .class_ 63), (0, u "java/lang/Iterable")] 51

/-- java/util/Collection -/
def k26 : Class := { plain "java/util/Collection" (some 0) with
  accessFlags := 1537
  interfaces := #[25]
  cf := some (fileOf pool26 10 #[] #[] 1537 60 #[62] #[])
  fields := #[]
  methods := #[]
  instanceTypes := #[]
  staticTypes := #[]
  resolved := Array.replicate 115 none
  statics := none }

def pool27 : Array CpInfo := pool [(2, .class_ 4), (1, u "java/lang/Object"), (0, u "<init>"), (0, u "()V"), (1, .class_ 10), (1, u "java/util/AbstractCollection"), (66, .class_ 78), (0, u "java/util/Collection")] 81

def k27m0 : Method := { name := "<init>", desc := "()V", sig := { parameters := [], returnType := none }, accessFlags := 4, code := none }
/-- java/util/AbstractCollection -/
def k27 : Class := { plain "java/util/AbstractCollection" (some 0) with
  accessFlags := 1057
  interfaces := #[26]
  cf := some (fileOf pool27 8 #[] #[{ accessFlags := 4, nameIndex := 5, descriptorIndex := 6, attributes := #[] }] 1057 2 #[77] #[])
  fields := #[]
  methods := #[k27m0]
  instanceTypes := #[]
  staticTypes := #[]
  resolved := Array.replicate 160 none
  statics := none }

def pool28 : Array CpInfo := pool [(8, .class_ 10), (1, u "java/util/SequencedCollection"), (15, .class_ 27), (0, u "java/lang/Object"), (0, .class_ 29), (0, u "java/util/Collection")] 27

/-- java/util/SequencedCollection -/
def k28 : Class := { plain "java/util/SequencedCollection" (some 0) with
  accessFlags := 1537
  interfaces := #[26]
  cf := some (fileOf pool28 8 #[] #[] 1537 26 #[28] #[])
  fields := #[]
  methods := #[]
  instanceTypes := #[]
  staticTypes := #[]
  resolved := Array.replicate 57 none
  statics := none }

def pool29 : Array CpInfo := pool [(8, .class_ 10), (1, u "java/util/List"), (92, .class_ 104), (0, u "java/lang/Object"), (15, .class_ 121), (0, u "java/util/SequencedCollection")] 129

/-- java/util/List -/
def k29 : Class := { plain "java/util/List" (some 0) with
  accessFlags := 1537
  interfaces := #[28]
  cf := some (fileOf pool29 8 #[] #[] 1537 103 #[120] #[])
  fields := #[]
  methods := #[]
  instanceTypes := #[]
  staticTypes := #[]
  resolved := Array.replicate 251 none
  statics := none }

def pool30 : Array CpInfo := pool [(2, .class_ 4), (1, u "java/util/AbstractCollection"), (0, u "<init>"), (0, u "()V"), (1, .class_ 10), (1, u "java/util/AbstractList"), (0, u "modCount"), (0, u "I"), (64, .class_ 78), (0, u "java/util/AbstractList$Itr"), (3, .class_ 83), (0, u "java/util/AbstractList$ListItr"), (9, .class_ 94), (0, u "java/util/AbstractList$RandomAccessSubList"), (3, .class_ 99), (0, u "java/util/AbstractList$SubList"), (33, .class_ 134), (0, u "java/util/List"), (73, .class_ 209), (0, u "java/util/AbstractList$SubList$1"), (0, .class_ 211), (0, u "java/util/AbstractList$RandomAccessSpliterator")] 6

def k30m0 : Method := { name := "<init>", desc := "()V", sig := { parameters := [], returnType := none }, accessFlags := 4, code := none }
/-- java/util/AbstractList -/
def k30 : Class := { plain "java/util/AbstractList" (some 27) with
  accessFlags := 1057
  interfaces := #[29]
  cf := some (fileOf pool30 8 #[.nestMembers #[93, 98, 208, 210, 82, 77]] #[{ accessFlags := 4, nameIndex := 5, descriptorIndex := 6, attributes := #[] }] 1057 2 #[133] #[{ accessFlags := 132, nameIndex := 11, descriptorIndex := 12, attributes := #[] }])
  fields := #[{ name := "modCount", type := .int, accessFlags := 132, slot := 0, constantValue := 0 }]
  methods := #[k30m0]
  instanceTypes := #[.int]
  staticTypes := #[]
  resolved := Array.replicate 218 none
  statics := none }

def pool31 : Array CpInfo := pool [(1, .class_ 2), (0, u "java/util/RandomAccess"), (0, .class_ 4), (0, u "java/lang/Object")] 2

/-- java/util/RandomAccess -/
def k31 : Class := { plain "java/util/RandomAccess" (some 0) with
  accessFlags := 1537
  interfaces := #[]
  cf := some (fileOf pool31 1 #[] #[] 1537 3 #[] #[])
  fields := #[]
  methods := #[]
  instanceTypes := #[]
  staticTypes := #[]
  resolved := Array.replicate 7 none
  statics := none }

def pool32 : Array CpInfo := pool [(2, .class_ 4), (1, u "java/util/AbstractList"), (0, u "<init>"), (0, u "()V"), (1, .class_ 10), (1, u "java/util/Collections"), (54, .class_ 66), (0, u "java/util/Collections$EmptyList"), (0, .class_ 68), (0, u "java/util/RandomAccess"), (0, .class_ 70), (0, u "java/io/Serializable"), (0, u "serialVersionUID"), (0, u "J")] 77

def k32m0 : Method := { name := "<init>", desc := "()V", sig := { parameters := [], returnType := none }, accessFlags := 2, code := none }
/-- java/util/Collections$EmptyList -/
def k32 : Class := { plain "java/util/Collections$EmptyList" (some 30) with
  accessFlags := 32
  interfaces := #[31, 2]
  cf := some (fileOf pool32 65 #[.nestHost 8] #[{ accessFlags := 2, nameIndex := 5, descriptorIndex := 6, attributes := #[] }] 32 2 #[67, 69] #[{ accessFlags := 26, nameIndex := 71, descriptorIndex := 72, attributes := #[] }])
  fields := #[{ name := "serialVersionUID", type := .long, accessFlags := 26, slot := 0, constantValue := 0 }]
  methods := #[k32m0]
  instanceTypes := #[.int]
  staticTypes := #[.long]
  resolved := Array.replicate 150 none
  statics := none }

def pool33 : Array CpInfo := pool [(2, .class_ 4), (1, u "java/lang/StackTraceElement"), (0, u "<init>"), (2, .class_ 10), (1, u "java/lang/Object"), (0, u "()V"), (2, u "format"), (0, u "B"), (2, u "classLoaderName"), (0, u "Ljava/lang/String;"), (2, u "moduleName"), (2, u "moduleVersion"), (12, u "declaringClass"), (4, u "methodName"), (2, u "fileName"), (2, u "lineNumber"), (0, u "I"), (65, u "declaringClassObject"), (0, u "Ljava/lang/Class;"), (33, .class_ 153), (1, u "java/lang/StackTraceElement$HashedModules"), (17, .class_ 172), (0, u "java/io/Serializable"), (0, u "NATIVE_METHOD"), (1, u "UNKNOWN_SOURCE"), (2, u "BUILTIN_CLASS_LOADER"), (1, u "JDK_NON_UPGRADEABLE_MODULE"), (1, u "serialVersionUID"), (0, u "J")] 51

def k33m0 : Method := { name := "<init>", desc := "()V", sig := { parameters := [], returnType := none }, accessFlags := 2, code := none }
/-- java/lang/StackTraceElement -/
def k33 : Class := { plain "java/lang/StackTraceElement" (some 0) with
  accessFlags := 49
  interfaces := #[2]
  cf := some (fileOf pool33 2 #[.nestMembers #[151]] #[{ accessFlags := 2, nameIndex := 5, descriptorIndex := 11, attributes := #[] }] 49 8 #[171] #[{ accessFlags := 26, nameIndex := 173, descriptorIndex := 19, attributes := #[] }, { accessFlags := 26, nameIndex := 175, descriptorIndex := 19, attributes := #[] }, { accessFlags := 130, nameIndex := 116, descriptorIndex := 117, attributes := #[] }, { accessFlags := 2, nameIndex := 18, descriptorIndex := 19, attributes := #[] }, { accessFlags := 2, nameIndex := 22, descriptorIndex := 19, attributes := #[] }, { accessFlags := 2, nameIndex := 25, descriptorIndex := 19, attributes := #[] }, { accessFlags := 2, nameIndex := 38, descriptorIndex := 19, attributes := #[] }, { accessFlags := 2, nameIndex := 43, descriptorIndex := 19, attributes := #[] }, { accessFlags := 2, nameIndex := 46, descriptorIndex := 19, attributes := #[] }, { accessFlags := 2, nameIndex := 49, descriptorIndex := 50, attributes := #[] }, { accessFlags := 2, nameIndex := 14, descriptorIndex := 15, attributes := #[] }, { accessFlags := 26, nameIndex := 178, descriptorIndex := 15, attributes := #[] }, { accessFlags := 26, nameIndex := 180, descriptorIndex := 15, attributes := #[] }, { accessFlags := 26, nameIndex := 182, descriptorIndex := 183, attributes := #[] }])
  fields := #[{ name := "NATIVE_METHOD", type := (.object "java/lang/String"), accessFlags := 26, slot := 0, constantValue := 0 }, { name := "UNKNOWN_SOURCE", type := (.object "java/lang/String"), accessFlags := 26, slot := 1, constantValue := 0 }, { name := "declaringClassObject", type := (.object "java/lang/Class"), accessFlags := 130, slot := 0, constantValue := 0 }, { name := "classLoaderName", type := (.object "java/lang/String"), accessFlags := 2, slot := 1, constantValue := 0 }, { name := "moduleName", type := (.object "java/lang/String"), accessFlags := 2, slot := 2, constantValue := 0 }, { name := "moduleVersion", type := (.object "java/lang/String"), accessFlags := 2, slot := 3, constantValue := 0 }, { name := "declaringClass", type := (.object "java/lang/String"), accessFlags := 2, slot := 4, constantValue := 0 }, { name := "methodName", type := (.object "java/lang/String"), accessFlags := 2, slot := 5, constantValue := 0 }, { name := "fileName", type := (.object "java/lang/String"), accessFlags := 2, slot := 6, constantValue := 0 }, { name := "lineNumber", type := .int, accessFlags := 2, slot := 7, constantValue := 0 }, { name := "format", type := .byte, accessFlags := 2, slot := 8, constantValue := 0 }, { name := "BUILTIN_CLASS_LOADER", type := .byte, accessFlags := 26, slot := 2, constantValue := 0 }, { name := "JDK_NON_UPGRADEABLE_MODULE", type := .byte, accessFlags := 26, slot := 3, constantValue := 0 }, { name := "serialVersionUID", type := .long, accessFlags := 26, slot := 4, constantValue := 0 }]
  methods := #[k33m0]
  instanceTypes := #[(.object "java/lang/Class"), (.object "java/lang/String"), (.object "java/lang/String"), (.object "java/lang/String"), (.object "java/lang/String"), (.object "java/lang/String"), (.object "java/lang/String"), .int, .byte]
  staticTypes := #[(.object "java/lang/String"), (.object "java/lang/String"), .byte, .byte, .long]
  resolved := Array.replicate 235 none
  statics := none }

/-- the primitive byte -/
def k34 : Class := { plain "byte" none with kind := .primitive 'B', accessFlags := 0x411 }
/-- [B -/
def k35 : Class := { plain "[B" (some 0) with kind := .array 34 .byte, interfaces := #[23, 2], accessFlags := 1041 }

/-- the primitive char -/
def k36 : Class := { plain "char" none with kind := .primitive 'C', accessFlags := 0x411 }
/-- [C -/
def k37 : Class := { plain "[C" (some 0) with kind := .array 36 .char, interfaces := #[23, 2], accessFlags := 1041 }

/-- the primitive int -/
def k38 : Class := { plain "int" none with kind := .primitive 'I', accessFlags := 0x411 }
/-- [I -/
def k39 : Class := { plain "[I" (some 0) with kind := .array 38 .int, interfaces := #[23, 2], accessFlags := 1041 }

/-- the primitive long -/
def k40 : Class := { plain "long" none with kind := .primitive 'J', accessFlags := 0x411 }
/-- [J -/
def k41 : Class := { plain "[J" (some 0) with kind := .array 40 .long, interfaces := #[23, 2], accessFlags := 1041 }

/-- [Ljava/lang/Object; -/
def k42 : Class := { plain "[Ljava/lang/Object;" (some 0) with kind := .array 0 (.object "java/lang/Object"), interfaces := #[23, 2], accessFlags := 1041 }

/-- [Ljava/lang/StackTraceElement; -/
def k43 : Class := { plain "[Ljava/lang/StackTraceElement;" (some 0) with kind := .array 33 (.object "java/lang/StackTraceElement"), interfaces := #[23, 2], accessFlags := 1041 }

/-- [Ljava/lang/Throwable; -/
def k44 : Class := { plain "[Ljava/lang/Throwable;" (some 0) with kind := .array 9 (.object "java/lang/Throwable"), interfaces := #[23, 2], accessFlags := 1041 }

def heap : Heap := #[{ cls := 7, slots := #[.long 0, .int 1, .null, .int 0, .null, .int 0, .int 0], vm := .statics 7 },
  { cls := 9, slots := #[.long 0, .ref 7, .ref 8, .null, .null, .null, .null, .ref 9, .int 1], vm := .statics 9 },
  { cls := 17, slots := #[.int 0, .int 0, .null, .null, .ref 6, .ref 5, .int 0, .int 0, .long 0], vm := .statics 17 },
  { cls := 22, slots := #[.null, .null, .null], vm := .statics 22 },
  { cls := 24, slots := #[.int 0, .int 0, .int 0, .int 0, .int 0, .int 0, .int 0, .int 0, .null, .null, .ref 8, .null], vm := .statics 24 },
  { cls := 35, slots := #[.int 48, .int 49, .int 50, .int 51, .int 52, .int 53, .int 54, .int 55, .int 56, .int 57, .int 48, .int 49, .int 50, .int 51, .int 52, .int 53, .int 54, .int 55, .int 56, .int 57, .int 48, .int 49, .int 50, .int 51, .int 52, .int 53, .int 54, .int 55, .int 56, .int 57, .int 48, .int 49, .int 50, .int 51, .int 52, .int 53, .int 54, .int 55, .int 56, .int 57, .int 48, .int 49, .int 50, .int 51, .int 52, .int 53, .int 54, .int 55, .int 56, .int 57, .int 48, .int 49, .int 50, .int 51, .int 52, .int 53, .int 54, .int 55, .int 56, .int 57, .int 48, .int 49, .int 50, .int 51, .int 52, .int 53, .int 54, .int 55, .int 56, .int 57, .int 48, .int 49, .int 50, .int 51, .int 52, .int 53, .int 54, .int 55, .int 56, .int 57, .int 48, .int 49, .int 50, .int 51, .int 52, .int 53, .int 54, .int 55, .int 56, .int 57, .int 48, .int 49, .int 50, .int 51, .int 52, .int 53, .int 54, .int 55, .int 56, .int 57], vm := .none },
  { cls := 35, slots := #[.int 48, .int 48, .int 48, .int 48, .int 48, .int 48, .int 48, .int 48, .int 48, .int 48, .int 49, .int 49, .int 49, .int 49, .int 49, .int 49, .int 49, .int 49, .int 49, .int 49, .int 50, .int 50, .int 50, .int 50, .int 50, .int 50, .int 50, .int 50, .int 50, .int 50, .int 51, .int 51, .int 51, .int 51, .int 51, .int 51, .int 51, .int 51, .int 51, .int 51, .int 52, .int 52, .int 52, .int 52, .int 52, .int 52, .int 52, .int 52, .int 52, .int 52, .int 53, .int 53, .int 53, .int 53, .int 53, .int 53, .int 53, .int 53, .int 53, .int 53, .int 54, .int 54, .int 54, .int 54, .int 54, .int 54, .int 54, .int 54, .int 54, .int 54, .int 55, .int 55, .int 55, .int 55, .int 55, .int 55, .int 55, .int 55, .int 55, .int 55, .int 56, .int 56, .int 56, .int 56, .int 56, .int 56, .int 56, .int 56, .int 56, .int 56, .int 57, .int 57, .int 57, .int 57, .int 57, .int 57, .int 57, .int 57, .int 57, .int 57], vm := .none },
  { cls := 43, slots := #[], vm := .none },
  { cls := 32, slots := #[.int 0], vm := .none },
  { cls := 44, slots := #[], vm := .none }]
def classes : Array Class := #[k0, k1, k2, k3, k4, k5, k6, k7, k8, k9, k10, k11, k12, k13, k14, k15, k16, k17, k18, k19, k20, k21, k22, k23, k24, k25, k26, k27, k28, k29, k30, k31, k32, k33, k34, k35, k36, k37, k38, k39, k40, k41, k42, k43, k44]
def interned : List (Array UInt16 × Addr) := []
def slotsUsed : Nat := 241
def theMethod : MethodId := ⟨1, 1⟩
def args0 : Array Value := #[.int 1, .int 1, .int 1, .int 1, .int 1, .int 1]
def aboutOver (below : List Frame) : State where
  vm := { classes := classes, interned := interned.toArray }
  heap := heap
  slotsUsed := slotsUsed
  threads := #[{ frames := .invoking theMethod args0 :: below }]
def below0 : List Frame := [.native { method := ⟨0, 0⟩, args := #[] }]
def about1 : State := aboutOver below0
def p0 : Program := .bare "" "" ""
def e0 : Env := launch0.env 0 0 0
theorem w_frames : about1.frames = Frame.invoking theMethod args0 :: below0 := rfl
set_option maxRecDepth 65536 in
theorem w_args : argsFit about1.vm theMethod args0 = true := by decide +kernel
set_option maxRecDepth 65536 in
theorem w_heap : heapFits about1 = true := by decide +kernel
set_option maxRecDepth 65536 in
theorem w_runnable : about1.curStatus? = some .runnable := by decide +kernel
set_option maxRecDepth 65536 in
theorem w_alone : about1.alone = true := by decide +kernel
set_option maxRecDepth 65536 in
theorem w_named : about1.methodNamed? x = some theMethod := by decide +kernel
set_option maxRecDepth 65536 in
theorem w_hears : about1.hears theMethod below0 = true := by decide +kernel
set_option maxRecDepth 65536 in
theorem w_ripe : about1.ripe theMethod args0 below0 = true := by decide +kernel
theorem w_running : about1.status = .running := rfl
set_option maxRecDepth 65536 in
theorem w_room : about1.hasRoom e0.platform room_1 = true :=
  launch0.hasRoom_least _ room_1 (by decide +kernel) (by decide +kernel) (by decide +kernel) (by decide +kernel) (by decide +kernel) (by decide +kernel)
theorem allAtoms_all (ts : List Jvm.Cond) (a : Array Jvm.Value) (st : Jvm.State) : (allAtoms ts).before a st = ts.all (fun c => c.before a st) := by
  induction ts with
  | nil => rfl
  | cons c t ih =>
    show (Jvm.Cond.and c (allAtoms t)).before a st = _
    rw [Jvm.Cond.before_and, ih, List.all_cons]
def words1 : List Jvm.Cond := Jvm.Cond.code x code maxLocals ret :: tables_1
/-- a 'code' word, met by the world's own term for the bytes: nothing is compared byte by byte -/
theorem code_word {y : MethodName} {bytes : ByteArray} {mx : Nat} {rt : Option FieldType} {a : Array Value} {s : State} {m : MethodId} {meth : Method} {c : Code} (h1 : s.methodNamed? y = some m) (h2 : s.vm.method? m = some meth) (h3 : meth.code = some c) (h4 : c.code = bytes)
    (h5 : (c.maxLocals == mx && c.exceptionTable.isEmpty && decide (c.maxStack ≤ mostOperands) && decide (meth.sig.returnType = rt) && !meth.locks && decide (parseMethodDescriptor y.desc = some meth.sig)) = true) : (Jvm.Cond.code y bytes mx rt).before a s = true := by
  simp only [Bool.and_eq_true, beq_iff_eq, Bool.not_eq_true', decide_eq_true_eq] at h5
  obtain ⟨⟨⟨⟨⟨g1, g2⟩, g3⟩, g4⟩, g5⟩, g6⟩ := h5
  simp [Cond.before, Cond.holds, Cond.value, h1, h2, h3, h4, g1, g2, g3, g4, g5, g6]
def isCode : Jvm.Cond → Bool
  | .code _ _ _ _ => true
  | _ => false
theorem all_split {L : List Jvm.Cond} {P : Jvm.Cond → Bool} (h1 : L.all (fun c => isCode c || P c) = true) (h2 : ∀ c ∈ L.filter isCode, P c = true) : L.all P = true := by
  refine List.all_eq_true.mpr fun c hc => ?_
  have h := List.all_eq_true.mp h1 c hc
  rcases Bool.eq_false_or_eq_true (isCode c) with hi | hi
  · exact h2 c (List.mem_filter.mpr ⟨hc, hi⟩)
  · simpa [hi] using h
set_option maxRecDepth 65536 in
theorem w_c0 : (Jvm.Cond.code x code maxLocals ret).before args0 about1 = true := code_word (m := ⟨1, 1⟩) (meth := k1m1) (c := k1c1) (by decide +kernel) rfl rfl rfl (by decide +kernel)
set_option maxRecDepth 65536 in
theorem w_c1 : (Jvm.Cond.code ({ cls := "java/lang/String", name := "<init>", desc := "([C)V" } : Jvm.MethodName) jdk_42_method_3_code (2 : Nat) (Option.none : Option Jvm.ClassFile.FieldType)).before args0 about1 = true := code_word (m := ⟨7, 1⟩) (meth := k7m1) (c := k7c1) (by decide +kernel) rfl rfl rfl (by decide +kernel)
set_option maxRecDepth 65536 in
theorem w_c2 : (Jvm.Cond.code ({ cls := "java/lang/String", name := "<init>", desc := "([CIILjava/lang/Void;)V" } : Jvm.MethodName) jdk_42_method_149_code (6 : Nat) (Option.none : Option Jvm.ClassFile.FieldType)).before args0 about1 = true := code_word (m := ⟨7, 7⟩) (meth := k7m7) (c := k7c7) (by decide +kernel) rfl rfl rfl (by decide +kernel)
set_option maxRecDepth 65536 in
theorem w_c3 : (Jvm.Cond.code ({ cls := "java/lang/Object", name := "<init>", desc := "()V" } : Jvm.MethodName) object_method_1_code (1 : Nat) (Option.none : Option Jvm.ClassFile.FieldType)).before args0 about1 = true := code_word (m := ⟨0, 0⟩) (meth := k0m0) (c := k0c0) (by decide +kernel) rfl rfl rfl (by decide +kernel)
set_option maxRecDepth 65536 in
theorem w_c4 : (Jvm.Cond.code ({ cls := "java/lang/StringUTF16", name := "compress", desc := "([CII)[B" } : Jvm.MethodName) jdk_52_method_16_code (6 : Nat) (Option.some (Jvm.ClassFile.FieldType.array Jvm.ClassFile.FieldType.byte))).before args0 about1 = true := code_word (m := ⟨8, 2⟩) (meth := k8m2) (c := k8c2) (by decide +kernel) rfl rfl rfl (by decide +kernel)
set_option maxRecDepth 65536 in
theorem w_c5 : (Jvm.Cond.code ({ cls := "java/lang/StringUTF16", name := "compress", desc := "([CI[BII)I" } : Jvm.MethodName) jdk_52_method_21_code (7 : Nat) (Option.some Jvm.ClassFile.FieldType.int)).before args0 about1 = true := code_word (m := ⟨8, 3⟩) (meth := k8m3) (c := k8c3) (by decide +kernel) rfl rfl rfl (by decide +kernel)
set_option maxRecDepth 65536 in
theorem w_c6 : (Jvm.Cond.code ({ cls := "java/lang/StringUTF16", name := "coderFromArrayLen", desc := "([BI)B" } : Jvm.MethodName) jdk_52_method_15_code (2 : Nat) (Option.some Jvm.ClassFile.FieldType.byte)).before args0 about1 = true := code_word (m := ⟨8, 1⟩) (meth := k8m1) (c := k8c1) (by decide +kernel) rfl rfl rfl (by decide +kernel)
set_option maxRecDepth 65536 in
theorem w_c7 : (Jvm.Cond.code ({ cls := "com/example/hearsay_rules/hearsayrules/InvalidJsonException", name := "at", desc := "(IILjava/lang/String;)Lcom/example/hearsay_rules/hearsayrules/InvalidJsonException;" } : Jvm.MethodName) prog_16_method_2_code (3 : Nat) (Option.some (Jvm.ClassFile.FieldType.object "com/example/hearsay_rules/hearsayrules/InvalidJsonException"))).before args0 about1 = true := code_word (m := ⟨11, 1⟩) (meth := k11m1) (c := k11c1) (by decide +kernel) rfl rfl rfl (by decide +kernel)
set_option maxRecDepth 65536 in
theorem w_c8 : (Jvm.Cond.code ({ cls := "java/lang/StringBuilder", name := "<init>", desc := "()V" } : Jvm.MethodName) jdk_67_method_1_code (1 : Nat) (Option.none : Option Jvm.ClassFile.FieldType)).before args0 about1 = true := code_word (m := ⟨14, 0⟩) (meth := k14m0) (c := k14c0) (by decide +kernel) rfl rfl rfl (by decide +kernel)
set_option maxRecDepth 65536 in
theorem w_c9 : (Jvm.Cond.code ({ cls := "java/lang/AbstractStringBuilder", name := "<init>", desc := "(I)V" } : Jvm.MethodName) jdk_68_method_2_code (2 : Nat) (Option.none : Option Jvm.ClassFile.FieldType)).before args0 about1 = true := code_word (m := ⟨13, 1⟩) (meth := k13m1) (c := k13c1) (by decide +kernel) rfl rfl rfl (by decide +kernel)
set_option maxRecDepth 65536 in
theorem w_c10 : (Jvm.Cond.code ({ cls := "java/lang/StringBuilder", name := "append", desc := "(Ljava/lang/String;)Ljava/lang/StringBuilder;" } : Jvm.MethodName) jdk_67_method_7_code (2 : Nat) (Option.some (Jvm.ClassFile.FieldType.object "java/lang/StringBuilder"))).before args0 about1 = true := code_word (m := ⟨14, 1⟩) (meth := k14m1) (c := k14c1) (by decide +kernel) rfl rfl rfl (by decide +kernel)
set_option maxRecDepth 65536 in
theorem w_c11 : (Jvm.Cond.code ({ cls := "java/lang/AbstractStringBuilder", name := "append", desc := "(Ljava/lang/String;)Ljava/lang/AbstractStringBuilder;" } : Jvm.MethodName) jdk_68_method_22_code (3 : Nat) (Option.some (Jvm.ClassFile.FieldType.object "java/lang/AbstractStringBuilder"))).before args0 about1 = true := code_word (m := ⟨13, 5⟩) (meth := k13m5) (c := k13c5) (by decide +kernel) rfl rfl rfl (by decide +kernel)
set_option maxRecDepth 65536 in
theorem w_c12 : (Jvm.Cond.code ({ cls := "java/lang/String", name := "length", desc := "()I" } : Jvm.MethodName) jdk_42_method_54_code (1 : Nat) (Option.some Jvm.ClassFile.FieldType.int)).before args0 about1 = true := code_word (m := ⟨7, 3⟩) (meth := k7m3) (c := k7c3) (by decide +kernel) rfl rfl rfl (by decide +kernel)
set_option maxRecDepth 65536 in
theorem w_c13 : (Jvm.Cond.code ({ cls := "java/lang/String", name := "coder", desc := "()B" } : Jvm.MethodName) jdk_42_method_152_code (1 : Nat) (Option.some Jvm.ClassFile.FieldType.byte)).before args0 about1 = true := code_word (m := ⟨7, 10⟩) (meth := k7m10) (c := k7c10) (by decide +kernel) rfl rfl rfl (by decide +kernel)
set_option maxRecDepth 65536 in
theorem w_c14 : (Jvm.Cond.code ({ cls := "java/lang/AbstractStringBuilder", name := "ensureCapacityInternal", desc := "(I)V" } : Jvm.MethodName) jdk_68_method_9_code (3 : Nat) (Option.none : Option Jvm.ClassFile.FieldType)).before args0 about1 = true := code_word (m := ⟨13, 3⟩) (meth := k13m3) (c := k13c3) (by decide +kernel) rfl rfl rfl (by decide +kernel)
set_option maxRecDepth 65536 in
theorem w_c15 : (Jvm.Cond.code ({ cls := "java/lang/AbstractStringBuilder", name := "putStringAt", desc := "(ILjava/lang/String;)V" } : Jvm.MethodName) jdk_68_method_73_code (3 : Nat) (Option.none : Option Jvm.ClassFile.FieldType)).before args0 about1 = true := code_word (m := ⟨13, 10⟩) (meth := k13m10) (c := k13c10) (by decide +kernel) rfl rfl rfl (by decide +kernel)
set_option maxRecDepth 65536 in
theorem w_c16 : (Jvm.Cond.code ({ cls := "java/lang/AbstractStringBuilder", name := "inflateIfNeededFor", desc := "(Ljava/lang/String;)V" } : Jvm.MethodName) jdk_68_method_71_code (2 : Nat) (Option.none : Option Jvm.ClassFile.FieldType)).before args0 about1 = true := code_word (m := ⟨13, 9⟩) (meth := k13m9) (c := k13c9) (by decide +kernel) rfl rfl rfl (by decide +kernel)
set_option maxRecDepth 65536 in
theorem w_c17 : (Jvm.Cond.code ({ cls := "java/lang/String", name := "getBytes", desc := "([BIB)V" } : Jvm.MethodName) jdk_42_method_147_code (4 : Nat) (Option.none : Option Jvm.ClassFile.FieldType)).before args0 about1 = true := code_word (m := ⟨7, 6⟩) (meth := k7m6) (c := k7c6) (by decide +kernel) rfl rfl rfl (by decide +kernel)
set_option maxRecDepth 65536 in
theorem w_c18 : (Jvm.Cond.code ({ cls := "java/lang/StringBuilder", name := "append", desc := "(I)Ljava/lang/StringBuilder;" } : Jvm.MethodName) jdk_67_method_15_code (2 : Nat) (Option.some (Jvm.ClassFile.FieldType.object "java/lang/StringBuilder"))).before args0 about1 = true := code_word (m := ⟨14, 2⟩) (meth := k14m2) (c := k14c2) (by decide +kernel) rfl rfl rfl (by decide +kernel)
set_option maxRecDepth 65536 in
theorem w_c19 : (Jvm.Cond.code ({ cls := "java/lang/AbstractStringBuilder", name := "append", desc := "(I)Ljava/lang/AbstractStringBuilder;" } : Jvm.MethodName) jdk_68_method_32_code (4 : Nat) (Option.some (Jvm.ClassFile.FieldType.object "java/lang/AbstractStringBuilder"))).before args0 about1 = true := code_word (m := ⟨13, 6⟩) (meth := k13m6) (c := k13c6) (by decide +kernel) rfl rfl rfl (by decide +kernel)
set_option maxRecDepth 65536 in
theorem w_c20 : (Jvm.Cond.code ({ cls := "java/lang/Integer", name := "stringSize", desc := "(I)I" } : Jvm.MethodName) jdk_33_method_13_code (4 : Nat) (Option.some Jvm.ClassFile.FieldType.int)).before args0 about1 = true := code_word (m := ⟨17, 1⟩) (meth := k17m1) (c := k17c1) (by decide +kernel) rfl rfl rfl (by decide +kernel)
set_option maxRecDepth 65536 in
theorem w_c21 : (Jvm.Cond.code ({ cls := "java/lang/AbstractStringBuilder", name := "isLatin1", desc := "()Z" } : Jvm.MethodName) jdk_68_method_68_code (1 : Nat) (Option.some Jvm.ClassFile.FieldType.boolean)).before args0 about1 = true := code_word (m := ⟨13, 8⟩) (meth := k13m8) (c := k13c8) (by decide +kernel) rfl rfl rfl (by decide +kernel)
set_option maxRecDepth 65536 in
theorem w_c22 : (Jvm.Cond.code ({ cls := "java/lang/Integer", name := "getChars", desc := "(II[B)I" } : Jvm.MethodName) jdk_33_method_12_code (7 : Nat) (Option.some Jvm.ClassFile.FieldType.int)).before args0 about1 = true := code_word (m := ⟨17, 0⟩) (meth := k17m0) (c := k17c0) (by decide +kernel) rfl rfl rfl (by decide +kernel)
set_option maxRecDepth 65536 in
theorem w_c23 : (Jvm.Cond.code ({ cls := "java/lang/AbstractStringBuilder", name := "newCapacity", desc := "(I)I" } : Jvm.MethodName) jdk_68_method_10_code (6 : Nat) (Option.some Jvm.ClassFile.FieldType.int)).before args0 about1 = true := code_word (m := ⟨13, 4⟩) (meth := k13m4) (c := k13c4) (by decide +kernel) rfl rfl rfl (by decide +kernel)
set_option maxRecDepth 65536 in
theorem w_c24 : (Jvm.Cond.code ({ cls := "jdk/internal/util/ArraysSupport", name := "newLength", desc := "(III)I" } : Jvm.MethodName) jdk_48_method_27_code (4 : Nat) (Option.some Jvm.ClassFile.FieldType.int)).before args0 about1 = true := code_word (m := ⟨18, 1⟩) (meth := k18m1) (c := k18c1) (by decide +kernel) rfl rfl rfl (by decide +kernel)
set_option maxRecDepth 65536 in
theorem w_c25 : (Jvm.Cond.code ({ cls := "java/lang/Math", name := "max", desc := "(II)I" } : Jvm.MethodName) jdk_29_method_65_code (2 : Nat) (Option.some Jvm.ClassFile.FieldType.int)).before args0 about1 = true := code_word (m := ⟨19, 1⟩) (meth := k19m1) (c := k19c1) (by decide +kernel) rfl rfl rfl (by decide +kernel)
set_option maxRecDepth 65536 in
theorem w_c26 : (Jvm.Cond.code ({ cls := "java/util/Arrays", name := "copyOf", desc := "([BI)[B" } : Jvm.MethodName) jdk_65_method_121_code (3 : Nat) (Option.some (Jvm.ClassFile.FieldType.array Jvm.ClassFile.FieldType.byte))).before args0 about1 = true := code_word (m := ⟨20, 1⟩) (meth := k20m1) (c := k20c1) (by decide +kernel) rfl rfl rfl (by decide +kernel)
set_option maxRecDepth 65536 in
theorem w_c27 : (Jvm.Cond.code ({ cls := "java/lang/Math", name := "min", desc := "(II)I" } : Jvm.MethodName) jdk_29_method_69_code (2 : Nat) (Option.some Jvm.ClassFile.FieldType.int)).before args0 about1 = true := code_word (m := ⟨19, 2⟩) (meth := k19m2) (c := k19c2) (by decide +kernel) rfl rfl rfl (by decide +kernel)
set_option maxRecDepth 65536 in
theorem w_c28 : (Jvm.Cond.code ({ cls := "java/lang/StringBuilder", name := "toString", desc := "()Ljava/lang/String;" } : Jvm.MethodName) jdk_67_method_42_code (1 : Nat) (Option.some (Jvm.ClassFile.FieldType.object "java/lang/String"))).before args0 about1 = true := code_word (m := ⟨14, 3⟩) (meth := k14m3) (c := k14c3) (by decide +kernel) rfl rfl rfl (by decide +kernel)
set_option maxRecDepth 65536 in
theorem w_c29 : (Jvm.Cond.code ({ cls := "java/lang/String", name := "<init>", desc := "(Ljava/lang/StringBuilder;)V" } : Jvm.MethodName) jdk_42_method_53_code (2 : Nat) (Option.none : Option Jvm.ClassFile.FieldType)).before args0 about1 = true := code_word (m := ⟨7, 2⟩) (meth := k7m2) (c := k7c2) (by decide +kernel) rfl rfl rfl (by decide +kernel)
set_option maxRecDepth 65536 in
theorem w_c30 : (Jvm.Cond.code ({ cls := "java/lang/String", name := "<init>", desc := "(Ljava/lang/AbstractStringBuilder;Ljava/lang/Void;)V" } : Jvm.MethodName) jdk_42_method_150_code (5 : Nat) (Option.none : Option Jvm.ClassFile.FieldType)).before args0 about1 = true := code_word (m := ⟨7, 8⟩) (meth := k7m8) (c := k7c8) (by decide +kernel) rfl rfl rfl (by decide +kernel)
set_option maxRecDepth 65536 in
theorem w_c31 : (Jvm.Cond.code ({ cls := "java/lang/AbstractStringBuilder", name := "getValue", desc := "()[B" } : Jvm.MethodName) jdk_68_method_64_code (1 : Nat) (Option.some (Jvm.ClassFile.FieldType.array Jvm.ClassFile.FieldType.byte))).before args0 about1 = true := code_word (m := ⟨13, 7⟩) (meth := k13m7) (c := k13c7) (by decide +kernel) rfl rfl rfl (by decide +kernel)
set_option maxRecDepth 65536 in
theorem w_c32 : (Jvm.Cond.code ({ cls := "java/lang/StringBuilder", name := "length", desc := "()I" } : Jvm.MethodName) jdk_67_method_93_code (1 : Nat) (Option.some Jvm.ClassFile.FieldType.int)).before args0 about1 = true := code_word (m := ⟨14, 4⟩) (meth := k14m4) (c := k14c4) (by decide +kernel) rfl rfl rfl (by decide +kernel)
set_option maxRecDepth 65536 in
theorem w_c33 : (Jvm.Cond.code ({ cls := "java/lang/AbstractStringBuilder", name := "length", desc := "()I" } : Jvm.MethodName) jdk_68_method_6_code (1 : Nat) (Option.some Jvm.ClassFile.FieldType.int)).before args0 about1 = true := code_word (m := ⟨13, 2⟩) (meth := k13m2) (c := k13c2) (by decide +kernel) rfl rfl rfl (by decide +kernel)
set_option maxRecDepth 65536 in
theorem w_c34 : (Jvm.Cond.code ({ cls := "java/util/Arrays", name := "copyOfRange", desc := "([BII)[B" } : Jvm.MethodName) jdk_65_method_132_code (3 : Nat) (Option.some (Jvm.ClassFile.FieldType.array Jvm.ClassFile.FieldType.byte))).before args0 about1 = true := code_word (m := ⟨20, 3⟩) (meth := k20m3) (c := k20c3) (by decide +kernel) rfl rfl rfl (by decide +kernel)
set_option maxRecDepth 65536 in
theorem w_c35 : (Jvm.Cond.code ({ cls := "java/util/Arrays", name := "copyOfRangeByte", desc := "([BII)[B" } : Jvm.MethodName) jdk_65_method_133_code (5 : Nat) (Option.some (Jvm.ClassFile.FieldType.array Jvm.ClassFile.FieldType.byte))).before args0 about1 = true := code_word (m := ⟨20, 4⟩) (meth := k20m4) (c := k20c4) (by decide +kernel) rfl rfl rfl (by decide +kernel)
set_option maxRecDepth 65536 in
theorem w_c36 : (Jvm.Cond.code ({ cls := "java/util/Arrays", name := "checkLength", desc := "(II)V" } : Jvm.MethodName) jdk_65_method_131_code (2 : Nat) (Option.none : Option Jvm.ClassFile.FieldType)).before args0 about1 = true := code_word (m := ⟨20, 2⟩) (meth := k20m2) (c := k20c2) (by decide +kernel) rfl rfl rfl (by decide +kernel)
set_option maxRecDepth 65536 in
theorem w_c37 : (Jvm.Cond.code ({ cls := "com/example/hearsay_rules/hearsayrules/InvalidJsonException", name := "<init>", desc := "(Ljava/lang/String;)V" } : Jvm.MethodName) prog_16_method_1_code (2 : Nat) (Option.none : Option Jvm.ClassFile.FieldType)).before args0 about1 = true := code_word (m := ⟨11, 0⟩) (meth := k11m0) (c := k11c0) (by decide +kernel) rfl rfl rfl (by decide +kernel)
set_option maxRecDepth 65536 in
theorem w_c38 : (Jvm.Cond.code ({ cls := "java/lang/Exception", name := "<init>", desc := "(Ljava/lang/String;)V" } : Jvm.MethodName) jdk_59_method_2_code (2 : Nat) (Option.none : Option Jvm.ClassFile.FieldType)).before args0 about1 = true := code_word (m := ⟨10, 1⟩) (meth := k10m1) (c := k10c1) (by decide +kernel) rfl rfl rfl (by decide +kernel)
set_option maxRecDepth 65536 in
theorem w_c39 : (Jvm.Cond.code ({ cls := "java/lang/Throwable", name := "<init>", desc := "(Ljava/lang/String;)V" } : Jvm.MethodName) jdk_78_method_2_code (2 : Nat) (Option.none : Option Jvm.ClassFile.FieldType)).before args0 about1 = true := code_word (m := ⟨9, 1⟩) (meth := k9m1) (c := k9c1) (by decide +kernel) rfl rfl rfl (by decide +kernel)
set_option maxRecDepth 65536 in
theorem w_c40 : (Jvm.Cond.code ({ cls := "java/lang/Throwable", name := "<init>", desc := "()V" } : Jvm.MethodName) jdk_78_method_1_code (1 : Nat) (Option.none : Option Jvm.ClassFile.FieldType)).before args0 about1 = true := code_word (m := ⟨9, 0⟩) (meth := k9m0) (c := k9c0) (by decide +kernel) rfl rfl rfl (by decide +kernel)
set_option maxRecDepth 65536 in
theorem w_c41 : (Jvm.Cond.code ({ cls := "java/lang/Throwable", name := "getMessage", desc := "()Ljava/lang/String;" } : Jvm.MethodName) jdk_78_method_6_code (1 : Nat) (Option.some (Jvm.ClassFile.FieldType.object "java/lang/String"))).before args0 about1 = true := code_word (m := ⟨9, 2⟩) (meth := k9m2) (c := k9c2) (by decide +kernel) rfl rfl rfl (by decide +kernel)
set_option maxRecDepth 65536 in
theorem w_c42 : (Jvm.Cond.code ({ cls := "com/example/hearsay_rules/hearsayrules/InvalidJsonExceptionAtPinLaw", name := "digits", desc := "(I)I" } : Jvm.MethodName) method_3_code (1 : Nat) (Option.some Jvm.ClassFile.FieldType.int)).before args0 about1 = true := code_word (m := ⟨1, 2⟩) (meth := k1m2) (c := k1c2) (by decide +kernel) rfl rfl rfl (by decide +kernel)
set_option maxRecDepth 65536 in
theorem w_c43 : (Jvm.Cond.code ({ cls := "com/example/hearsay_rules/hearsayrules/InvalidJsonExceptionAtPinLaw", name := "lit", desc := "(Ljava/lang/String;ILjava/lang/String;)Z" } : Jvm.MethodName) method_6_code (3 : Nat) (Option.some Jvm.ClassFile.FieldType.boolean)).before args0 about1 = true := code_word (m := ⟨1, 5⟩) (meth := k1m5) (c := k1c5) (by decide +kernel) rfl rfl rfl (by decide +kernel)
set_option maxRecDepth 65536 in
theorem w_c44 : (Jvm.Cond.code ({ cls := "com/example/hearsay_rules/hearsayrules/InvalidJsonExceptionAtPinLaw", name := "ch", desc := "(Ljava/lang/String;ILjava/lang/String;I)Z" } : Jvm.MethodName) method_5_code (4 : Nat) (Option.some Jvm.ClassFile.FieldType.boolean)).before args0 about1 = true := code_word (m := ⟨1, 4⟩) (meth := k1m4) (c := k1c4) (by decide +kernel) rfl rfl rfl (by decide +kernel)
set_option maxRecDepth 65536 in
theorem w_c45 : (Jvm.Cond.code ({ cls := "java/lang/String", name := "charAt", desc := "(I)C" } : Jvm.MethodName) jdk_42_method_56_code (2 : Nat) (Option.some Jvm.ClassFile.FieldType.char)).before args0 about1 = true := code_word (m := ⟨7, 4⟩) (meth := k7m4) (c := k7c4) (by decide +kernel) rfl rfl rfl (by decide +kernel)
set_option maxRecDepth 65536 in
theorem w_c46 : (Jvm.Cond.code ({ cls := "java/lang/String", name := "isLatin1", desc := "()Z" } : Jvm.MethodName) jdk_42_method_154_code (1 : Nat) (Option.some Jvm.ClassFile.FieldType.boolean)).before args0 about1 = true := code_word (m := ⟨7, 11⟩) (meth := k7m11) (c := k7c11) (by decide +kernel) rfl rfl rfl (by decide +kernel)
set_option maxRecDepth 65536 in
theorem w_c47 : (Jvm.Cond.code ({ cls := "java/lang/StringLatin1", name := "charAt", desc := "([BI)C" } : Jvm.MethodName) jdk_43_method_2_code (2 : Nat) (Option.some Jvm.ClassFile.FieldType.char)).before args0 about1 = true := code_word (m := ⟨21, 1⟩) (meth := k21m1) (c := k21c1) (by decide +kernel) rfl rfl rfl (by decide +kernel)
set_option maxRecDepth 65536 in
theorem w_c48 : (Jvm.Cond.code ({ cls := "java/lang/String", name := "checkIndex", desc := "(II)V" } : Jvm.MethodName) jdk_42_method_155_code (2 : Nat) (Option.none : Option Jvm.ClassFile.FieldType)).before args0 about1 = true := code_word (m := ⟨7, 12⟩) (meth := k7m12) (c := k7c12) (by decide +kernel) rfl rfl rfl (by decide +kernel)
set_option maxRecDepth 65536 in
theorem w_c49 : (Jvm.Cond.code ({ cls := "jdk/internal/util/Preconditions", name := "checkIndex", desc := "(IILjava/util/function/BiFunction;)I" } : Jvm.MethodName) jdk_41_method_11_code (3 : Nat) (Option.some Jvm.ClassFile.FieldType.int)).before args0 about1 = true := code_word (m := ⟨22, 1⟩) (meth := k22m1) (c := k22c1) (by decide +kernel) rfl rfl rfl (by decide +kernel)
set_option maxRecDepth 65536 in
theorem w_c50 : (Jvm.Cond.code ({ cls := "com/example/hearsay_rules/hearsayrules/InvalidJsonExceptionAtPinLaw", name := "num", desc := "(Ljava/lang/String;III)Z" } : Jvm.MethodName) method_8_code (4 : Nat) (Option.some Jvm.ClassFile.FieldType.boolean)).before args0 about1 = true := code_word (m := ⟨1, 7⟩) (meth := k1m7) (c := k1c7) (by decide +kernel) rfl rfl rfl (by decide +kernel)
set_option maxRecDepth 65536 in
theorem w_c51 : (Jvm.Cond.code ({ cls := "com/example/hearsay_rules/hearsayrules/InvalidJsonExceptionAtPinLaw", name := "dig", desc := "(Ljava/lang/String;IIII)Z" } : Jvm.MethodName) method_7_code (6 : Nat) (Option.some Jvm.ClassFile.FieldType.boolean)).before args0 about1 = true := code_word (m := ⟨1, 6⟩) (meth := k1m6) (c := k1c6) (by decide +kernel) rfl rfl rfl (by decide +kernel)
set_option maxRecDepth 65536 in
theorem w_c52 : (Jvm.Cond.code ({ cls := "com/example/hearsay_rules/hearsayrules/InvalidJsonExceptionAtPinLaw", name := "pow10", desc := "(I)J" } : Jvm.MethodName) method_4_code (2 : Nat) (Option.some Jvm.ClassFile.FieldType.long)).before args0 about1 = true := code_word (m := ⟨1, 3⟩) (meth := k1m3) (c := k1c3) (by decide +kernel) rfl rfl rfl (by decide +kernel)
set_option maxRecDepth 65536 in
theorem w_c53 : (Jvm.Cond.code ({ cls := "java/lang/String", name := "valueOf", desc := "(C)Ljava/lang/String;" } : Jvm.MethodName) jdk_42_method_139_code (1 : Nat) (Option.some (Jvm.ClassFile.FieldType.object "java/lang/String"))).before args0 about1 = true := code_word (m := ⟨7, 5⟩) (meth := k7m5) (c := k7c5) (by decide +kernel) rfl rfl rfl (by decide +kernel)
set_option maxRecDepth 65536 in
theorem w_c54 : (Jvm.Cond.code ({ cls := "java/lang/StringLatin1", name := "canEncode", desc := "(C)Z" } : Jvm.MethodName) jdk_43_method_3_code (1 : Nat) (Option.some Jvm.ClassFile.FieldType.boolean)).before args0 about1 = true := code_word (m := ⟨21, 2⟩) (meth := k21m2) (c := k21c2) (by decide +kernel) rfl rfl rfl (by decide +kernel)
set_option maxRecDepth 65536 in
theorem w_c55 : (Jvm.Cond.code ({ cls := "java/lang/StringLatin1", name := "toBytes", desc := "(C)[B" } : Jvm.MethodName) jdk_43_method_46_code (1 : Nat) (Option.some (Jvm.ClassFile.FieldType.array Jvm.ClassFile.FieldType.byte))).before args0 about1 = true := code_word (m := ⟨21, 3⟩) (meth := k21m3) (c := k21c3) (by decide +kernel) rfl rfl rfl (by decide +kernel)
set_option maxRecDepth 65536 in
theorem w_c56 : (Jvm.Cond.code ({ cls := "java/lang/String", name := "<init>", desc := "([BB)V" } : Jvm.MethodName) jdk_42_method_151_code (3 : Nat) (Option.none : Option Jvm.ClassFile.FieldType)).before args0 about1 = true := code_word (m := ⟨7, 9⟩) (meth := k7m9) (c := k7c9) (by decide +kernel) rfl rfl rfl (by decide +kernel)
def codes1 : List Jvm.Cond := [Jvm.Cond.code x code maxLocals ret, Jvm.Cond.code ({ cls := "java/lang/String", name := "<init>", desc := "([C)V" } : Jvm.MethodName) jdk_42_method_3_code (2 : Nat) (Option.none : Option Jvm.ClassFile.FieldType), Jvm.Cond.code ({ cls := "java/lang/String", name := "<init>", desc := "([CIILjava/lang/Void;)V" } : Jvm.MethodName) jdk_42_method_149_code (6 : Nat) (Option.none : Option Jvm.ClassFile.FieldType), Jvm.Cond.code ({ cls := "java/lang/Object", name := "<init>", desc := "()V" } : Jvm.MethodName) object_method_1_code (1 : Nat) (Option.none : Option Jvm.ClassFile.FieldType), Jvm.Cond.code ({ cls := "java/lang/StringUTF16", name := "compress", desc := "([CII)[B" } : Jvm.MethodName) jdk_52_method_16_code (6 : Nat) (Option.some (Jvm.ClassFile.FieldType.array Jvm.ClassFile.FieldType.byte)), Jvm.Cond.code ({ cls := "java/lang/StringUTF16", name := "compress", desc := "([CI[BII)I" } : Jvm.MethodName) jdk_52_method_21_code (7 : Nat) (Option.some Jvm.ClassFile.FieldType.int), Jvm.Cond.code ({ cls := "java/lang/StringUTF16", name := "coderFromArrayLen", desc := "([BI)B" } : Jvm.MethodName) jdk_52_method_15_code (2 : Nat) (Option.some Jvm.ClassFile.FieldType.byte), Jvm.Cond.code ({ cls := "com/example/hearsay_rules/hearsayrules/InvalidJsonException", name := "at", desc := "(IILjava/lang/String;)Lcom/example/hearsay_rules/hearsayrules/InvalidJsonException;" } : Jvm.MethodName) prog_16_method_2_code (3 : Nat) (Option.some (Jvm.ClassFile.FieldType.object "com/example/hearsay_rules/hearsayrules/InvalidJsonException")), Jvm.Cond.code ({ cls := "java/lang/StringBuilder", name := "<init>", desc := "()V" } : Jvm.MethodName) jdk_67_method_1_code (1 : Nat) (Option.none : Option Jvm.ClassFile.FieldType), Jvm.Cond.code ({ cls := "java/lang/AbstractStringBuilder", name := "<init>", desc := "(I)V" } : Jvm.MethodName) jdk_68_method_2_code (2 : Nat) (Option.none : Option Jvm.ClassFile.FieldType), Jvm.Cond.code ({ cls := "java/lang/StringBuilder", name := "append", desc := "(Ljava/lang/String;)Ljava/lang/StringBuilder;" } : Jvm.MethodName) jdk_67_method_7_code (2 : Nat) (Option.some (Jvm.ClassFile.FieldType.object "java/lang/StringBuilder")), Jvm.Cond.code ({ cls := "java/lang/AbstractStringBuilder", name := "append", desc := "(Ljava/lang/String;)Ljava/lang/AbstractStringBuilder;" } : Jvm.MethodName) jdk_68_method_22_code (3 : Nat) (Option.some (Jvm.ClassFile.FieldType.object "java/lang/AbstractStringBuilder")), Jvm.Cond.code ({ cls := "java/lang/String", name := "length", desc := "()I" } : Jvm.MethodName) jdk_42_method_54_code (1 : Nat) (Option.some Jvm.ClassFile.FieldType.int), Jvm.Cond.code ({ cls := "java/lang/String", name := "coder", desc := "()B" } : Jvm.MethodName) jdk_42_method_152_code (1 : Nat) (Option.some Jvm.ClassFile.FieldType.byte), Jvm.Cond.code ({ cls := "java/lang/AbstractStringBuilder", name := "ensureCapacityInternal", desc := "(I)V" } : Jvm.MethodName) jdk_68_method_9_code (3 : Nat) (Option.none : Option Jvm.ClassFile.FieldType), Jvm.Cond.code ({ cls := "java/lang/AbstractStringBuilder", name := "putStringAt", desc := "(ILjava/lang/String;)V" } : Jvm.MethodName) jdk_68_method_73_code (3 : Nat) (Option.none : Option Jvm.ClassFile.FieldType), Jvm.Cond.code ({ cls := "java/lang/AbstractStringBuilder", name := "inflateIfNeededFor", desc := "(Ljava/lang/String;)V" } : Jvm.MethodName) jdk_68_method_71_code (2 : Nat) (Option.none : Option Jvm.ClassFile.FieldType), Jvm.Cond.code ({ cls := "java/lang/String", name := "getBytes", desc := "([BIB)V" } : Jvm.MethodName) jdk_42_method_147_code (4 : Nat) (Option.none : Option Jvm.ClassFile.FieldType), Jvm.Cond.code ({ cls := "java/lang/StringBuilder", name := "append", desc := "(I)Ljava/lang/StringBuilder;" } : Jvm.MethodName) jdk_67_method_15_code (2 : Nat) (Option.some (Jvm.ClassFile.FieldType.object "java/lang/StringBuilder")), Jvm.Cond.code ({ cls := "java/lang/AbstractStringBuilder", name := "append", desc := "(I)Ljava/lang/AbstractStringBuilder;" } : Jvm.MethodName) jdk_68_method_32_code (4 : Nat) (Option.some (Jvm.ClassFile.FieldType.object "java/lang/AbstractStringBuilder")), Jvm.Cond.code ({ cls := "java/lang/Integer", name := "stringSize", desc := "(I)I" } : Jvm.MethodName) jdk_33_method_13_code (4 : Nat) (Option.some Jvm.ClassFile.FieldType.int), Jvm.Cond.code ({ cls := "java/lang/AbstractStringBuilder", name := "isLatin1", desc := "()Z" } : Jvm.MethodName) jdk_68_method_68_code (1 : Nat) (Option.some Jvm.ClassFile.FieldType.boolean), Jvm.Cond.code ({ cls := "java/lang/Integer", name := "getChars", desc := "(II[B)I" } : Jvm.MethodName) jdk_33_method_12_code (7 : Nat) (Option.some Jvm.ClassFile.FieldType.int), Jvm.Cond.code ({ cls := "java/lang/AbstractStringBuilder", name := "newCapacity", desc := "(I)I" } : Jvm.MethodName) jdk_68_method_10_code (6 : Nat) (Option.some Jvm.ClassFile.FieldType.int), Jvm.Cond.code ({ cls := "jdk/internal/util/ArraysSupport", name := "newLength", desc := "(III)I" } : Jvm.MethodName) jdk_48_method_27_code (4 : Nat) (Option.some Jvm.ClassFile.FieldType.int), Jvm.Cond.code ({ cls := "java/lang/Math", name := "max", desc := "(II)I" } : Jvm.MethodName) jdk_29_method_65_code (2 : Nat) (Option.some Jvm.ClassFile.FieldType.int), Jvm.Cond.code ({ cls := "java/util/Arrays", name := "copyOf", desc := "([BI)[B" } : Jvm.MethodName) jdk_65_method_121_code (3 : Nat) (Option.some (Jvm.ClassFile.FieldType.array Jvm.ClassFile.FieldType.byte)), Jvm.Cond.code ({ cls := "java/lang/Math", name := "min", desc := "(II)I" } : Jvm.MethodName) jdk_29_method_69_code (2 : Nat) (Option.some Jvm.ClassFile.FieldType.int), Jvm.Cond.code ({ cls := "java/lang/StringBuilder", name := "toString", desc := "()Ljava/lang/String;" } : Jvm.MethodName) jdk_67_method_42_code (1 : Nat) (Option.some (Jvm.ClassFile.FieldType.object "java/lang/String")), Jvm.Cond.code ({ cls := "java/lang/String", name := "<init>", desc := "(Ljava/lang/StringBuilder;)V" } : Jvm.MethodName) jdk_42_method_53_code (2 : Nat) (Option.none : Option Jvm.ClassFile.FieldType), Jvm.Cond.code ({ cls := "java/lang/String", name := "<init>", desc := "(Ljava/lang/AbstractStringBuilder;Ljava/lang/Void;)V" } : Jvm.MethodName) jdk_42_method_150_code (5 : Nat) (Option.none : Option Jvm.ClassFile.FieldType), Jvm.Cond.code ({ cls := "java/lang/AbstractStringBuilder", name := "getValue", desc := "()[B" } : Jvm.MethodName) jdk_68_method_64_code (1 : Nat) (Option.some (Jvm.ClassFile.FieldType.array Jvm.ClassFile.FieldType.byte)), Jvm.Cond.code ({ cls := "java/lang/StringBuilder", name := "length", desc := "()I" } : Jvm.MethodName) jdk_67_method_93_code (1 : Nat) (Option.some Jvm.ClassFile.FieldType.int), Jvm.Cond.code ({ cls := "java/lang/AbstractStringBuilder", name := "length", desc := "()I" } : Jvm.MethodName) jdk_68_method_6_code (1 : Nat) (Option.some Jvm.ClassFile.FieldType.int), Jvm.Cond.code ({ cls := "java/util/Arrays", name := "copyOfRange", desc := "([BII)[B" } : Jvm.MethodName) jdk_65_method_132_code (3 : Nat) (Option.some (Jvm.ClassFile.FieldType.array Jvm.ClassFile.FieldType.byte)), Jvm.Cond.code ({ cls := "java/util/Arrays", name := "copyOfRangeByte", desc := "([BII)[B" } : Jvm.MethodName) jdk_65_method_133_code (5 : Nat) (Option.some (Jvm.ClassFile.FieldType.array Jvm.ClassFile.FieldType.byte)), Jvm.Cond.code ({ cls := "java/util/Arrays", name := "checkLength", desc := "(II)V" } : Jvm.MethodName) jdk_65_method_131_code (2 : Nat) (Option.none : Option Jvm.ClassFile.FieldType), Jvm.Cond.code ({ cls := "com/example/hearsay_rules/hearsayrules/InvalidJsonException", name := "<init>", desc := "(Ljava/lang/String;)V" } : Jvm.MethodName) prog_16_method_1_code (2 : Nat) (Option.none : Option Jvm.ClassFile.FieldType), Jvm.Cond.code ({ cls := "java/lang/Exception", name := "<init>", desc := "(Ljava/lang/String;)V" } : Jvm.MethodName) jdk_59_method_2_code (2 : Nat) (Option.none : Option Jvm.ClassFile.FieldType), Jvm.Cond.code ({ cls := "java/lang/Throwable", name := "<init>", desc := "(Ljava/lang/String;)V" } : Jvm.MethodName) jdk_78_method_2_code (2 : Nat) (Option.none : Option Jvm.ClassFile.FieldType), Jvm.Cond.code ({ cls := "java/lang/Throwable", name := "<init>", desc := "()V" } : Jvm.MethodName) jdk_78_method_1_code (1 : Nat) (Option.none : Option Jvm.ClassFile.FieldType), Jvm.Cond.code ({ cls := "java/lang/Throwable", name := "getMessage", desc := "()Ljava/lang/String;" } : Jvm.MethodName) jdk_78_method_6_code (1 : Nat) (Option.some (Jvm.ClassFile.FieldType.object "java/lang/String")), Jvm.Cond.code ({ cls := "com/example/hearsay_rules/hearsayrules/InvalidJsonExceptionAtPinLaw", name := "digits", desc := "(I)I" } : Jvm.MethodName) method_3_code (1 : Nat) (Option.some Jvm.ClassFile.FieldType.int), Jvm.Cond.code ({ cls := "com/example/hearsay_rules/hearsayrules/InvalidJsonExceptionAtPinLaw", name := "lit", desc := "(Ljava/lang/String;ILjava/lang/String;)Z" } : Jvm.MethodName) method_6_code (3 : Nat) (Option.some Jvm.ClassFile.FieldType.boolean), Jvm.Cond.code ({ cls := "com/example/hearsay_rules/hearsayrules/InvalidJsonExceptionAtPinLaw", name := "ch", desc := "(Ljava/lang/String;ILjava/lang/String;I)Z" } : Jvm.MethodName) method_5_code (4 : Nat) (Option.some Jvm.ClassFile.FieldType.boolean), Jvm.Cond.code ({ cls := "java/lang/String", name := "charAt", desc := "(I)C" } : Jvm.MethodName) jdk_42_method_56_code (2 : Nat) (Option.some Jvm.ClassFile.FieldType.char), Jvm.Cond.code ({ cls := "java/lang/String", name := "isLatin1", desc := "()Z" } : Jvm.MethodName) jdk_42_method_154_code (1 : Nat) (Option.some Jvm.ClassFile.FieldType.boolean), Jvm.Cond.code ({ cls := "java/lang/StringLatin1", name := "charAt", desc := "([BI)C" } : Jvm.MethodName) jdk_43_method_2_code (2 : Nat) (Option.some Jvm.ClassFile.FieldType.char), Jvm.Cond.code ({ cls := "java/lang/String", name := "checkIndex", desc := "(II)V" } : Jvm.MethodName) jdk_42_method_155_code (2 : Nat) (Option.none : Option Jvm.ClassFile.FieldType), Jvm.Cond.code ({ cls := "jdk/internal/util/Preconditions", name := "checkIndex", desc := "(IILjava/util/function/BiFunction;)I" } : Jvm.MethodName) jdk_41_method_11_code (3 : Nat) (Option.some Jvm.ClassFile.FieldType.int), Jvm.Cond.code ({ cls := "com/example/hearsay_rules/hearsayrules/InvalidJsonExceptionAtPinLaw", name := "num", desc := "(Ljava/lang/String;III)Z" } : Jvm.MethodName) method_8_code (4 : Nat) (Option.some Jvm.ClassFile.FieldType.boolean), Jvm.Cond.code ({ cls := "com/example/hearsay_rules/hearsayrules/InvalidJsonExceptionAtPinLaw", name := "dig", desc := "(Ljava/lang/String;IIII)Z" } : Jvm.MethodName) method_7_code (6 : Nat) (Option.some Jvm.ClassFile.FieldType.boolean), Jvm.Cond.code ({ cls := "com/example/hearsay_rules/hearsayrules/InvalidJsonExceptionAtPinLaw", name := "pow10", desc := "(I)J" } : Jvm.MethodName) method_4_code (2 : Nat) (Option.some Jvm.ClassFile.FieldType.long), Jvm.Cond.code ({ cls := "java/lang/String", name := "valueOf", desc := "(C)Ljava/lang/String;" } : Jvm.MethodName) jdk_42_method_139_code (1 : Nat) (Option.some (Jvm.ClassFile.FieldType.object "java/lang/String")), Jvm.Cond.code ({ cls := "java/lang/StringLatin1", name := "canEncode", desc := "(C)Z" } : Jvm.MethodName) jdk_43_method_3_code (1 : Nat) (Option.some Jvm.ClassFile.FieldType.boolean), Jvm.Cond.code ({ cls := "java/lang/StringLatin1", name := "toBytes", desc := "(C)[B" } : Jvm.MethodName) jdk_43_method_46_code (1 : Nat) (Option.some (Jvm.ClassFile.FieldType.array Jvm.ClassFile.FieldType.byte)), Jvm.Cond.code ({ cls := "java/lang/String", name := "<init>", desc := "([BB)V" } : Jvm.MethodName) jdk_42_method_151_code (3 : Nat) (Option.none : Option Jvm.ClassFile.FieldType)]
set_option maxRecDepth 65536 in
theorem codes_eq : words1.filter isCode = codes1 := rfl
theorem w_codes : ∀ c ∈ words1.filter isCode, c.before args0 about1 = true := by
  rw [codes_eq]
  intro c hc
  simp only [codes1, List.mem_cons, List.not_mem_nil, or_false] at hc
  rcases hc with rfl | rfl | rfl | rfl | rfl | rfl | rfl | rfl | rfl | rfl | rfl | rfl | rfl | rfl | rfl | rfl | rfl | rfl | rfl | rfl | rfl | rfl | rfl | rfl | rfl | rfl | rfl | rfl | rfl | rfl | rfl | rfl | rfl | rfl | rfl | rfl | rfl | rfl | rfl | rfl | rfl | rfl | rfl | rfl | rfl | rfl | rfl | rfl | rfl | rfl | rfl | rfl | rfl | rfl | rfl | rfl | rfl
  · exact w_c0
  · exact w_c1
  · exact w_c2
  · exact w_c3
  · exact w_c4
  · exact w_c5
  · exact w_c6
  · exact w_c7
  · exact w_c8
  · exact w_c9
  · exact w_c10
  · exact w_c11
  · exact w_c12
  · exact w_c13
  · exact w_c14
  · exact w_c15
  · exact w_c16
  · exact w_c17
  · exact w_c18
  · exact w_c19
  · exact w_c20
  · exact w_c21
  · exact w_c22
  · exact w_c23
  · exact w_c24
  · exact w_c25
  · exact w_c26
  · exact w_c27
  · exact w_c28
  · exact w_c29
  · exact w_c30
  · exact w_c31
  · exact w_c32
  · exact w_c33
  · exact w_c34
  · exact w_c35
  · exact w_c36
  · exact w_c37
  · exact w_c38
  · exact w_c39
  · exact w_c40
  · exact w_c41
  · exact w_c42
  · exact w_c43
  · exact w_c44
  · exact w_c45
  · exact w_c46
  · exact w_c47
  · exact w_c48
  · exact w_c49
  · exact w_c50
  · exact w_c51
  · exact w_c52
  · exact w_c53
  · exact w_c54
  · exact w_c55
  · exact w_c56
set_option maxRecDepth 65536 in
theorem w_t1 : (words1.take 24).all (fun c => isCode c || c.before args0 about1) = true := by decide +kernel
set_option maxRecDepth 65536 in
theorem w_t2 : ((words1.drop 24).take 24).all (fun c => isCode c || c.before args0 about1) = true := by decide +kernel
set_option maxRecDepth 65536 in
theorem w_t3 : (((words1.drop 24).drop 24).take 24).all (fun c => isCode c || c.before args0 about1) = true := by decide +kernel
set_option maxRecDepth 65536 in
theorem w_t4 : ((((words1.drop 24).drop 24).drop 24).take 24).all (fun c => isCode c || c.before args0 about1) = true := by decide +kernel
set_option maxRecDepth 65536 in
theorem w_t5 : (((((words1.drop 24).drop 24).drop 24).drop 24).take 24).all (fun c => isCode c || c.before args0 about1) = true := by decide +kernel
set_option maxRecDepth 65536 in
theorem w_t6 : ((((((words1.drop 24).drop 24).drop 24).drop 24).drop 24).take 24).all (fun c => isCode c || c.before args0 about1) = true := by decide +kernel
set_option maxRecDepth 65536 in
theorem w_t7 : (((((((words1.drop 24).drop 24).drop 24).drop 24).drop 24).drop 24).take 24).all (fun c => isCode c || c.before args0 about1) = true := by decide +kernel
set_option maxRecDepth 65536 in
theorem w_t8 : ((((((((words1.drop 24).drop 24).drop 24).drop 24).drop 24).drop 24).drop 24).take 24).all (fun c => isCode c || c.before args0 about1) = true := by decide +kernel
set_option maxRecDepth 65536 in
theorem w_t9 : (((((((((words1.drop 24).drop 24).drop 24).drop 24).drop 24).drop 24).drop 24).drop 24).take 24).all (fun c => isCode c || c.before args0 about1) = true := by decide +kernel
set_option maxRecDepth 65536 in
theorem w_t10 : ((((((((((words1.drop 24).drop 24).drop 24).drop 24).drop 24).drop 24).drop 24).drop 24).drop 24).take 24).all (fun c => isCode c || c.before args0 about1) = true := by decide +kernel
set_option maxRecDepth 65536 in
theorem w_t11 : (((((((((((words1.drop 24).drop 24).drop 24).drop 24).drop 24).drop 24).drop 24).drop 24).drop 24).drop 24).take 24).all (fun c => isCode c || c.before args0 about1) = true := by decide +kernel
set_option maxRecDepth 65536 in
theorem w_t12 : ((((((((((((words1.drop 24).drop 24).drop 24).drop 24).drop 24).drop 24).drop 24).drop 24).drop 24).drop 24).drop 24).take 24).all (fun c => isCode c || c.before args0 about1) = true := by decide +kernel
set_option maxRecDepth 65536 in
theorem w_t13 : (((((((((((((words1.drop 24).drop 24).drop 24).drop 24).drop 24).drop 24).drop 24).drop 24).drop 24).drop 24).drop 24).drop 24).take 24).all (fun c => isCode c || c.before args0 about1) = true := by decide +kernel
set_option maxRecDepth 65536 in
theorem w_t14 : (((((((((((((words1.drop 24).drop 24).drop 24).drop 24).drop 24).drop 24).drop 24).drop 24).drop 24).drop 24).drop 24).drop 24).drop 24).all (fun c => isCode c || c.before args0 about1) = true := by decide +kernel
theorem w_tables : (allAtoms (Jvm.Cond.code x code maxLocals ret :: tables_1)).before args0 about1 = true := by
  rw [allAtoms_all]
  show words1.all (fun c => c.before args0 about1) = true
  refine all_split ?_ w_codes
  rw [← List.take_append_drop 24 words1, List.all_append, w_t1, ← List.take_append_drop 24 (words1.drop 24), List.all_append, w_t2, ← List.take_append_drop 24 ((words1.drop 24).drop 24), List.all_append, w_t3, ← List.take_append_drop 24 (((words1.drop 24).drop 24).drop 24), List.all_append, w_t4, ← List.take_append_drop 24 ((((words1.drop 24).drop 24).drop 24).drop 24), List.all_append, w_t5, ← List.take_append_drop 24 (((((words1.drop 24).drop 24).drop 24).drop 24).drop 24), List.all_append, w_t6, ← List.take_append_drop 24 ((((((words1.drop 24).drop 24).drop 24).drop 24).drop 24).drop 24), List.all_append, w_t7, ← List.take_append_drop 24 (((((((words1.drop 24).drop 24).drop 24).drop 24).drop 24).drop 24).drop 24), List.all_append, w_t8, ← List.take_append_drop 24 ((((((((words1.drop 24).drop 24).drop 24).drop 24).drop 24).drop 24).drop 24).drop 24), List.all_append, w_t9, ← List.take_append_drop 24 (((((((((words1.drop 24).drop 24).drop 24).drop 24).drop 24).drop 24).drop 24).drop 24).drop 24), List.all_append, w_t10, ← List.take_append_drop 24 ((((((((((words1.drop 24).drop 24).drop 24).drop 24).drop 24).drop 24).drop 24).drop 24).drop 24).drop 24), List.all_append, w_t11, ← List.take_append_drop 24 (((((((((((words1.drop 24).drop 24).drop 24).drop 24).drop 24).drop 24).drop 24).drop 24).drop 24).drop 24).drop 24), List.all_append, w_t12, ← List.take_append_drop 24 ((((((((((((words1.drop 24).drop 24).drop 24).drop 24).drop 24).drop 24).drop 24).drop 24).drop 24).drop 24).drop 24).drop 24), List.all_append, w_t13, w_t14]
  rfl
set_option maxRecDepth 65536 in
theorem w_rest : rest_1_c.before args0 about1 = true := by decide +kernel
set_option maxRecDepth 65536 in
theorem w_case : (Jvm.Cond.and given_1 narrow_1).before args0 about1 = true := by decide +kernel
set_option maxRecDepth 65536 in
theorem w_consts : constsHeld consts_1 about1 := Jvm.Lit.constsHeldB_iff.mp (by decide +kernel)
theorem w_applies : (headSpec (Jvm.Cond.code x code maxLocals ret :: tables_1) room_1).applies x e0.platform about1 = true :=
  (Spec.applies_iff w_frames).mpr ⟨w_running, w_runnable, w_alone, w_named, w_hears, w_ripe, w_room, w_tables⟩
theorem atStart : AtStart classFile x code maxLocals ret World_1 tables_1 room_1 Calls_1 rest_1 Pre_1 launch0 p0 e0 about1 theMethod args0 below0 :=
  ⟨lists_1, trivial, launch0.admits_env _ _ _, launch0.least_env, fairChoices_fair.cas, fairChoices_fair.clock, w_frames, w_args, w_heap, w_applies, ⟨(by decide +kernel : framesKnown about1 = true), ⟨(by decide +kernel : tablesKnown about1 = true), ⟨w_consts, trivial⟩⟩⟩, w_rest, w_case⟩
end start1
theorem witness_1 : WitnessClaimed_1 := ⟨start1.p0, start1.e0, start1.about1, start1.theMethod, start1.args0, start1.below0, start1.atStart⟩
end Jvm.Pilot.@@N@@
