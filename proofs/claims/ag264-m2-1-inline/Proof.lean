import JvmDerived
import JvmDerived.Pilot.@@N@@Statement
import JvmDerived.Pilot.@@N@@Code
set_option linter.unusedVariables false
set_option linter.unusedSimpArgs false
namespace Jvm.Pilot.@@N@@
open Jvm Jvm.ClassFile Sem Op Lib Jvm.Free Jvm.Stand Jvm.LawKit Jvm.RoadKit Bundle Jvm.Pilot.@@N@@.Jvm.D

/-- the run that stands at T with the top frame f ends, and its end is as P says -/
def Go (p : Program) (e : Env) (below : List Frame) (P : Outcome → State → Prop) (T : State) (f : JFrame) : Prop :=
  ∃ s₂ o, Steps p.tables e below (T.setTop f) s₂ ∧ s₂.status = .running ∧ Ended s₂ below o ∧ P o s₂
theorem Go.st {p : Program} {e : Env} {below : List Frame} {P : Outcome → State → Prop} {T T' : State} {f f' : JFrame}
    (h : ∀ t, Steps p.tables e below (T'.setTop f') t → Steps p.tables e below (T.setTop f) t) (k : Go p e below P T' f') : Go p e below P T f := by
  obtain ⟨s₂, o, a, b⟩ := k
  exact ⟨s₂, o, h _ a, b⟩
theorem Go.tr {p : Program} {e : Env} {below : List Frame} {P : Outcome → State → Prop} {T T' : State} {f f' : JFrame}
    (h : Steps p.tables e below (T.setTop f) (T'.setTop f')) (k : Go p e below P T' f') : Go p e below P T f := by
  obtain ⟨s₂, o, a, b⟩ := k
  exact ⟨s₂, o, h.trans a, b⟩
/-- what a contract says of the end -/
abbrev Done (s : State) (Q : Option Value → Heap → List Loc → Prop) (C S : Nat) (o : Outcome) (U' : State) : Prop :=
  ∃ v L, o = .returned v ∧ Q v U'.heap L ∧ FrameEnd s o U' L C S
theorem Go.ret {p : Program} {l : Launch} {e : Env} {R : Room} {s : State} {m : MethodId} {args : Array Value} {below : List Frame} {meth : Method} {c : Code} {T : State} {locs : List Loc} {cells slots : Nat} {h : Heap}
    {Q : Option Value → Heap → List Loc → Prop} {C S : Nat} {v : Option Value} {f : JFrame}
    (X : Stand p l e R s m args below meth c T locs cells slots) (hlk : meth.locks = false) (hv : meth.sig.returnType = none → v = none)
    (hs : ∀ fs, (∀ (f : JFrame) (acts : List Action), f.method = m → f.locked = none → f.entered = [] → (doReturn e (T.setTop f) acts v).1 = T.setFrames fs) → Steps p.tables e below (T.setTop f) (T.setFrames fs))
    (eT : T.heap = h) (hQ : Q v h locs) (hc : cells ≤ C) (hl : slots ≤ S) : Go p e below (Done s Q C S) T f := by
  obtain ⟨fs, hr, hrun, hended, hW, hsame⟩ := X.leave (v := v) hv hlk
  refine ⟨_, _, hs fs hr, hrun, hended, v, locs, rfl, ?_, ⟨_, rfl⟩, hW, hsame.mono hc hl⟩
  show Q v T.heap locs
  rw [eT]; exact hQ
theorem Go.retB {p : Program} {l : Launch} {e : Env} {R : Room} {s : State} {m : MethodId} {args : Array Value} {below : List Frame} {meth : Method} {c : Code} {T : State} {locs : List Loc} {cells slots : Nat} {h : Heap}
    {Q : Option Value → Heap → List Loc → Prop} {C S : Nat} {pc : Nat} {Ls : Array Slot} {z : Int32} {rest : List Value} {t : FieldType}
    (X : Stand p l e R s m args below meth c T locs cells slots) (hlk : meth.locks = false) (hx : p.tables.exec = Jvm.exec) (hret : meth.sig.returnType = some t) (ht : t = .boolean ∨ t = .byte ∨ t = .char ∨ t = .short)
    (hd : decode c.code pc = .ok (.ireturn, 1)) (eT : T.heap = h) (hQ : Q (some (.int (nar t z))) h locs) (hc : cells ≤ C) (hl : slots ≤ S) : Go p e below (Done s Q C S) T (mkF m pc Ls (.int z :: rest)) :=
  Go.ret X hlk (fun h => by rw [hret] at h; cases h) (fun _ hr => retN X hx hret ht hd hr) eT hQ hc hl
theorem Go.retV {p : Program} {l : Launch} {e : Env} {R : Room} {s : State} {m : MethodId} {args : Array Value} {below : List Frame} {meth : Method} {c : Code} {T : State} {locs : List Loc} {cells slots : Nat} {h : Heap}
    {Q : Option Value → Heap → List Loc → Prop} {C S : Nat} {pc : Nat} {Ls : Array Slot} {w : Value} {rest : List Value} {t : FieldType} {i : Instr}
    (X : Stand p l e R s m args below meth c T locs cells slots) (hlk : meth.locks = false) (hx : p.tables.exec = Jvm.exec) (hret : meth.sig.returnType = some t) (hn : narrow t w = w)
    (hi : (i = .ireturn ∧ (t = .int ∨ t = .boolean ∨ t = .byte ∨ t = .char ∨ t = .short) ∧ ∃ z, w = .int z) ∨ (i = .lreturn ∧ t = .long ∧ ∃ z, w = .long z) ∨ (i = .dreturn ∧ t = .double ∧ ∃ z, w = .double z) ∨ (i = .freturn ∧ t = .float ∧ ∃ z, w = .float z) ∨ (i = .areturn ∧ t.isReference = true ∧ w.isRef = true))
    (hd : decode c.code pc = .ok (i, 1)) (eT : T.heap = h) (hQ : Q (some w) h locs) (hc : cells ≤ C) (hl : slots ≤ S) : Go p e below (Done s Q C S) T (mkF m pc Ls (w :: rest)) :=
  Go.ret X hlk (fun h => by rw [hret] at h; cases h) (fun _ hr => retOut X hx hret hn hi hd hr) eT hQ hc hl
theorem Go.ret0 {p : Program} {l : Launch} {e : Env} {R : Room} {s : State} {m : MethodId} {args : Array Value} {below : List Frame} {meth : Method} {c : Code} {T : State} {locs : List Loc} {cells slots : Nat} {h : Heap}
    {Q : Option Value → Heap → List Loc → Prop} {C S : Nat} {pc : Nat} {Ls : Array Slot}
    (X : Stand p l e R s m args below meth c T locs cells slots) (hlk : meth.locks = false) (hx : p.tables.exec = Jvm.exec) (hret : meth.sig.returnType = none)
    (hd : decode c.code pc = .ok (.return_, 1)) (eT : T.heap = h) (hQ : Q none h locs) (hc : cells ≤ C) (hl : slots ≤ S) : Go p e below (Done s Q C S) T (mkF m pc Ls []) :=
  Go.ret X hlk (fun _ => rfl) (fun _ hr => X.returnOut hx hret hd hr) eT hQ hc hl
/-- an entry that stands resolved stays so, also where String constants are loaded -/
theorem own_fieldRef {Z : State} {vm1 : Vm} {a0 : Array Value} {own O n d : String} {index : Nat} (hW : Z.Warmed39 vm1) (w : (Cond.fieldRef own index O n d).before a0 Z = true) : (Cond.fieldRef own index O n d).before a0 (Z.setVm vm1) = true := by
  simp only [Cond.before, Cond.holds, Cond.value, State.vm_setVm, hW.alike.findClass, State.names_setVm hW.alike] at w ⊢
  cases q1 : Z.vm.findClass own with
  | none => rw [q1] at w; simp at w
  | some cO =>
    cases q2 : Z.fieldFound? O n d with
    | none => rw [q1, q2] at w; simp at w
    | some z =>
      obtain ⟨c1, k1, i1, f1⟩ := z
      obtain ⟨k2, q3, -⟩ := State.fieldFound?_setVm hW.alike q2
      rw [q1, q2] at w
      rw [q3]
      cases q4 : Z.resolvedAt? own index with
      | none => rw [q4] at w; simp at w
      | some r => rw [State.resolvedAt?_warmed39 hW q4]; rw [q4] at w; exact w
/-- getfield through an entry that stands resolved at the start (the word fieldRef) -/
theorem own_getR {p : Program} {l : Launch} {e : Env} {R : Room} {s : State} {m : MethodId} {args : Array Value} {below : List Frame} {meth : Method} {c : Code} {T : State} {locs : List Loc} {cells slots : Nat} {Z : State} {a0 : Array Value} {h : Heap}
    (X : Stand p l e R s m args below meth c T locs cells slots) (hx : p.tables.exec = Jvm.exec) (hZ : Z.Warmed39 s.vm) {own O n d : String} {index : Nat} (hown : s.vm.findClass own = some m.cls) (w : (Cond.fieldRef own index O n d).before a0 Z = true)
    (eT : T.heap = h) {a : Addr} {v : Value} (F : Fld Z h a O n d v) {g : JFrame} (hg : g.method = m) {rest : List Value} (hs : g.stack = .ref a :: rest) (hd : decode c.code g.pc = .ok (.getfield index, 3)) :
    ∃ T', Stand p l e R s m args below meth c T' locs cells slots ∧ T'.heap = h ∧ ∀ target, Steps p.tables e below (T'.setTop { g with pc := g.pc + 3, stack := v :: rest }) target → Steps p.tables e below (T.setTop g) target := by
  obtain ⟨cell, cf, k, i, f, h1, h2, h3, h4, -, -, h7⟩ := F
  have w1 : (Cond.fieldRef own index O n d).before args s = true := (own_fieldRef hZ w : (Cond.fieldRef own index O n d).before a0 (Z.setVm s.vm) = true)
  have w2 := Cond.fieldRef_warmed X.warmed w1
  obtain ⟨k1, r1, -⟩ := State.fieldFound?_setVm (s := Z) hZ.alike h2
  obtain ⟨k2, r2, -⟩ := State.fieldFound?_setVm (s := s) X.warmed.alike (show s.fieldFound? O n d = _ from r1)
  obtain ⟨c', k', i', f', q1, q2⟩ := Cond.fieldRef_spec (s := s.setVm T.vm) (cur := m.cls) (by rw [State.vm_setVm, X.warmed.alike.findClass]; exact hown) w2
  cases q1.symm.trans r2
  exact ⟨T, X, eT, fun target k => (X.getfieldR hx hg q2 h3 hs (by rw [eT]; exact h1) h4 h7 hd (Steps.refl _)).trans k⟩
/-- the form of every contract here -/
def Con (l : Launch) (Z : State) (y : MethodName) (bytes : ByteArray) (ml : Nat) (ret : Option FieldType) (ws : List Jvm.Cond) (room : Room) (A : Array Value) (h0 : Heap) (Q : Option Value → Heap → List Loc → Prop) : Prop :=
  MetFree l y (head1 (Jvm.Cond.code y bytes ml ret :: ws) room) (fun a U => a = A ∧ Z.Warmed39 U.vm ∧ U.heap = h0) (fun _ _ _ _ _ => True) (fun _ U o U' => ∃ v L, o = .returned v ∧ Q v U'.heap L ∧ FrameEnd U o U' L room.cells room.slots)
theorem own_body {l : Launch} {Z : State} {y : MethodName} {bytes : ByteArray} {ml : Nat} {ret : Option FieldType} {ws : List Jvm.Cond} {room : Room} {A : Array Value} {h0 : Heap} {Q : Option Value → Heap → List Loc → Prop} (hpn : plainFor y = true)
    (body : ∀ (p : Program) (e : Env) (s : State) (m : MethodId) (below : List Frame) (meth : Method) (c : Code) (s₁ : State), p.tables.exec = Jvm.exec → c.code = bytes → c.maxLocals = ml → Z.Warmed39 s.vm → s.vm.findClass y.cls = some m.cls → meth.name = y.name → meth.locks = false → meth.sig.returnType = ret →
      Stand p l e room s m A below meth c s₁ [] 0 0 → s₁.heap = h0 → Go p e below (Done s Q room.cells room.slots) s₁ (entryFrame m A ml)) : Con l Z y bytes ml ret ws room A h0 Q := by
  refine MetFree.of_bodySF hpn hisR ?_
  intro p e s m args below meth c s₁ Bd hml0 hP hK
  obtain ⟨rfl, hZ, hh⟩ := hP
  exact body p e s m below meth c s₁ Bd.exec Bd.bytes hml0 hZ (findClass_of_methodNamed Bd.named) (name_of_methodNamed Bd.named Bd.method).1 Bd.notSynchronized Bd.returns (Stand.of_body Bd) (by rw [← hh, Bd.state]; rfl)
theorem own_back {l : Launch} {R : Room} {p : Program} {e : Env} {below : List Frame} {s Z : State} {args a0 : Array Value} {h : Heap} {y : MethodName} {bytes : ByteArray} {maxL : Nat} {ret : Option FieldType} {rm : Room} {len W : Nat} {as' : Array Value} {Q : Option Value → Heap → List Loc → Prop}
    (hM : Con l Z y bytes maxL ret [] rm as' h Q) (hZ : Z.Warmed39 s.vm) (wc : (Cond.code y bytes maxL ret).before a0 Z = true) (wz : (Cond.initialized y.cls).before a0 Z = true) (hf : rm.frames + 1 ≤ R.frames) (hl : W + (maxL + 11) + rm.locals ≤ R.locals) :
    Back l R p e below s args y len W (fun A a => a = as' ∧ A.U.heap = h ∧ A.cells + rm.cells ≤ R.cells ∧ A.slots + rm.slots ≤ R.slots)
      (fun A _ v B => ∃ L, Q v B.U.heap L ∧ B.locs = A.locs ++ L ∧ B.cells = A.cells + rm.cells ∧ B.slots = A.slots + rm.slots) := backOf (Q := Q) hM hZ wc wz hf hl
theorem Con.weaken {l : Launch} {Z : State} {y : MethodName} {bytes : ByteArray} {ml : Nat} {ret : Option FieldType} {ws : List Jvm.Cond} {room : Room} {A : Array Value} {h0 : Heap} {Q Q' : Option Value → Heap → List Loc → Prop} (h : Con l Z y bytes ml ret ws room A h0 Q) (hq : ∀ v h L, Q v h L → Q' v h L) : Con l Z y bytes ml ret ws room A h0 Q' := fun p e h1 h2 h3 s m args below hf happ hP hK => by
  obtain ⟨n, o, a, b, c, v, L, d, e, f⟩ := h p e h1 h2 h3 s m args below hf happ hP hK
  exact ⟨n, o, a, b, c, v, L, d, hq _ _ _ e, f⟩
theorem own_cat {v : Value} (h : v.isRef = true) : v.category = 1 := by cases v <;> first | rfl | (simp [Value.isRef] at h)
theorem acYes {c : ClassFile.ACond} {x y : Value} (h : x = y) : acV c (decide (x = y)) = acV c true := by rw [decide_eq_true h]

theorem own_weaken {l : Launch} {x : MethodName} {S : Spec} {P : Array Value → State → Prop} {K : Program → Env → List Frame → State → Array Value → Prop} {Q Q' : Array Value → State → Outcome → State → Prop} (h : MetFree l x S P K Q) (hq : ∀ a s o t, Q a s o t → Q' a s o t) : MetFree l x S P K Q' := fun p e h1 h2 h3 s m args below hf happ hP hK => by
  obtain ⟨n, o, a, b, c, d⟩ := h p e h1 h2 h3 s m args below hf happ hP hK
  exact ⟨n, o, a, b, c, hq _ _ _ _ d⟩
section Start
variable {args : Array Value} {first s : State} {o : Option Outcome} {idx : List Nat} {t u : Term}
theorem own_eq_int {k : Int32} (h : (Jvm.Cond.eq t (.int k)).value args first o s idx = some true) : t.eval args first o idx s = some (.int k) := by
  simp only [Cond.value, Term.eval] at h
  cases ht : t.eval args first o idx s with
  | none => simp [ht] at h
  | some x => cases x <;> simp [ht] at h ⊢ <;> exact h
theorem own_eq_ref {a : Addr} (h : (Jvm.Cond.eq t u).value args first o s idx = some true) (hu : u.eval args first o idx s = some (.ref a)) : t.eval args first o idx s = some (.ref a) := by
  simp only [Cond.value] at h
  rw [hu] at h
  cases ht : t.eval args first o idx s with
  | none => simp [ht] at h
  | some x => cases x <;> simp [ht] at h ⊢ <;> exact h
theorem own_len {a : Addr} {cl : Cell} {z : Int32} (h : (Term.length t).eval args first o idx s = some (.int z)) (ht : t.eval args first o idx s = some (.ref a)) (hc : s.heap[a]? = some cl) : cl.slots.size < 2 ^ 31 ∧ cl.slots.size.toInt32 = z := by
  obtain ⟨a', cell, e1, e2, e3⟩ := Term.length_spec h
  cases ht.symm.trans e1
  have e4 := (State.arrayAt?_spec e2).1
  cases hc.symm.trans e4
  refine ⟨?_, (Value.int.inj e3).symm⟩
  by_cases hn : cl.slots.size < 2147483648
  · exact hn
  · simp only [Term.eval, Option.bind_eq_bind, ht, Option.bind_some, e2] at h
    rw [if_neg hn] at h; cases h
theorem own_ne_int {z : Int32} (h : (Jvm.Cond.not (Jvm.Cond.eq t (.int 0))).value args first o s idx = some true) (ht : t.eval args first o idx s = some (.int z)) : ¬ z = 0 := by
  have h1 := not_v h
  intro e
  subst e
  simp [Cond.value, Term.eval, ht] at h1
theorem own_fld {a : Addr} {C n d : String} {k : Int32} (h : (Jvm.Cond.eq (Term.field t C n d) (.int k)).value args s none s [] = some true) (ht : t.eval args s none [] s = some (.ref a)) : Fld s s.heap a C n d (.int k) :=
  Fld.start (by rw [← fld_at ht]; exact own_eq_int h)
theorem own_elem {a : Addr} {cl : Cell} {w : Addr} {j : Int32} {i : Nat} (h : (Jvm.Cond.eq (Term.elem t (.int j)) u).value args s none s [] = some true) (hu : u.eval args s none [] s = some (.ref w)) (ht : t.eval args s none [] s = some (.ref a)) (hc : s.heap[a]? = some cl) (hj : j.toNatClampNeg = i) : cl.slots[i]? = some (.ref w) := by
  subst hj
  exact (elem_in (own_eq_ref h hu) ht rfl hc).2
theorem own_eleI {a : Addr} {cl : Cell} {k j : Int32} {i : Nat} (h : (Jvm.Cond.eq (Term.elem t (.int j)) (.int k)).value args s none s [] = some true) (ht : t.eval args s none [] s = some (.ref a)) (hc : s.heap[a]? = some cl) (hj : j.toNatClampNeg = i) : cl.slots[i]? = some (.int k) := by
  subst hj
  exact (elem_in (own_eq_int h) ht rfl hc).2
end Start

/-- what a contract says of the end, where String constants may have been loaded -/
abbrev DoneW (s Z : State) (EL : List (String × Nat)) (Q : Option Value → Heap → List Loc → Prop) (C S : Nat) (o : Outcome) (U' : State) : Prop :=
  ∃ v L, o = .returned v ∧ Q v U'.heap L ∧ CHr Z EL s.vm s.heap U'.vm U'.heap ∧ ReturnedEndW s o U' L C S
theorem GoW.ret {p : Program} {l : Launch} {e : Env} {R : Room} {s Z : State} {a0 : Array Value} {EL : List (String × Nat)} {vm1 : Vm} {m : MethodId} {args : Array Value} {below : List Frame} {meth : Method} {c : Code} {T : State} {locs : List Loc} {cells slots : Nat} {h h0 : Heap} {k0 : Nat}
    {Q : Option Value → Heap → List Loc → Prop} {C S : Nat} {v : Option Value} {f : JFrame}
    (X : Stand p l e R (s.setVm vm1) m args below meth c T locs cells slots) (hlk : meth.locks = false) (hv : meth.sig.returnType = none → v = none)
    (hs : ∀ fs, (∀ (f : JFrame) (acts : List Action), f.method = m → f.locked = none → f.entered = [] → (doReturn e (T.setTop f) acts v).1 = T.setFrames fs) → Steps p.tables e below (T.setTop f) (T.setFrames fs))
    (eT : T.heap = h) (hS : s.Since vm1 k0) (hk : k0 ≤ h.size) (hZ : Z.Warmed39 vm1) (hEL : EW Z a0 EL) (cr : CHr Z EL s.vm h0 vm1 h) (hh : s.heap = h0) (hQ : Q v h locs) (hc : cells ≤ C) (hl : slots ≤ S) : Go p e below (DoneW s Z EL Q C S) T f := by
  obtain ⟨fs, hr, hrun, hended, hW⟩ := X.leaveW hS (by rw [eT]; exact hk) (v := v) hv hlk
  have cr2 := cr.trans (CHv.at X hZ hEL cr.1)
  subst eT hh
  exact ⟨_, _, hs fs hr, hrun, hended, v, locs, rfl, hQ, cr2, hW.1, hW.2.1, hW.2.2.1, hW.2.2.2.mono hc hl⟩
theorem GoW.retB {p : Program} {l : Launch} {e : Env} {R : Room} {s Z : State} {a0 : Array Value} {EL : List (String × Nat)} {vm1 : Vm} {m : MethodId} {args : Array Value} {below : List Frame} {meth : Method} {c : Code} {T : State} {locs : List Loc} {cells slots : Nat} {h h0 : Heap} {k0 : Nat}
    {Q : Option Value → Heap → List Loc → Prop} {C S : Nat} {pc : Nat} {Ls : Array Slot} {z : Int32} {rest : List Value} {t : FieldType}
    (X : Stand p l e R (s.setVm vm1) m args below meth c T locs cells slots) (hlk : meth.locks = false) (hx : p.tables.exec = Jvm.exec) (hret : meth.sig.returnType = some t) (ht : t = .boolean ∨ t = .byte ∨ t = .char ∨ t = .short)
    (hd : decode c.code pc = .ok (.ireturn, 1)) (eT : T.heap = h) (hS : s.Since vm1 k0) (hk : k0 ≤ h.size) (hZ : Z.Warmed39 vm1) (hEL : EW Z a0 EL) (cr : CHr Z EL s.vm h0 vm1 h) (hh : s.heap = h0) (hQ : Q (some (.int (nar t z))) h locs) (hc : cells ≤ C) (hl : slots ≤ S) : Go p e below (DoneW s Z EL Q C S) T (mkF m pc Ls (.int z :: rest)) :=
  GoW.ret X hlk (fun h => by rw [hret] at h; cases h) (fun _ hr => retN X hx hret ht hd hr) eT hS hk hZ hEL cr hh hQ hc hl
theorem GoW.retV {p : Program} {l : Launch} {e : Env} {R : Room} {s Z : State} {a0 : Array Value} {EL : List (String × Nat)} {vm1 : Vm} {m : MethodId} {args : Array Value} {below : List Frame} {meth : Method} {c : Code} {T : State} {locs : List Loc} {cells slots : Nat} {h h0 : Heap} {k0 : Nat}
    {Q : Option Value → Heap → List Loc → Prop} {C S : Nat} {pc : Nat} {Ls : Array Slot} {w : Value} {rest : List Value} {t : FieldType} {i : Instr}
    (X : Stand p l e R (s.setVm vm1) m args below meth c T locs cells slots) (hlk : meth.locks = false) (hx : p.tables.exec = Jvm.exec) (hret : meth.sig.returnType = some t) (hn : narrow t w = w)
    (hi : (i = .ireturn ∧ (t = .int ∨ t = .boolean ∨ t = .byte ∨ t = .char ∨ t = .short) ∧ ∃ z, w = .int z) ∨ (i = .lreturn ∧ t = .long ∧ ∃ z, w = .long z) ∨ (i = .dreturn ∧ t = .double ∧ ∃ z, w = .double z) ∨ (i = .freturn ∧ t = .float ∧ ∃ z, w = .float z) ∨ (i = .areturn ∧ t.isReference = true ∧ w.isRef = true))
    (hd : decode c.code pc = .ok (i, 1)) (eT : T.heap = h) (hS : s.Since vm1 k0) (hk : k0 ≤ h.size) (hZ : Z.Warmed39 vm1) (hEL : EW Z a0 EL) (cr : CHr Z EL s.vm h0 vm1 h) (hh : s.heap = h0) (hQ : Q (some w) h locs) (hc : cells ≤ C) (hl : slots ≤ S) : Go p e below (DoneW s Z EL Q C S) T (mkF m pc Ls (w :: rest)) :=
  GoW.ret X hlk (fun h => by rw [hret] at h; cases h) (fun _ hr => retOut X hx hret hn hi hd hr) eT hS hk hZ hEL cr hh hQ hc hl
theorem GoW.ret0 {p : Program} {l : Launch} {e : Env} {R : Room} {s Z : State} {a0 : Array Value} {EL : List (String × Nat)} {vm1 : Vm} {m : MethodId} {args : Array Value} {below : List Frame} {meth : Method} {c : Code} {T : State} {locs : List Loc} {cells slots : Nat} {h h0 : Heap} {k0 : Nat}
    {Q : Option Value → Heap → List Loc → Prop} {C S : Nat} {pc : Nat} {Ls : Array Slot}
    (X : Stand p l e R (s.setVm vm1) m args below meth c T locs cells slots) (hlk : meth.locks = false) (hx : p.tables.exec = Jvm.exec) (hret : meth.sig.returnType = none)
    (hd : decode c.code pc = .ok (.return_, 1)) (eT : T.heap = h) (hS : s.Since vm1 k0) (hk : k0 ≤ h.size) (hZ : Z.Warmed39 vm1) (hEL : EW Z a0 EL) (cr : CHr Z EL s.vm h0 vm1 h) (hh : s.heap = h0) (hQ : Q none h locs) (hc : cells ≤ C) (hl : slots ≤ S) : Go p e below (DoneW s Z EL Q C S) T (mkF m pc Ls []) :=
  GoW.ret X hlk (fun _ => rfl) (fun _ hr => X.returnOut hx hret hd hr) eT hS hk hZ hEL cr hh hQ hc hl
/-- the form of a contract of a body that may load String constants -/
def ConW (l : Launch) (Z : State) (EL : List (String × Nat)) (y : MethodName) (bytes : ByteArray) (ml : Nat) (ret : Option FieldType) (ws : List Jvm.Cond) (room : Room) (A : Array Value) (h0 : Heap) (Q : Option Value → Heap → List Loc → Prop) : Prop :=
  MetFree l y (head1 (Jvm.Cond.code y bytes ml ret :: ws) room) (fun a U => a = A ∧ Z.Warmed39 U.vm ∧ U.heap = h0 ∧ CHv Z EL U.vm h0) (fun _ _ _ _ _ => True) (fun _ U o U' => ∃ v L, o = .returned v ∧ Q v U'.heap L ∧ CHr Z EL U.vm U.heap U'.vm U'.heap ∧ ReturnedEndW U o U' L room.cells room.slots)
theorem own_bodyW {l : Launch} {Z : State} {EL : List (String × Nat)} {y : MethodName} {bytes : ByteArray} {ml : Nat} {ret : Option FieldType} {ws : List Jvm.Cond} {room : Room} {A : Array Value} {h0 : Heap} {Q : Option Value → Heap → List Loc → Prop} (hpn : plainFor y = true)
    (body : ∀ (p : Program) (e : Env) (s : State) (m : MethodId) (below : List Frame) (meth : Method) (c : Code) (s₁ : State), p.tables.exec = Jvm.exec → c.code = bytes → c.maxLocals = ml → Z.Warmed39 s.vm → s.vm.findClass y.cls = some m.cls → meth.name = y.name → meth.locks = false → meth.sig.returnType = ret →
      Stand p l e room (s.setVm s.vm) m A below meth c s₁ [] 0 0 → s₁.heap = h0 → s.heap = h0 → s.Since s.vm 0 → CHr Z EL s.vm h0 s.vm h0 → Go p e below (DoneW s Z EL Q room.cells room.slots) s₁ (entryFrame m A ml)) : ConW l Z EL y bytes ml ret ws room A h0 Q := by
  refine MetFree.of_bodySF hpn hisR ?_
  intro p e s m args below meth c s₁ Bd hml0 hP hK
  obtain ⟨rfl, hZ, hh, hC⟩ := hP
  exact body p e s m below meth c s₁ Bd.exec Bd.bytes hml0 hZ (findClass_of_methodNamed Bd.named) (name_of_methodNamed Bd.named Bd.method).1 Bd.notSynchronized Bd.returns (Stand.of_body Bd) (by rw [← hh, Bd.state]; rfl) hh ((State.WarmedH.refl s).since 0) (CHr.refl hC)
theorem own_backW {l : Launch} {R : Room} {p : Program} {e : Env} {below : List Frame} {s Z : State} {args a0 : Array Value} {EL : List (String × Nat)} {vm0 : Vm} {h : Heap} {y : MethodName} {bytes : ByteArray} {maxL : Nat} {ret : Option FieldType} {rm : Room} {len W : Nat} {as' : Array Value} {Q : Option Value → Heap → List Loc → Prop}
    (hM : ConW l Z EL y bytes maxL ret [] rm as' h Q) (hZ : Z.Warmed39 vm0) (wc : (Cond.code y bytes maxL ret).before a0 Z = true) (wz : (Cond.initialized y.cls).before a0 Z = true) (hf : rm.frames + 1 ≤ R.frames) (hl : W + (maxL + 11) + rm.locals ≤ R.locals) (hEL : EW Z a0 EL) (H : CHv Z EL vm0 h) :
    BackS l R p e below (s.setVm vm0) args y len W (fun A a => a = as' ∧ A.U.heap = h ∧ A.cells + rm.cells ≤ R.cells ∧ A.slots + rm.slots ≤ R.slots)
      (fun A _ v B => ∃ L, Q v B.U.heap L ∧ B.locs = A.locs ++ L ∧ B.cells = A.cells + rm.cells ∧ B.slots = A.slots + rm.slots ∧ CHr Z EL vm0 h B.U.vm B.U.heap) := backOfSH (Q := Q) hM hZ wc wz hf hl hEL H
/-- a String whose value is not yet written is no literal's -/
theorem own_safe0 {Z : State} {EL : List (String × Nat)} {vm : Vm} {h : Heap} {x : Addr} (hal : Z.vm.Alike vm) (E : Exa Z h x "java/lang/String") (F : Fld Z h x "java/lang/String" "value" "[B" .null) : Safe Z EL vm h x := fun B => by
  obtain ⟨cell, k, e1, e2, e3, -, -⟩ := E
  obtain ⟨cell', cf, kf, i, f, f1, f2, f3, -, -, -, f7⟩ := F
  cases e1.symm.trans f1
  obtain ⟨p, -, u, a, -, q, -, G, rfl | rfl⟩ := B
  · cases (show h[q.sa]? = some q.sC from G.ha).symm.trans e1
    obtain ⟨cS, ⟨⟨s1, s2, s3, ⟨cv, kv, iv, s4, s4'⟩, r5, s6, s7, s8, -⟩, -, -⟩, -⟩ := G
    obtain ⟨kv', z4⟩ := ff_back (Z := Z) (U := Wst Z vm h) hal s4
    cases f2.symm.trans z4
    have := s8.symm.trans f7
    cases this
  · cases (show h[q.sd]? = some q.SA from G.hd).symm.trans e1
    obtain ⟨cS, -, -, fB, -⟩ := G
    have fB' : Z.vm.findClass "[B" = some q.SA.cls := by rw [← hal.findClass]; exact fB
    exact ids_ne e2 fB' (by decide) rfl

abbrev mq0 : MethodName := ⟨"java/lang/StringUTF16", "compress", "([CI[BII)I"⟩
abbrev mq1 : MethodName := ⟨"java/lang/StringUTF16", "compress", "([CII)[B"⟩
abbrev mq2 : MethodName := ⟨"java/lang/StringUTF16", "coderFromArrayLen", "([BI)B"⟩
abbrev mq3 : MethodName := ⟨"java/lang/String", "<init>", "([CIILjava/lang/Void;)V"⟩
abbrev mq4 : MethodName := ⟨"java/lang/String", "<init>", "([C)V"⟩
abbrev mq5 : MethodName := ⟨"java/lang/String", "coder", "()B"⟩
abbrev mq6 : MethodName := ⟨"java/lang/String", "isLatin1", "()Z"⟩
abbrev mq7 : MethodName := ⟨"java/lang/String", "length", "()I"⟩
abbrev mq8 : MethodName := ⟨"jdk/internal/util/Preconditions", "checkIndex", "(IILjava/util/function/BiFunction;)I"⟩
abbrev mq9 : MethodName := ⟨"java/lang/String", "checkIndex", "(II)V"⟩
abbrev mq10 : MethodName := ⟨"java/lang/StringLatin1", "charAt", "([BI)C"⟩
abbrev mq11 : MethodName := ⟨"java/lang/String", "charAt", "(I)C"⟩
abbrev mq12 : MethodName := ⟨"java/lang/Math", "max", "(II)I"⟩
abbrev mq13 : MethodName := ⟨"java/lang/Math", "min", "(II)I"⟩
abbrev mq14 : MethodName := ⟨"jdk/internal/util/ArraysSupport", "newLength", "(III)I"⟩
abbrev mq15 : MethodName := ⟨"java/lang/AbstractStringBuilder", "newCapacity", "(I)I"⟩
abbrev mq16 : MethodName := ⟨"java/util/Arrays", "copyOf", "([BI)[B"⟩
abbrev mq17 : MethodName := ⟨"java/lang/AbstractStringBuilder", "ensureCapacityInternal", "(I)V"⟩
abbrev mq18 : MethodName := ⟨"java/lang/AbstractStringBuilder", "inflateIfNeededFor", "(Ljava/lang/String;)V"⟩
abbrev mq19 : MethodName := ⟨"java/lang/AbstractStringBuilder", "isLatin1", "()Z"⟩
abbrev mq20 : MethodName := ⟨"java/lang/String", "getBytes", "([BIB)V"⟩
abbrev mq21 : MethodName := ⟨"java/lang/AbstractStringBuilder", "putStringAt", "(ILjava/lang/String;)V"⟩
abbrev mq22 : MethodName := ⟨"java/lang/AbstractStringBuilder", "append", "(Ljava/lang/String;)Ljava/lang/AbstractStringBuilder;"⟩
abbrev mq23 : MethodName := ⟨"java/lang/StringBuilder", "append", "(Ljava/lang/String;)Ljava/lang/StringBuilder;"⟩
abbrev mq24 : MethodName := ⟨"java/lang/AbstractStringBuilder", "appendNull", "()Ljava/lang/AbstractStringBuilder;"⟩
abbrev mq25 : MethodName := ⟨"java/lang/Integer", "stringSize", "(I)I"⟩
abbrev mq26 : MethodName := ⟨"java/lang/Integer", "getChars", "(II[B)I"⟩
abbrev mq27 : MethodName := ⟨"java/lang/AbstractStringBuilder", "append", "(I)Ljava/lang/AbstractStringBuilder;"⟩
abbrev mq28 : MethodName := ⟨"java/lang/StringBuilder", "append", "(I)Ljava/lang/StringBuilder;"⟩
abbrev mq29 : MethodName := ⟨"java/lang/AbstractStringBuilder", "<init>", "(I)V"⟩
abbrev mq30 : MethodName := ⟨"java/lang/StringBuilder", "<init>", "()V"⟩
abbrev mq31 : MethodName := ⟨"java/lang/AbstractStringBuilder", "getValue", "()[B"⟩
abbrev mq32 : MethodName := ⟨"java/lang/AbstractStringBuilder", "length", "()I"⟩
abbrev mq33 : MethodName := ⟨"java/lang/StringBuilder", "length", "()I"⟩
abbrev mq34 : MethodName := ⟨"java/util/Arrays", "checkLength", "(II)V"⟩
abbrev mq35 : MethodName := ⟨"java/util/Arrays", "copyOfRangeByte", "([BII)[B"⟩
abbrev mq36 : MethodName := ⟨"java/util/Arrays", "copyOfRange", "([BII)[B"⟩
abbrev mq37 : MethodName := ⟨"java/lang/String", "<init>", "(Ljava/lang/AbstractStringBuilder;Ljava/lang/Void;)V"⟩
abbrev mq38 : MethodName := ⟨"java/lang/String", "<init>", "(Ljava/lang/StringBuilder;)V"⟩
abbrev mq39 : MethodName := ⟨"java/lang/StringBuilder", "toString", "()Ljava/lang/String;"⟩
abbrev mq40 : MethodName := ⟨"java/lang/Math", "abs", "(J)J"⟩
abbrev mq41 : MethodName := ⟨"com/example/wirecall/wirecall/demo/UserToStringPinLaw", "digitCount", "(J)I"⟩
abbrev mq42 : MethodName := ⟨"com/example/wirecall/wirecall/demo/UserToStringPinLaw", "pow10", "(I)J"⟩
abbrev mq43 : MethodName := ⟨"com/example/wirecall/wirecall/demo/UserToStringPinLaw", "ch", "(Ljava/lang/String;IC)Z"⟩
abbrev mq44 : MethodName := ⟨"com/example/wirecall/wirecall/demo/UserToStringPinLaw", "digitOk", "(Ljava/lang/String;IJII)Z"⟩
abbrev mq45 : MethodName := ⟨"com/example/wirecall/wirecall/demo/User", "<init>", "()V"⟩
abbrev mq46 : MethodName := ⟨"com/example/wirecall/wirecall/demo/User", "<init>", "(ILjava/lang/String;)V"⟩
abbrev mq47 : MethodName := ⟨"com/example/wirecall/wirecall/demo/User", "toString", "()Ljava/lang/String;"⟩
theorem ww {a0 : Array Value} {Z : State} (hw : ∀ d ∈ tables_1, d.before a0 Z = true) (i : Nat) {d : Jvm.Cond} (h : tables_1[i]? = some d) : d.before a0 Z = true := hw d (List.mem_of_getElem? h)

section Cps
variable {p : Program} {l : Launch} {e : Env} {R : Room} {s : State} {m : MethodId} {args : Array Value} {below : List Frame} {meth : Method} {c : Code} {T T' : State} {locs : List Loc} {cells slots : Nat} {Z : State} {a0 : Array Value} {h : Heap} {P : Outcome → State → Prop} {pc : Nat} {Ls : Array Slot} {Ss rest : List Value}
theorem zst (q : Nat) (L' : Array Slot) (S' : List Value) (st : ∀ t, Steps p.tables e below (T'.setTop (mkF m q L' S')) t → Steps p.tables e below (T.setTop (mkF m pc Ls Ss)) t) (g : Go p e below P T' (mkF m q L' S')) : Go p e below P T (mkF m pc Ls Ss) := Go.st st g
theorem zan (q : Nat) (X : Stand p l e R s m args below meth c T locs cells slots) (hx : p.tables.exec = Jvm.exec) {k : Fin 4} {v : Value} (hd : decode c.code pc = .ok (.aload_n k, 1)) (hl : Ls[k.val]? = some (.val v)) (hv : v.isRef = true) (g : Go p e below P T (mkF m q Ls (v :: Ss))) (hq : pc + 1 = q := by rfl) : Go p e below P T (mkF m pc Ls Ss) := by
  subst hq; exact Go.st (fun _ => XS.aloadN X.here hx rfl hd hl hv) g
theorem zal (q : Nat) (X : Stand p l e R s m args below meth c T locs cells slots) (hx : p.tables.exec = Jvm.exec) {k : Nat} {v : Value} (hd : decode c.code pc = .ok (.aload k, 2)) (hl : Ls[k]? = some (.val v)) (hv : v.isRef = true) (g : Go p e below P T (mkF m q Ls (v :: Ss))) (hq : pc + 2 = q := by rfl) : Go p e below P T (mkF m pc Ls Ss) := by
  subst hq; exact Go.st (fun _ => XS.aload X.here hx rfl hd hl hv) g
theorem zin (q : Nat) (X : Stand p l e R s m args below meth c T locs cells slots) (hx : p.tables.exec = Jvm.exec) {k : Fin 4} {v : Int32} (hd : decode c.code pc = .ok (.iload_n k, 1)) (hl : Ls[k.val]? = some (.val (.int v))) (g : Go p e below P T (mkF m q Ls (.int v :: Ss))) (hq : pc + 1 = q := by rfl) : Go p e below P T (mkF m pc Ls Ss) := by
  subst hq; exact Go.st (fun _ => XS.iloadN X.here hx rfl hd hl) g
theorem zil (q : Nat) (X : Stand p l e R s m args below meth c T locs cells slots) (hx : p.tables.exec = Jvm.exec) {k : Nat} {v : Int32} (hd : decode c.code pc = .ok (.iload k, 2)) (hl : Ls[k]? = some (.val (.int v))) (g : Go p e below P T (mkF m q Ls (.int v :: Ss))) (hq : pc + 2 = q := by rfl) : Go p e below P T (mkF m pc Ls Ss) := by
  subst hq; exact Go.st (fun _ => XS.iload X.here hx rfl hd hl) g
theorem zic (q : Nat) (z : Int32) (X : Stand p l e R s m args below meth c T locs cells slots) (hx : p.tables.exec = Jvm.exec) {i : Int} (hd : decode c.code pc = .ok (.iconst i, 1)) (g : Go p e below P T (mkF m q Ls (.int z :: Ss))) (hz : Int32.ofInt i = z := by decide) (hq : pc + 1 = q := by rfl) : Go p e below P T (mkF m pc Ls Ss) := by
  subst hq hz; exact Go.st (fun _ => XS.iconst X.here hx rfl hd) g
theorem zbp (q : Nat) (z : Int32) (X : Stand p l e R s m args below meth c T locs cells slots) (hx : p.tables.exec = Jvm.exec) {i : Int} (hd : decode c.code pc = .ok (.bipush i, 2)) (g : Go p e below P T (mkF m q Ls (.int z :: Ss))) (hz : (Int8.ofInt i).toInt32 = z := by decide) (hq : pc + 2 = q := by rfl) : Go p e below P T (mkF m pc Ls Ss) := by
  subst hq hz; exact Go.st (fun _ => XS.bipush X.here hx rfl hd) g
theorem zad (q : Nat) (X : Stand p l e R s m args below meth c T locs cells slots) (hx : p.tables.exec = Jvm.exec) {x y : Int32} (hd : decode c.code pc = .ok (.iadd, 1)) (g : Go p e below P T (mkF m q Ls (.int (x + y) :: rest))) (hq : pc + 1 = q := by rfl) : Go p e below P T (mkF m pc Ls (.int y :: .int x :: rest)) := by
  subst hq; exact Go.st (fun _ => XS.iadd X.here hx rfl hd rfl) g
theorem zsb (q : Nat) (X : Stand p l e R s m args below meth c T locs cells slots) (hx : p.tables.exec = Jvm.exec) {x y : Int32} (hd : decode c.code pc = .ok (.isub, 1)) (g : Go p e below P T (mkF m q Ls (.int (x - y) :: rest))) (hq : pc + 1 = q := by rfl) : Go p e below P T (mkF m pc Ls (.int y :: .int x :: rest)) := by
  subst hq; exact Go.st (fun _ => XS.isub X.here hx rfl hd rfl) g
theorem zsn (q : Nat) (L' : Array Slot) (X : Stand p l e R s m args below meth c T locs cells slots) (hx : p.tables.exec = Jvm.exec) {k : Fin 4} {x : Int32} (hd : decode c.code pc = .ok (.istore_n k, 1)) (g : Go p e below P T (mkF m q L' rest)) (hl : storeLocals Ls k.val (.int x) = some L' := by rfl) (hq : pc + 1 = q := by rfl) : Go p e below P T (mkF m pc Ls (.int x :: rest)) := by
  subst hq; exact Go.st (fun _ => XS.istoreN X.here hx rfl hd rfl hl) g
theorem zsl (q : Nat) (L' : Array Slot) (X : Stand p l e R s m args below meth c T locs cells slots) (hx : p.tables.exec = Jvm.exec) {k : Nat} {x : Int32} (hd : decode c.code pc = .ok (.istore k, 2)) (g : Go p e below P T (mkF m q L' rest)) (hl : storeLocals Ls k (.int x) = some L' := by rfl) (hq : pc + 2 = q := by rfl) : Go p e below P T (mkF m pc Ls (.int x :: rest)) := by
  subst hq; exact Go.st (fun _ => XS.istore X.here hx rfl hd rfl hl) g
theorem zrn (q : Nat) (L' : Array Slot) (X : Stand p l e R s m args below meth c T locs cells slots) (hx : p.tables.exec = Jvm.exec) {k : Fin 4} {x : Value} (hd : decode c.code pc = .ok (.astore_n k, 1)) (hv : x.isRef = true) (g : Go p e below P T (mkF m q L' rest)) (hl : storeLocals Ls k.val x = some L' := by rfl) (hq : pc + 1 = q := by rfl) : Go p e below P T (mkF m pc Ls (x :: rest)) := by
  subst hq; exact Go.st (fun _ => XS.astoreN X.here hx rfl hd rfl hv hl) g
theorem zrl (q : Nat) (L' : Array Slot) (X : Stand p l e R s m args below meth c T locs cells slots) (hx : p.tables.exec = Jvm.exec) {k : Nat} {x : Value} (hd : decode c.code pc = .ok (.astore k, 2)) (hv : x.isRef = true) (g : Go p e below P T (mkF m q L' rest)) (hl : storeLocals Ls k x = some L' := by rfl) (hq : pc + 2 = q := by rfl) : Go p e below P T (mkF m pc Ls (x :: rest)) := by
  subst hq; exact Go.st (fun _ => XS.astore X.here hx rfl hd rfl hv hl) g
theorem zii (q : Nat) (L' : Array Slot) (X : Stand p l e R s m args below meth c T locs cells slots) (hx : p.tables.exec = Jvm.exec) {k : Nat} {cst : Int} {x : Int32} (hd : decode c.code pc = .ok (.iinc k cst, 3)) (hl : Ls[k]? = some (.val (.int x))) (g : Go p e below P T (mkF m q L' Ss)) (hl' : storeLocals Ls k (.int (x + Int32.ofInt cst)) = some L' := by rfl) (hq : pc + 3 = q := by rfl) : Go p e below P T (mkF m pc Ls Ss) := by
  subst hq; exact Go.st (fun _ => XS.iinc X.here hx rfl hd hl hl') g
theorem zgo (q : Nat) (X : Stand p l e R s m args below meth c T locs cells slots) (hx : p.tables.exec = Jvm.exec) {o : Int} (hd : decode c.code pc = .ok (.goto o, 3)) (g : Go p e below P T (mkF m q Ls Ss)) (ho : 0 ≤ (pc : Int) + o := by decide) (hq : ((pc : Int) + o).toNat = q := by decide) : Go p e below P T (mkF m pc Ls Ss) :=
  Go.st (fun _ => XS.goto X.here hx rfl (pc0 := pc) (pc' := q) rfl hd ho hq) g
theorem zcy (q : Nat) (X : Stand p l e R s m args below meth c T locs cells slots) (hx : p.tables.exec = Jvm.exec) {cd : ClassFile.Cond} {x y : Int32} {o : Int} (hd : decode c.code pc = .ok (.if_icmp cd o, 3)) (hc : if_icmp.holds cd x y = true) (g : Go p e below P T (mkF m q Ls rest)) (ho : 0 ≤ (pc : Int) + o := by decide) (hq : ((pc : Int) + o).toNat = q := by decide) : Go p e below P T (mkF m pc Ls (.int y :: .int x :: rest)) :=
  Go.st (fun _ => XS.icmpYes X.here hx rfl (pc0 := pc) (pc' := q) rfl hd rfl hc ho hq) g
theorem zcn (q : Nat) (X : Stand p l e R s m args below meth c T locs cells slots) (hx : p.tables.exec = Jvm.exec) {cd : ClassFile.Cond} {x y : Int32} {o : Int} (hd : decode c.code pc = .ok (.if_icmp cd o, 3)) (hc : if_icmp.holds cd x y = false) (g : Go p e below P T (mkF m q Ls rest)) (hq : pc + 3 = q := by rfl) : Go p e below P T (mkF m pc Ls (.int y :: .int x :: rest)) := by
  subst hq; exact Go.st (fun _ => XS.icmpNo X.here hx rfl hd rfl hc) g
theorem zfy (q : Nat) (X : Stand p l e R s m args below meth c T locs cells slots) (hx : p.tables.exec = Jvm.exec) {cd : ClassFile.Cond} {x : Int32} {o : Int} (hd : decode c.code pc = .ok (.ifCond cd o, 3)) (hc : ifCond.holds cd x = true) (g : Go p e below P T (mkF m q Ls rest)) (ho : 0 ≤ (pc : Int) + o := by decide) (hq : ((pc : Int) + o).toNat = q := by decide) : Go p e below P T (mkF m pc Ls (.int x :: rest)) :=
  Go.st (fun _ => XS.ifYes X.here hx rfl (pc0 := pc) (pc' := q) rfl hd rfl hc ho hq) g
theorem zfn (q : Nat) (X : Stand p l e R s m args below meth c T locs cells slots) (hx : p.tables.exec = Jvm.exec) {cd : ClassFile.Cond} {x : Int32} {o : Int} (hd : decode c.code pc = .ok (.ifCond cd o, 3)) (hc : ifCond.holds cd x = false) (g : Go p e below P T (mkF m q Ls rest)) (hq : pc + 3 = q := by rfl) : Go p e below P T (mkF m pc Ls (.int x :: rest)) := by
  subst hq; exact Go.st (fun _ => XS.ifNo X.here hx rfl hd rfl hc) g
theorem zgf (q : Nat) (X : Stand p l e R s m args below meth c T locs cells slots) (hx : p.tables.exec = Jvm.exec) (hZ : Z.Warmed39 s.vm) {own R0 O n d host : String} {index : Nat} (hown : s.vm.findClass own = some m.cls) (w : (Cond.fieldLink own index R0 n d).before a0 Z = true ∨ (Cond.fieldLinkNest own index R0 n d host).before a0 Z = true) (via : Via Z R0 O n d)
    (eT : T.heap = h) {a : Addr} {v : Value} (F : Fld Z h a O n d v) (hd : decode c.code pc = .ok (.getfield index, 3)) (g : ∀ T', Stand p l e R s m args below meth c T' locs cells slots → T'.heap = h → Go p e below P T' (mkF m q Ls (v :: rest))) (hq : pc + 3 = q := by rfl) : Go p e below P T (mkF m pc Ls (.ref a :: rest)) := by
  obtain ⟨T', X', e', st⟩ := getF X hx hZ hown w via eT F (g := mkF m pc Ls (.ref a :: rest)) rfl rfl hd
  subst hq; exact Go.st st (g T' X' e')
theorem gV (q W c' s' : Nat) (X : Stand p l e R s m args below meth c T locs cells slots) {n0 : Nat} (N : Fr n0 locs) (hx : p.tables.exec = Jvm.exec) (hZ : Z.Warmed39 s.vm) {own C : String} {index k : Nat} {y : MethodName} (hown : s.vm.findClass own = some m.cls) (hml : c.maxLocals = k)
    (w1 : (Cond.methodLink own index y).before a0 Z = true) (w2 : (Cond.declares y).before a0 Z = true) (w3 : (Cond.selects C y y).before a0 Z = true) (w4 : (Cond.instanceMethod y).before a0 Z = true)
    {bytes : ByteArray} {maxL : Nat} {ret : Option FieldType} {rm : Room} {as' : Array Value} {Q : Option Value → Heap → List Loc → Prop}
    (hM : Con l Z y bytes maxL ret [] rm as' h Q) (wc : (Cond.code y bytes maxL ret).before a0 Z = true) (wz : (Cond.initialized y.cls).before a0 Z = true)
    (eT : T.heap = h) {a : Addr} (E : Exa Z h a C) (argsL rest : List Value)
    (hlen : ∀ sig, parseMethodDescriptor y.desc = some sig → argsL.length = sig.parameters.length)
    (hd : decode c.code pc = .ok (.invokevirtual index, 3))
    (hk : ∀ (T' : State) (L L' : List Loc) (v : Option Value), Stand p l e R s m args below meth c T' L' c' s' → (Fr n0 L → Fr n0 L') → Q v T'.heap L → Go p e below P T' (mkF m q Ls (v.toList ++ rest)))
    (hq : pc + 3 = q := by rfl) (hy : y.cls ≠ "java/lang/invoke/MethodHandle" ∧ y.cls ≠ "java/lang/invoke/VarHandle" := by decide)
    (hsz : Ls.size = k := by rfl) (hst : Ss = argsL.reverse ++ .ref a :: rest := by rfl) (has : (.ref a :: argsL).toArray = as' := by rfl)
    (hf : rm.frames + 1 ≤ R.frames := by decide) (hW : (rest.map fun v => v.category).sum = W := by rfl) (hl : W + (maxL + 11) + rm.locals ≤ R.locals := by decide) (hc1 : cells + rm.cells = c' := by rfl) (hs1 : slots + rm.slots = s' := by rfl) (hc : c' ≤ R.cells := by decide) (hs : s' ≤ R.slots := by decide) :
    Go p e below P T (mkF m pc Ls Ss) := by
  obtain ⟨cq, kq, qa, qb, qc⟩ := isOf hZ eT E
  obtain ⟨v, _, ⟨T1, L1, kk1, nn1⟩, -, X1, ⟨Lc1, hQ1, lq1, yq1, zz1⟩, st1⟩ := X.virtualBack hx hown (mvT hZ w1) (mvT hZ w2) (notFace_of_selects (args := #[]) (mvT hZ w3)) (mvT hZ w3) (mvT hZ w4) hy (own_back (W := W) hM hZ wc wz hf hl) qa qc (g := mkF m pc Ls Ss) rfl (by rw [hml]; exact hsz) (Steps.refl _) (argsL := argsL) (rest := rest) hlen hst (by show 2 * 0 + _ ≤ _; omega) hd (fun _ _ => ⟨has, eT, by rw [hc1]; exact hc, by rw [hs1]; exact hs⟩)
  dsimp only [Pt.U, Pt.locs, Pt.cells, Pt.slots] at X1 lq1 yq1 zz1 st1 hQ1
  subst lq1 yq1 zz1 hq hc1 hs1
  exact Go.tr st1 (hk _ _ _ _ X1 (Fr.app N) hQ1)
theorem zmvI (hZ : Z.Warmed39 s.vm) {r o n d : String} (w : (Cond.interfaceMethod r o n d).before a0 Z = true) : (Cond.interfaceMethod r o n d).before args s = true := by
  have h1 : (Cond.interfaceMethod r o n d).before a0 (Z.setVm s.vm) = (Cond.interfaceMethod r o n d).before a0 Z := by
    simp only [Cond.before, Cond.holds, Cond.value, State.vm_setVm, hZ.alike.findClass, State.methodFound?_setVm hZ.alike, State.methodNamed?_setVm hZ.alike, arm_isInterface_setVm hZ.alike]
  have h2 := Cond.onTables_vm (A := a0) (A' := args) (U := Z) (U' := s) s.vm (Cond.interfaceMethod r o n d) rfl
  rw [h1, w] at h2
  exact h2.symm
theorem gI (q W c' s' : Nat) (X : Stand p l e R s m args below meth c T locs cells slots) {n0 : Nat} (N : Fr n0 locs) (hx : p.tables.exec = Jvm.exec) (hZ : Z.Warmed39 s.vm) {own C : String} {index count k : Nat} {xi y : MethodName} (hown : s.vm.findClass own = some m.cls) (hml : c.maxLocals = k)
    (w1 : (Cond.methodLink own index xi).before a0 Z = true) (w2 : (Cond.declares xi).before a0 Z = true) (w5 : (Cond.interfaceMethod xi.cls xi.cls xi.name xi.desc).before a0 Z = true) (w3 : (Cond.selects C xi y).before a0 Z = true) (w4 : (Cond.instanceMethod y).before a0 Z = true)
    (w6 : (Cond.publicMethod y).before a0 Z = true) (w7 : (Cond.unhidden C xi.name xi.desc).before a0 Z = true) (w8 : (Cond.castable C xi.cls).before a0 Z = true)
    {bytes : ByteArray} {maxL : Nat} {ret : Option FieldType} {rm : Room} {as' : Array Value} {Q : Option Value → Heap → List Loc → Prop}
    (hM : Con l Z y bytes maxL ret [] rm as' h Q) (wc : (Cond.code y bytes maxL ret).before a0 Z = true) (wz : (Cond.initialized y.cls).before a0 Z = true)
    (eT : T.heap = h) {a : Addr} (E : Exa Z h a C) (argsL rest : List Value)
    (hlen : ∀ sig, parseMethodDescriptor xi.desc = some sig → argsL.length = sig.parameters.length)
    (hd : decode c.code pc = .ok (.invokeinterface index count, 5))
    (hk : ∀ (T' : State) (L L' : List Loc) (v : Option Value), Stand p l e R s m args below meth c T' L' c' s' → (Fr n0 L → Fr n0 L') → Q v T'.heap L → Go p e below P T' (mkF m q Ls (v.toList ++ rest)))
    (hq : pc + 5 = q := by rfl) (hy : xi.cls ≠ "java/lang/invoke/MethodHandle" ∧ xi.cls ≠ "java/lang/invoke/VarHandle" := by decide)
    (hsz : Ls.size = k := by rfl) (hst : Ss = argsL.reverse ++ .ref a :: rest := by rfl) (has : (.ref a :: argsL).toArray = as' := by rfl)
    (hf : rm.frames + 1 ≤ R.frames := by decide) (hW : (rest.map fun v => v.category).sum = W := by rfl) (hl : W + (maxL + 11) + rm.locals ≤ R.locals := by decide) (hc1 : cells + rm.cells = c' := by rfl) (hs1 : slots + rm.slots = s' := by rfl) (hc : c' ≤ R.cells := by decide) (hs : s' ≤ R.slots := by decide) :
    Go p e below P T (mkF m pc Ls Ss) := by
  obtain ⟨cq, kq, qa, qb, qc⟩ := isOf hZ eT E
  obtain ⟨v, _, ⟨T1, L1, kk1, nn1⟩, -, X1, ⟨Lc1, hQ1, lq1, yq1, zz1⟩, st1⟩ := X.interfaceBack hx hown (mvT hZ w1) (mvT hZ w2) (zmvI hZ w5) (mvT hZ w3) (mvT hZ w4) (mvT hZ w6) (mvT hZ w7) (mvT hZ w8) hy (own_back (W := W) hM hZ wc wz hf hl) qa qb qc (g := mkF m pc Ls Ss) rfl (by rw [hml]; exact hsz) (Steps.refl _) (argsL := argsL) (rest := rest) hlen hst (by show 2 * 0 + _ ≤ _; omega) hd (fun _ _ => ⟨has, eT, by rw [hc1]; exact hc, by rw [hs1]; exact hs⟩)
  dsimp only [Pt.U, Pt.locs, Pt.cells, Pt.slots] at X1 lq1 yq1 zz1 st1 hQ1
  subst lq1 yq1 zz1 hq hc1 hs1
  exact Go.tr st1 (hk _ _ _ _ X1 (Fr.app N) hQ1)
theorem zsk (S' : List Value) (g : Go p e below P T (mkF m pc Ls S')) (hq : Ss = S' := by rfl) : Go p e below P T (mkF m pc Ls Ss) := by
  subst hq; exact g
theorem zln (q : Nat) (X : Stand p l e R s m args below meth c T locs cells slots) (hx : p.tables.exec = Jvm.exec) {k : Fin 4} {v : Int64} (hd : decode c.code pc = .ok (.lload_n k, 1)) (hl : Ls[k.val]? = some (.val (.long v))) (g : Go p e below P T (mkF m q Ls (.long v :: Ss))) (hq : pc + 1 = q := by rfl) : Go p e below P T (mkF m pc Ls Ss) := by
  subst hq; exact Go.st (fun _ => XS.lloadN X.here hx rfl hd hl) g
theorem zll (q : Nat) (X : Stand p l e R s m args below meth c T locs cells slots) (hx : p.tables.exec = Jvm.exec) {k : Nat} {v : Int64} (hd : decode c.code pc = .ok (.lload k, 2)) (hl : Ls[k]? = some (.val (.long v))) (g : Go p e below P T (mkF m q Ls (.long v :: Ss))) (hq : pc + 2 = q := by rfl) : Go p e below P T (mkF m pc Ls Ss) := by
  subst hq; exact Go.st (fun _ => XS.lload X.here hx rfl hd hl) g
theorem gS (q W c' s' : Nat) (X : Stand p l e R s m args below meth c T locs cells slots) {n0 : Nat} (N : Fr n0 locs) (hx : p.tables.exec = Jvm.exec) (hZ : Z.Warmed39 s.vm) {own : String} {index k : Nat} {y : MethodName} (hown : s.vm.findClass own = some m.cls) (hml : c.maxLocals = k)
    (w1 : (Cond.methodLink own index y).before a0 Z = true) (w2 : (Cond.static y).before a0 Z = true) (wz : (Cond.initialized y.cls).before a0 Z = true)
    {bytes : ByteArray} {maxL : Nat} {ret : Option FieldType} {rm : Room} {as' : Array Value} {Q : Option Value → Heap → List Loc → Prop}
    (hM : Con l Z y bytes maxL ret [] rm as' h Q) (wc : (Cond.code y bytes maxL ret).before a0 Z = true)
    (eT : T.heap = h) (argsL rest : List Value)
    (hlen : ∀ sig, parseMethodDescriptor y.desc = some sig → argsL.length = sig.parameters.length)
    (hd : decode c.code pc = .ok (.invokestatic index, 3))
    (hk : ∀ (T' : State) (L L' : List Loc) (v : Option Value), Stand p l e R s m args below meth c T' L' c' s' → (Fr n0 L → Fr n0 L') → Q v T'.heap L → Go p e below P T' (mkF m q Ls (v.toList ++ rest)))
    (hq : pc + 3 = q := by rfl) (hy : y.cls ≠ "java/lang/invoke/MethodHandle" ∧ y.cls ≠ "java/lang/invoke/VarHandle" := by decide)
    (hsz : Ls.size = k := by rfl) (hst : Ss = argsL.reverse ++ rest := by rfl) (has : argsL.toArray = as' := by rfl)
    (hf : rm.frames + 1 ≤ R.frames := by decide) (hW : (rest.map fun v => v.category).sum = W := by rfl) (hl : W + (maxL + 11) + rm.locals ≤ R.locals := by decide) (hc1 : cells + rm.cells = c' := by rfl) (hs1 : slots + rm.slots = s' := by rfl) (hc : c' ≤ R.cells := by decide) (hs : s' ≤ R.slots := by decide) :
    Go p e below P T (mkF m pc Ls Ss) := by
  obtain ⟨v, _, ⟨T1, L1, kk1, nn1⟩, -, X1, ⟨Lc1, hQ1, lq1, yq1, zz1⟩, st1⟩ := Jvm.LawKit.callS X hx hown (mvT hZ w1) (mvT hZ w2) (mvT hZ wz) (mvT hZ wc) hy (own_back (W := W) hM hZ wc wz hf hl) (g := mkF m pc Ls Ss) rfl (by rw [hml]; exact hsz) (argsL := argsL) (rest := rest) hlen hst (by show 2 * 0 + _ ≤ _; omega) hd (fun _ _ => ⟨has, eT, by rw [hc1]; exact hc, by rw [hs1]; exact hs⟩)
  dsimp only [Pt.U, Pt.locs, Pt.cells, Pt.slots] at X1 lq1 yq1 zz1 st1 hQ1
  subst lq1 yq1 zz1 hq hc1 hs1
  exact Go.st st1 (hk _ _ _ _ X1 (Fr.app N) hQ1)
end Cps

/-- Integer's two tables -/
def onesL : List Value := (List.range 100).map (fun r => .int (Int32.ofNat (48 + r % 10)))
def tensL : List Value := (List.range 100).map (fun r => .int (Int32.ofNat (48 + r / 10)))

def World1 (Z : State) (wO : Addr) (wT : Addr) (kO : ClassId) (kT : ClassId) (iC : Int32) (vF : Value) : Prop :=
  Sta Z Z.heap "java/lang/String" "COMPACT_STRINGS" "Z" (.int iC) ∧
  ¬ iC = (0 : Int32) ∧
  Sta Z Z.heap "jdk/internal/util/Preconditions" "SIOOBE_FORMATTER" "Ljava/util/function/BiFunction;" vF ∧
  vF.isRef = true ∧
  Sta Z Z.heap "java/lang/Integer" "DigitOnes" "[B" (.ref wO) ∧
  Exa Z Z.heap wO "[B" ∧
  Sta Z Z.heap "java/lang/Integer" "DigitTens" "[B" (.ref wT) ∧
  Exa Z Z.heap wT "[B" ∧
  Arv Z Z.heap wO kO .byte (100 : Int32) onesL (.int (0 : Int32)) ∧
  Arv Z Z.heap wT kT .byte (100 : Int32) tensL (.int (0 : Int32))
abbrev EL : List (String × Nat) := consts_1
theorem own_EL {Z : State} {a0 : Array Value} (hw : ∀ d ∈ tables_1, d.before a0 Z = true) : EW Z a0 EL := (EW.cons (hw _ (List.mem_of_getElem? (i := 56) rfl)) (by decide) (EW.cons (hw _ (List.mem_of_getElem? (i := 127) rfl)) (by decide) (EW.cons (hw _ (List.mem_of_getElem? (i := 156) rfl)) (by decide) (EW.cons (hw _ (List.mem_of_getElem? (i := 14) rfl)) (by decide) EW.nil))))
theorem own_wS {Z : State} {a0 : Array Value} (hw : ∀ d ∈ tables_1, d.before a0 Z = true) : ∀ a ∈ Bundle.stringAtoms, a.before a0 Z = true := by
  intro a ha
  simp only [Bundle.stringAtoms, Bundle.sN, List.mem_cons, List.not_mem_nil, or_false] at ha
  rcases ha with rfl | rfl | rfl | rfl | rfl | rfl | rfl
  · exact (ww hw 3 rfl)
  · exact (ww hw 2 rfl)
  · exact (ww hw 15 rfl)
  · exact (ww hw 16 rfl)
  · exact (ww hw 17 rfl)
  · exact (ww hw 18 rfl)
  · exact (ww hw 19 rfl)
theorem pn_java_lang_StringUTF16 : plainName "java/lang/StringUTF16" = true := by first | (simp [plainName, overriddenIn]; done) | decide +kernel
theorem d47_0 : decode jdk_52_method_21_code 0 = .ok (.iconst 0, 1) := by decide +kernel
theorem d47_1 : decode jdk_52_method_21_code 1 = .ok (.istore 5, 2) := by decide +kernel
theorem d47_3 : decode jdk_52_method_21_code 3 = .ok (.iload 5, 2) := by decide +kernel
theorem d47_5 : decode jdk_52_method_21_code 5 = .ok (.iload 4, 2) := by decide +kernel
theorem d47_7 : decode jdk_52_method_21_code 7 = .ok (.if_icmp .ge 37, 3) := by decide +kernel
theorem d47_10 : decode jdk_52_method_21_code 10 = .ok (.aload_n 0, 1) := by decide +kernel
theorem d47_11 : decode jdk_52_method_21_code 11 = .ok (.iload_n 1, 1) := by decide +kernel
theorem d47_12 : decode jdk_52_method_21_code 12 = .ok (.caload, 1) := by decide +kernel
theorem d47_13 : decode jdk_52_method_21_code 13 = .ok (.istore 6, 2) := by decide +kernel
theorem d47_15 : decode jdk_52_method_21_code 15 = .ok (.iload 6, 2) := by decide +kernel
theorem d47_17 : decode jdk_52_method_21_code 17 = .ok (.sipush 255, 3) := by decide +kernel
theorem d47_20 : decode jdk_52_method_21_code 20 = .ok (.if_icmp .le 6, 3) := by decide +kernel
theorem d47_26 : decode jdk_52_method_21_code 26 = .ok (.aload_n 2, 1) := by decide +kernel
theorem d47_27 : decode jdk_52_method_21_code 27 = .ok (.iload_n 3, 1) := by decide +kernel
theorem d47_28 : decode jdk_52_method_21_code 28 = .ok (.iload 6, 2) := by decide +kernel
theorem d47_30 : decode jdk_52_method_21_code 30 = .ok (.i2b, 1) := by decide +kernel
theorem d47_31 : decode jdk_52_method_21_code 31 = .ok (.bastore, 1) := by decide +kernel
theorem d47_32 : decode jdk_52_method_21_code 32 = .ok (.iinc 1 1, 3) := by decide +kernel
theorem d47_35 : decode jdk_52_method_21_code 35 = .ok (.iinc 3 1, 3) := by decide +kernel
theorem d47_38 : decode jdk_52_method_21_code 38 = .ok (.iinc 5 1, 3) := by decide +kernel
theorem d47_41 : decode jdk_52_method_21_code 41 = .ok (.goto (-38), 3) := by decide +kernel
theorem d47_44 : decode jdk_52_method_21_code 44 = .ok (.iload 4, 2) := by decide +kernel
theorem d47_46 : decode jdk_52_method_21_code 46 = .ok (.ireturn, 1) := by decide +kernel
set_option maxRecDepth 65536 in
set_option maxHeartbeats 40000000 in
theorem st5_1 (l : Launch) (Z : State) (a0 : Array Value) (hw : ∀ d ∈ tables_1, d.before a0 Z = true) (ws : List Jvm.Cond) (a2 : Addr) (k2 : ClassId) (a1 : Addr) (k1 : ClassId) (c0 : Int32) (h0 : Heap) (n0 : Nat) (O0 : Old Z n0 h0) (hc_c0 : ¬ (255 : Int32) < c0) (ne12 : a1 ≠ a2) (g_a2 : n0 ≤ a2) (V_a1 : Arv Z h0 a1 k1 .char (1 : Int32) [(.int c0)] (.int 0)) (V_a2 : Arv Z h0 a2 k2 .byte (1 : Int32) [(.int 0)] (.int 0)) :
    Con l Z mq0 jdk_52_method_21_code 7 (some .int) ws ({ frames := 0, cells := 0, slots := 0, locals := 0 } : Room) #[(.ref a1), (.int 0), (.ref a2), (.int 0), (.int 1)] h0 (fun v h L => v = some (.int 1) ∧ Fr n0 L ∧ Keep h0 h [a2] ∧ Arv Z h a2 k2 .byte (1 : Int32) [(.int (nar .byte (c0.toInt8.toInt32)))] (.int 0)) := by
  refine own_body (plainFor_of_name pn_java_lang_StringUTF16) ?_
  intro p e s m below meth c s₁ hx hby hml hZ hown hnm hlk hret X0 e0
  have N0 := Fr.nil n0
  have D := @hb _ _ hby
  have K0 : Keep h0 h0 [a2] := Keep.refl _ _
  refine Go.st (T' := s₁) (f' := (mkF m 0 #[rv a1, iv 0, rv a2, iv 0, iv 1, .unset, .unset] [])) (fun _ k => castTop (by first | (simp [entryFrame, mkF, argsToLocals, Value.category]; done) | rfl) k) ?_
  have lt_a1 := V_a1.lt
  have lt_a2 := V_a2.lt
  refine zic 1 0 X0 hx (D d47_0) ?_
  refine zsl 3 #[rv a1, iv 0, rv a2, iv 0, iv 1, iv 0, .unset] X0 hx (D d47_1) ?_
  refine zil 5 X0 hx (D d47_3) rfl ?_
  refine zil 7 X0 hx (D d47_5) rfl ?_
  refine zcn 10 X0 hx (D d47_7) (by decide) ?_
  refine zan 11 X0 hx (D d47_10) rfl rfl ?_
  refine zin 12 X0 hx (D d47_11) rfl ?_
  obtain ⟨cl1, Ar1, -, S1, -, H1, -⟩ := id V_a1
  have hin1 : ¬ ((0 : Int32) < 0 ∨ cl1.slots.size ≤ ((0 : Int32)).toNatClampNeg) := inb_of S1 ⟨by decide, by decide⟩
  have hat1 : cl1.slots[((0 : Int32)).toNatClampNeg]? = some (.int c0) := H1.at hin1 rfl
  refine Go.st (f' := (mkF m 13 #[rv a1, iv 0, rv a2, iv 0, iv 1, iv 0, .unset] [(.int c0)])) (fun _ k => X0.caload hx (j := (0 : Int32)) (v := (.int c0)) (by rw [e0]; exact Ar1.1) (State.isArrayOf_alike hZ.alike Ar1.2.1) Ar1.2.2 hin1 hat1 (g := (mkF m 12 #[rv a1, iv 0, rv a2, iv 0, iv 1, iv 0, .unset] [(.int 0), (.ref a1)])) rfl rfl (D d47_12) _ k) ?_
  refine zsl 15 #[rv a1, iv 0, rv a2, iv 0, iv 1, iv 0, iv c0] X0 hx (D d47_13) ?_
  refine zil 17 X0 hx (D d47_15) rfl ?_
  refine Go.st (f' := (mkF m 20 #[rv a1, iv 0, rv a2, iv 0, iv 1, iv 0, iv c0] [(.int 255), (.int c0)])) (fun _ k => XS.sipush X0.here hx rfl (D d47_17) k) ?_
  refine zcy 26 X0 hx (D d47_20) (flt hc_c0).2.2.2 ?_
  refine zan 27 X0 hx (D d47_26) rfl rfl ?_
  refine zin 28 X0 hx (D d47_27) rfl ?_
  refine zil 30 X0 hx (D d47_28) rfl ?_
  refine Go.st (f' := (mkF m 31 #[rv a1, iv 0, rv a2, iv 0, iv 1, iv 0, iv c0] [(.int (c0.toInt8.toInt32)), (.int 0), (.ref a2)])) (fun _ k => XS.i2b X0.here hx rfl (D d47_30) rfl k) ?_
  obtain ⟨cl2, Ar2, q2, S2, Nx2, H2, G2⟩ := id V_a2
  have hin2 : ¬ ((0 : Int32) < 0 ∨ cl2.slots.size ≤ ((0 : Int32)).toNatClampNeg) := inb_of S2 ⟨by decide, by decide⟩
  obtain ⟨T3, h3, X3, e3, W3, st3⟩ := stB X0 hx hZ e0 Ar2 (j := (0 : Int32)) hin2 (g := (mkF m 31 #[rv a1, iv 0, rv a2, iv 0, iv 1, iv 0, iv c0] [(.int (c0.toInt8.toInt32)), (.int 0), (.ref a2)])) rfl rfl (D d47_31)
  have V_a2_3 : Arv Z h3 a2 k2 .byte (1 : Int32) [(.int (nar .byte (c0.toInt8.toInt32)))] (.int (0 : Int32)) := Arv.set Ar2 q2 S2 Nx2 H2 G2 (fits_nar_byte _) W3 0 rfl (Nat.le_of_ble_eq_true rfl)
  have N3 := Fr.snoc X3 N0 g_a2
  have O3 : Old Z n0 h3 := O0.wr W3 g_a2
  have K3 : Keep h0 h3 [a2] := K0.wr W3 (Or.inl (List.mem_of_getElem? (i := 0) rfl))
  refine zst 32 #[rv a1, iv 0, rv a2, iv 0, iv 1, iv 0, iv c0] [] st3 ?_
  refine zii 35 #[rv a1, iv 1, rv a2, iv 0, iv 1, iv 0, iv c0] X3 hx (D d47_32) rfl ?_
  refine zii 38 #[rv a1, iv 1, rv a2, iv 1, iv 1, iv 0, iv c0] X3 hx (D d47_35) rfl ?_
  refine zii 41 #[rv a1, iv 1, rv a2, iv 1, iv 1, iv 1, iv c0] X3 hx (D d47_38) rfl ?_
  refine zgo 3 X3 hx (D d47_41) ?_
  refine zil 5 X3 hx (D d47_3) rfl ?_
  refine zil 7 X3 hx (D d47_5) rfl ?_
  refine zcy 44 X3 hx (D d47_7) (by decide) ?_
  refine zil 46 X3 hx (D d47_44) rfl ?_
  refine Go.retV X3 hlk hx (t := .int) hret rfl (Or.inl ⟨rfl, Or.inl rfl, _, rfl⟩) (D d47_46) e3 ?_ (by decide) (by decide)
  exact ⟨rfl, N3, K3, V_a2_3⟩
theorem d46_0 : decode jdk_52_method_16_code 0 = .ok (.iload_n 2, 1) := by decide +kernel
theorem d46_1 : decode jdk_52_method_16_code 1 = .ok (.newarray .byte, 2) := by decide +kernel
theorem d46_3 : decode jdk_52_method_16_code 3 = .ok (.astore_n 3, 1) := by decide +kernel
theorem d46_4 : decode jdk_52_method_16_code 4 = .ok (.aload_n 0, 1) := by decide +kernel
theorem d46_5 : decode jdk_52_method_16_code 5 = .ok (.iload_n 1, 1) := by decide +kernel
theorem d46_6 : decode jdk_52_method_16_code 6 = .ok (.aload_n 3, 1) := by decide +kernel
theorem d46_7 : decode jdk_52_method_16_code 7 = .ok (.iconst 0, 1) := by decide +kernel
theorem d46_8 : decode jdk_52_method_16_code 8 = .ok (.iload_n 2, 1) := by decide +kernel
theorem d46_9 : decode jdk_52_method_16_code 9 = .ok (.invokestatic 115, 3) := by decide +kernel
theorem pd___CI_BII_I : parseMethodDescriptor "([CI[BII)I" = some ⟨[(.array .char), .int, (.array .byte), .int, .int], some .int⟩ := by decide +kernel
theorem d46_12 : decode jdk_52_method_16_code 12 = .ok (.istore 4, 2) := by decide +kernel
theorem d46_14 : decode jdk_52_method_16_code 14 = .ok (.iload 4, 2) := by decide +kernel
theorem d46_16 : decode jdk_52_method_16_code 16 = .ok (.iload_n 2, 1) := by decide +kernel
theorem d46_17 : decode jdk_52_method_16_code 17 = .ok (.if_icmp .eq 40, 3) := by decide +kernel
theorem d46_57 : decode jdk_52_method_16_code 57 = .ok (.aload_n 3, 1) := by decide +kernel
theorem d46_58 : decode jdk_52_method_16_code 58 = .ok (.areturn, 1) := by decide +kernel
set_option maxRecDepth 65536 in
set_option maxHeartbeats 40000000 in
theorem st3_1 (l : Launch) (Z : State) (a0 : Array Value) (hw : ∀ d ∈ tables_1, d.before a0 Z = true) (ws : List Jvm.Cond) (a1 : Addr) (k1 : ClassId) (c0 : Int32) (h0 : Heap) (n0 : Nat) (O0 : Old Z n0 h0) (hc_c0 : ¬ (255 : Int32) < c0) (V_a1 : Arv Z h0 a1 k1 .char (1 : Int32) [(.int c0)] (.int 0)) :
    Con l Z mq1 jdk_52_method_16_code 6 (some (.array .byte)) ws ({ frames := 1, cells := 1, slots := 1, locals := 18 } : Room) #[(.ref a1), (.int 0), (.int 1)] h0 (fun v h L => ∃ (b : Addr) (kb : ClassId), v = some (.ref b) ∧ Fr n0 L ∧ h0.size ≤ b ∧ Keep h0 h [] ∧ Arv Z h b kb .byte (1 : Int32) [(.int (nar .byte (c0.toInt8.toInt32)))] (.int 0)) := by
  refine own_body (plainFor_of_name pn_java_lang_StringUTF16) ?_
  intro p e s m below meth c s₁ hx hby hml hZ hown hnm hlk hret X0 e0
  have N0 := Fr.nil n0
  have D := @hb _ _ hby
  have K0 : Keep h0 h0 [] := Keep.refl _ _
  refine Go.st (T' := s₁) (f' := (mkF m 0 #[rv a1, iv 0, iv 1, .unset, .unset, .unset] [])) (fun _ k => castTop (by first | (simp [entryFrame, mkF, argsToLocals, Value.category]; done) | rfl) k) ?_
  have lt_a1 := V_a1.lt
  refine zin 1 X0 hx (D d46_0) rfl ?_
  obtain ⟨T1, h1, kc1, X1, e1, E1, A1, st1⟩ := newP X0 hx hZ (ww hw 15 rfl) e0 (g := (mkF m 1 #[rv a1, iv 0, iv 1, .unset, .unset, .unset] [(.int 1)])) rfl (D d46_1) rfl (by decide) (cap := 1) (by decide) (by decide) (by decide) (by decide)
  obtain ⟨b1, g1⟩ : ∃ z, z = h0.size := ⟨_, rfl⟩
  rw [← g1] at A1 st1
  have ne_a1_b1 : a1 ≠ b1 := Nat.ne_of_lt (Nat.lt_of_lt_of_eq lt_a1 g1.symm)
  have g_b1 : n0 ≤ b1 := Nat.le_trans (O0.1 ▸ O0.2.1) (Nat.le_of_eq g1.symm)
  have O1 : Old Z n0 h1 := O0.ext E1
  have sz_b1 : h0.size ≤ b1 := Nat.le_trans K0.1 (Nat.le_of_eq g1.symm)
  have K1 : Keep h0 h1 [] := K0.ext E1
  have V_b1 : Arv Z h1 b1 kc1 .byte (1 : Int32) [(.int (0 : Int32))] (.int (0 : Int32)) := (Arv.new A1 (by decide)).pad (pad_rep [] (.int (0 : Int32)) 1)
  have lt_b1 := V_b1.lt
  refine zst 3 #[rv a1, iv 0, iv 1, .unset, .unset, .unset] [(.ref b1)] st1 ?_
  refine zrn 4 #[rv a1, iv 0, iv 1, rv b1, .unset, .unset] X1 hx (D d46_3) rfl ?_
  refine zan 5 X1 hx (D d46_4) rfl rfl ?_
  refine zin 6 X1 hx (D d46_5) rfl ?_
  refine zan 7 X1 hx (D d46_6) rfl rfl ?_
  refine zic 8 0 X1 hx (D d46_7) ?_
  refine zin 9 X1 hx (D d46_8) rfl ?_
  have ft3 := (V_a1.ext E1)
  refine gS 12 0 1 1 X1 N0 hx hZ (y := mq0) hown hml (ww hw 236 rfl) (ww hw 237 rfl) (ww hw 234 rfl) (st5_1 l Z a0 hw [] b1 kc1 a1 k1 c0 h1 n0 O1 hc_c0 ne_a1_b1 g_b1 ft3 V_b1) (ww hw 238 rfl) e1 [(.ref a1), (.int 0), (.ref b1), (.int 0), (.int 1)] [] (lenOf pd___CI_BII_I rfl) (D d46_9) ?_
  rintro T2 L2 M2 _ X2 uu2 ⟨rfl, Nq2, kq2, vq2⟩
  have N2 := uu2 Nq2
  have O2 : Old Z n0 T2.heap := O1.keep kq2 (allS g_b1 all0)
  have K2 : Keep h0 T2.heap [] := K1.trans kq2 (allS (Or.inr sz_b1) all0)
  refine zsk [(.int 1)] ?_
  refine zsl 14 #[rv a1, iv 0, iv 1, rv b1, iv 1, .unset] X2 hx (D d46_12) ?_
  refine zil 16 X2 hx (D d46_14) rfl ?_
  refine zin 17 X2 hx (D d46_16) rfl ?_
  refine zcy 57 X2 hx (D d46_17) (by decide) ?_
  refine zan 58 X2 hx (D d46_57) rfl rfl ?_
  refine Go.retV X2 hlk hx (t := (.array .byte)) hret rfl (Or.inr (Or.inr (Or.inr (Or.inr ⟨rfl, rfl, rfl⟩)))) (D d46_58) rfl ?_ (by decide) (by decide)
  exact ⟨b1, kc1, rfl, N2, sz_b1, K2, vq2⟩
theorem d48_0 : decode jdk_52_method_15_code 0 = .ok (.iload_n 1, 1) := by decide +kernel
theorem d48_1 : decode jdk_52_method_15_code 1 = .ok (.aload_n 0, 1) := by decide +kernel
theorem d48_2 : decode jdk_52_method_15_code 2 = .ok (.arraylength, 1) := by decide +kernel
theorem d48_3 : decode jdk_52_method_15_code 3 = .ok (.isub, 1) := by decide +kernel
theorem d48_4 : decode jdk_52_method_15_code 4 = .ok (.bipush 31, 2) := by decide +kernel
theorem d48_6 : decode jdk_52_method_15_code 6 = .ok (.iushr, 1) := by decide +kernel
theorem d48_7 : decode jdk_52_method_15_code 7 = .ok (.i2b, 1) := by decide +kernel
theorem d48_8 : decode jdk_52_method_15_code 8 = .ok (.ireturn, 1) := by decide +kernel
set_option maxRecDepth 65536 in
set_option maxHeartbeats 40000000 in
theorem stc_1 (l : Launch) (Z : State) (a0 : Array Value) (hw : ∀ d ∈ tables_1, d.before a0 Z = true) (ws : List Jvm.Cond) (a1 : Addr) (k1 : ClassId) (x0 : Int32) (h0 : Heap) (n0 : Nat) (O0 : Old Z n0 h0) (V_a1 : Arv Z h0 a1 k1 .byte (1 : Int32) [(.int x0)] (.int 0)) :
    Con l Z mq2 jdk_52_method_15_code 2 (some .byte) ws ({ frames := 0, cells := 0, slots := 0, locals := 0 } : Room) #[(.ref a1), (.int 1)] h0 (fun v h L => v = some (.int 0) ∧ Fr n0 L ∧ h = h0) := by
  refine own_body (plainFor_of_name pn_java_lang_StringUTF16) ?_
  intro p e s m below meth c s₁ hx hby hml hZ hown hnm hlk hret X0 e0
  have N0 := Fr.nil n0
  have D := @hb _ _ hby
  refine Go.st (T' := s₁) (f' := (mkF m 0 #[rv a1, iv 1] [])) (fun _ k => castTop (by first | (simp [entryFrame, mkF, argsToLocals, Value.category]; done) | rfl) k) ?_
  have lt_a1 := V_a1.lt
  refine zin 1 X0 hx (D d48_0) rfl ?_
  refine zan 2 X0 hx (D d48_1) rfl rfl ?_
  obtain ⟨cl1, Ar1, -, S1, Nx1, -, -⟩ := id V_a1
  refine Go.st (T' := s₁) (f' := (mkF m 3 #[rv a1, iv 1] [(.int 1), (.int 1)])) (fun _ k => X0.arraylength hx (by rw [e0]; exact Ar1.1) (State.isArrayOf_alike hZ.alike Ar1.2.1) (g := (mkF m 2 #[rv a1, iv 1] [(.ref a1), (.int 1)])) rfl rfl (D d48_2) _ (by rw [len_of S1 Nx1]; exact k)) ?_
  refine Go.st (f' := (mkF m 4 #[rv a1, iv 1] [(.int 0)])) (fun _ k => XS.isub X0.here hx rfl (D d48_3) rfl k) ?_
  refine zbp 6 31 X0 hx (D d48_4) ?_
  refine Go.st (f' := (mkF m 7 #[rv a1, iv 1] [(.int 0)])) (fun _ k => XS.iushr X0.here hx rfl (D d48_6) rfl k) ?_
  refine Go.st (f' := (mkF m 8 #[rv a1, iv 1] [(.int 0)])) (fun _ k => XS.i2b X0.here hx rfl (D d48_7) rfl k) ?_
  refine Go.retB X0 hlk hx (t := .byte) hret (by simp) (D d48_8) e0 ?_ (by decide) (by decide)
  exact ⟨rfl, N0, rfl⟩
theorem pn_java_lang_String : plainName "java/lang/String" = true := by first | (simp [plainName, overriddenIn]; done) | decide +kernel
theorem d2_0 : decode jdk_42_method_149_code 0 = .ok (.aload_n 0, 1) := by decide +kernel
theorem d2_1 : decode jdk_42_method_149_code 1 = .ok (.invokespecial 1, 3) := by decide +kernel
theorem d2_4 : decode jdk_42_method_149_code 4 = .ok (.iload_n 3, 1) := by decide +kernel
theorem d2_5 : decode jdk_42_method_149_code 5 = .ok (.ifCond .ne 22, 3) := by decide +kernel
theorem d2_27 : decode jdk_42_method_149_code 27 = .ok (.getstatic 38, 3) := by decide +kernel
theorem d2_30 : decode jdk_42_method_149_code 30 = .ok (.ifCond .eq 28, 3) := by decide +kernel
theorem d2_33 : decode jdk_42_method_149_code 33 = .ok (.aload_n 1, 1) := by decide +kernel
theorem d2_34 : decode jdk_42_method_149_code 34 = .ok (.iload_n 2, 1) := by decide +kernel
theorem d2_35 : decode jdk_42_method_149_code 35 = .ok (.iload_n 3, 1) := by decide +kernel
theorem d2_36 : decode jdk_42_method_149_code 36 = .ok (.invokestatic 177, 3) := by decide +kernel
theorem pd___CII__B : parseMethodDescriptor "([CII)[B" = some ⟨[(.array .char), .int, .int], some (.array .byte)⟩ := by decide +kernel
theorem d2_39 : decode jdk_42_method_149_code 39 = .ok (.astore 5, 2) := by decide +kernel
theorem d2_41 : decode jdk_42_method_149_code 41 = .ok (.aload_n 0, 1) := by decide +kernel
theorem d2_42 : decode jdk_42_method_149_code 42 = .ok (.aload 5, 2) := by decide +kernel
theorem d2_44 : decode jdk_42_method_149_code 44 = .ok (.iload_n 3, 1) := by decide +kernel
theorem d2_45 : decode jdk_42_method_149_code 45 = .ok (.invokestatic 47, 3) := by decide +kernel
theorem pd___BI_B : parseMethodDescriptor "([BI)B" = some ⟨[(.array .byte), .int], some .byte⟩ := by decide +kernel
theorem d2_48 : decode jdk_42_method_149_code 48 = .ok (.putfield 15, 3) := by decide +kernel
theorem d2_51 : decode jdk_42_method_149_code 51 = .ok (.aload_n 0, 1) := by decide +kernel
theorem d2_52 : decode jdk_42_method_149_code 52 = .ok (.aload 5, 2) := by decide +kernel
theorem d2_54 : decode jdk_42_method_149_code 54 = .ok (.putfield 9, 3) := by decide +kernel
theorem d2_57 : decode jdk_42_method_149_code 57 = .ok (.return_, 1) := by decide +kernel
set_option maxRecDepth 65536 in
set_option maxHeartbeats 40000000 in
theorem stv_1 (l : Launch) (Z : State) (a0 : Array Value) (hw : ∀ d ∈ tables_1, d.before a0 Z = true) (ws : List Jvm.Cond) (a0b : Addr) (a1 : Addr) (k1 : ClassId) (c0 : Int32) (wO : Addr) (wT : Addr) (kO : ClassId) (kT : ClassId) (iC : Int32) (vF : Value) (h0 : Heap) (n0 : Nat) (O0 : Old Z n0 h0) (hc_c0 : ¬ (255 : Int32) < c0) (g_a0b : n0 ≤ a0b) (nb1 : a0b ≠ a1) (E_a0b : Exa Z h0 a0b "java/lang/String") (F_a0b_coder : Fld Z h0 a0b "java/lang/String" "coder" "B" (.int 0)) (F_a0b_value : Fld Z h0 a0b "java/lang/String" "value" "[B" .null) (V_a1 : Arv Z h0 a1 k1 .char (1 : Int32) [(.int c0)] (.int 0)) (WW : World1 Z wO wT kO kT iC vF) :
    Con l Z mq3 jdk_42_method_149_code 6 none ws ({ frames := 2, cells := 1, slots := 1, locals := 35 } : Room) #[(.ref a0b), (.ref a1), (.int 0), (.int 1), .null] h0 (fun v h L => v = none ∧ Fr n0 L ∧ Keep h0 h [a0b] ∧ Exa Z h a0b "java/lang/String" ∧ Fld Z h a0b "java/lang/String" "coder" "B" (.int 0) ∧ ∃ (t : Addr) (kt : ClassId), h0.size ≤ t ∧ Fld Z h a0b "java/lang/String" "value" "[B" (.ref t) ∧ Arv Z h t kt .byte (1 : Int32) [(.int (nar .byte (c0.toInt8.toInt32)))] (.int 0)) := by
  refine own_body (plainFor_of_name pn_java_lang_String) ?_
  intro p e s m below meth c s₁ hx hby hml hZ hown hnm hlk hret X0 e0
  have N0 := Fr.nil n0
  have D := @hb _ _ hby
  have K0 : Keep h0 h0 [a0b] := Keep.refl _ _
  refine Go.st (T' := s₁) (f' := (mkF m 0 #[rv a0b, rv a1, iv 0, iv 1, .val .null, .unset] [])) (fun _ k => castTop (by first | (simp [entryFrame, mkF, argsToLocals, Value.category]; done) | rfl) k) ?_
  have ⟨S_iC, nz_iC, S_vF, r_vF, S_wO, E_wO, S_wT, E_wT, V_wO, V_wT⟩ := WW
  have lt_wO := E_wO.lt
  have lt_wT := E_wT.lt
  have lt_a0b := E_a0b.lt
  have ne_wO_a0b : wO ≠ a0b := O0.ne lt_wO g_a0b
  have ne_wT_a0b : wT ≠ a0b := O0.ne lt_wT g_a0b
  have lt_a1 := V_a1.lt
  refine zan 1 X0 hx (D d2_0) rfl rfl ?_
  obtain ⟨T1, X1, e1, st1⟩ := initO X0 hx hZ hown (ww hw 11 rfl) (ww hw 12 rfl) (ww hw 13 rfl) e0 (g := (mkF m 1 #[rv a0b, rv a1, iv 0, iv 1, .val .null, .unset] [(.ref a0b)])) rfl (by rw [hml]; rfl) rfl (D d2_1) (by decide) (W := 0) (by show 2 * 0 + _ ≤ _; exact Nat.le_of_eq rfl) (by decide)
  refine zst 4 #[rv a0b, rv a1, iv 0, iv 1, .val .null, .unset] [] st1 ?_
  refine zin 5 X1 hx (D d2_4) rfl ?_
  refine zfy 27 X1 hx (D d2_5) (by decide) ?_
  obtain ⟨T2, X2, e2, st2⟩ := getS2 X1 hx hZ hown (host := "") (Or.inl (ww hw 77 rfl)) Via.refl e1 (S_iC.ext O0.2) (g := (mkF m 27 #[rv a0b, rv a1, iv 0, iv 1, .val .null, .unset] [])) rfl (D d2_27)
  refine zst 30 #[rv a0b, rv a1, iv 0, iv 1, .val .null, .unset] [(.int iC)] st2 ?_
  refine zfn 33 X2 hx (D d2_30) ((if0 _ _).trans (feq nz_iC).1) ?_
  refine zan 34 X2 hx (D d2_33) rfl rfl ?_
  refine zin 35 X2 hx (D d2_34) rfl ?_
  refine zin 36 X2 hx (D d2_35) rfl ?_
  refine gS 39 0 1 1 X2 N0 hx hZ (y := mq1) hown hml (ww hw 232 rfl) (ww hw 233 rfl) (ww hw 234 rfl) (st3_1 l Z a0 hw [] a1 k1 c0 h0 n0 O0 hc_c0 V_a1) (ww hw 235 rfl) e2 [(.ref a1), (.int 0), (.int 1)] [] (lenOf pd___CII__B rfl) (D d2_36) ?_
  rintro T3 L3 M3 _ X3 uu3 ⟨b3, kb3, rfl, Nq3, zq3, kq3, vq3⟩
  have N3 := uu3 Nq3
  have ne_a0b_b3 : a0b ≠ b3 := Nat.ne_of_lt (Nat.lt_of_lt_of_le lt_a0b zq3)
  have ne_a1_b3 : a1 ≠ b3 := Nat.ne_of_lt (Nat.lt_of_lt_of_le lt_a1 zq3)
  have ne_wO_b3 : wO ≠ b3 := Nat.ne_of_lt (Nat.lt_of_lt_of_le lt_wO (Nat.le_trans O0.2.1 zq3))
  have ne_wT_b3 : wT ≠ b3 := Nat.ne_of_lt (Nat.lt_of_lt_of_le lt_wT (Nat.le_trans O0.2.1 zq3))
  have g_b3 : n0 ≤ b3 := Nat.le_trans (O0.1 ▸ O0.2.1) zq3
  have sz_b3 : h0.size ≤ b3 := Nat.le_trans K0.1 zq3
  have O3 : Old Z n0 T3.heap := O0.keep kq3 all0
  have K3 : Keep h0 T3.heap [a0b] := K0.trans kq3 all0
  have lt_b3 := vq3.lt
  refine zsk [(.ref b3)] ?_
  refine zrl 41 #[rv a0b, rv a1, iv 0, iv 1, .val .null, rv b3] X3 hx (D d2_39) rfl ?_
  refine zan 42 X3 hx (D d2_41) rfl rfl ?_
  refine zal 44 X3 hx (D d2_42) rfl rfl ?_
  refine zin 45 X3 hx (D d2_44) rfl ?_
  refine gS 48 1 1 1 X3 N3 hx hZ (y := mq2) hown hml (ww hw 239 rfl) (ww hw 240 rfl) (ww hw 234 rfl) (stc_1 l Z a0 hw [] b3 kb3 (nar .byte (c0.toInt8.toInt32)) T3.heap n0 O3 vq3) (ww hw 241 rfl) rfl [(.ref b3), (.int 1)] [(.ref a0b)] (lenOf pd___BI_B rfl) (D d2_45) ?_
  rintro T4 L4 M4 _ X4 uu4 ⟨rfl, Nq4, kq4⟩
  have N4 := uu4 Nq4
  refine zsk [(.int 0), (.ref a0b)] ?_
  have ft5 := (E_a0b.keep kq3)
  have ft6 := (F_a0b_coder.keep kq3 nin0)
  obtain ⟨T7, h7, X7, e7, W7, st7⟩ := putFN X4 hx hZ hown (ww hw 21 rfl) Via.refl kq4 ft6 ft5 (Or.inr ⟨(ww hw 17 rfl), rfl, hnm⟩) (ww hw 2 rfl) (ty := .byte) (v' := (.int (0 : Int32))) (by decide) rfl (by decide) (g := (mkF m 48 #[rv a0b, rv a1, iv 0, iv 1, .val .null, rv b3] [(.int 0), (.ref a0b)])) rfl rfl (D d2_48)
  have N7 := Fr.snoc X7 N4 g_a0b
  have O7 : Old Z n0 h7 := O3.wr W7 g_a0b
  have K7 : Keep h0 h7 [a0b] := K3.wr W7 (Or.inl (List.mem_of_getElem? (i := 0) rfl))
  have Fw7 := ft6.same W7
  refine zst 51 #[rv a0b, rv a1, iv 0, iv 1, .val .null, rv b3] [] st7 ?_
  refine zan 52 X7 hx (D d2_51) rfl rfl ?_
  refine zal 54 X7 hx (D d2_52) rfl rfl ?_
  have ft8 := (ft5.wr W7)
  have ft9 := ((F_a0b_value.keep kq3 nin0).other W7 (Or.inr (slot_ne (Or.inr (ww hw 16 rfl)) (Or.inr (ww hw 17 rfl)) (by decide) (t := (.array .byte)) (t' := .byte) (by decide) (by decide))))
  obtain ⟨T10, h10, X10, e10, W10, st10⟩ := putF X7 hx hZ hown (host := "") (Or.inl (ww hw 20 rfl)) Via.refl e7 ft9 ft8 (Or.inr ⟨(ww hw 16 rfl), rfl, hnm⟩) (ww hw 2 rfl) (ty := (.array .byte)) (by decide) rfl rfl (g := (mkF m 54 #[rv a0b, rv a1, iv 0, iv 1, .val .null, rv b3] [(.ref b3), (.ref a0b)])) rfl rfl (D d2_54)
  have N10 := Fr.snoc X10 N7 g_a0b
  have O10 : Old Z n0 h10 := O7.wr W10 g_a0b
  have K10 : Keep h0 h10 [a0b] := K7.wr W10 (Or.inl (List.mem_of_getElem? (i := 0) rfl))
  have Fw10 := ft9.same W10
  refine zst 57 #[rv a0b, rv a1, iv 0, iv 1, .val .null, rv b3] [] st10 ?_
  refine Go.ret0 X10 hlk hx hret (D d2_57) e10 ?_ (by decide) (by decide)
  have ft11 := (ft8.wr W10)
  have ft12 := (Fw7.other W10 (Or.inr (slot_ne (Or.inr (ww hw 17 rfl)) (Or.inr (ww hw 16 rfl)) (by decide) (t := .byte) (t' := (.array .byte)) (by decide) (by decide))))
  have ft13 := ((vq3.other W7 (Ne.symm ne_a0b_b3)).other W10 (Ne.symm ne_a0b_b3))
  exact ⟨rfl, N10, K10, ft11, ft12, b3, kb3, sz_b3, Fw10, ft13⟩
theorem d1_0 : decode jdk_42_method_3_code 0 = .ok (.aload_n 0, 1) := by decide +kernel
theorem d1_1 : decode jdk_42_method_3_code 1 = .ok (.aload_n 1, 1) := by decide +kernel
theorem d1_2 : decode jdk_42_method_3_code 2 = .ok (.iconst 0, 1) := by decide +kernel
theorem d1_3 : decode jdk_42_method_3_code 3 = .ok (.aload_n 1, 1) := by decide +kernel
theorem d1_4 : decode jdk_42_method_3_code 4 = .ok (.arraylength, 1) := by decide +kernel
theorem d1_5 : decode jdk_42_method_3_code 5 = .ok (.aconst_null, 1) := by decide +kernel
theorem d1_6 : decode jdk_42_method_3_code 6 = .ok (.invokespecial 27, 3) := by decide +kernel
theorem pd___CIILjava_lang_Void__V : parseMethodDescriptor "([CIILjava/lang/Void;)V" = some ⟨[(.array .char), .int, .int, (.object "java/lang/Void")], none⟩ := by decide +kernel
theorem d1_9 : decode jdk_42_method_3_code 9 = .ok (.return_, 1) := by decide +kernel
set_option maxRecDepth 65536 in
set_option maxHeartbeats 40000000 in
theorem st1_1 (l : Launch) (Z : State) (a0 : Array Value) (hw : ∀ d ∈ tables_1, d.before a0 Z = true) (ws : List Jvm.Cond) (a0b : Addr) (a1 : Addr) (k1 : ClassId) (c0 : Int32) (wO : Addr) (wT : Addr) (kO : ClassId) (kT : ClassId) (iC : Int32) (vF : Value) (h0 : Heap) (n0 : Nat) (O0 : Old Z n0 h0) (hc_c0 : ¬ (255 : Int32) < c0) (g_a0b : n0 ≤ a0b) (nb1 : a0b ≠ a1) (E_a0b : Exa Z h0 a0b "java/lang/String") (F_a0b_coder : Fld Z h0 a0b "java/lang/String" "coder" "B" (.int 0)) (F_a0b_value : Fld Z h0 a0b "java/lang/String" "value" "[B" .null) (V_a1 : Arv Z h0 a1 k1 .char (1 : Int32) [(.int c0)] (.int 0)) (WW : World1 Z wO wT kO kT iC vF) :
    Con l Z mq4 jdk_42_method_3_code 2 none ws ({ frames := 3, cells := 1, slots := 1, locals := 52 } : Room) #[(.ref a0b), (.ref a1)] h0 (fun v h L => v = none ∧ Fr n0 L ∧ Keep h0 h [a0b] ∧ Exa Z h a0b "java/lang/String" ∧ Fld Z h a0b "java/lang/String" "coder" "B" (.int 0) ∧ ∃ (t : Addr) (kt : ClassId), h0.size ≤ t ∧ Fld Z h a0b "java/lang/String" "value" "[B" (.ref t) ∧ Arv Z h t kt .byte (1 : Int32) [(.int (nar .byte (c0.toInt8.toInt32)))] (.int 0)) := by
  refine own_body (plainFor_of_name pn_java_lang_String) ?_
  intro p e s m below meth c s₁ hx hby hml hZ hown hnm hlk hret X0 e0
  have N0 := Fr.nil n0
  have D := @hb _ _ hby
  have K0 : Keep h0 h0 [a0b] := Keep.refl _ _
  refine Go.st (T' := s₁) (f' := (mkF m 0 #[rv a0b, rv a1] [])) (fun _ k => castTop (by first | (simp [entryFrame, mkF, argsToLocals, Value.category]; done) | rfl) k) ?_
  have ⟨S_iC, nz_iC, S_vF, r_vF, S_wO, E_wO, S_wT, E_wT, V_wO, V_wT⟩ := WW
  have lt_wO := E_wO.lt
  have lt_wT := E_wT.lt
  have lt_a0b := E_a0b.lt
  have ne_wO_a0b : wO ≠ a0b := O0.ne lt_wO g_a0b
  have ne_wT_a0b : wT ≠ a0b := O0.ne lt_wT g_a0b
  have lt_a1 := V_a1.lt
  refine zan 1 X0 hx (D d1_0) rfl rfl ?_
  refine zan 2 X0 hx (D d1_1) rfl rfl ?_
  refine zic 3 0 X0 hx (D d1_2) ?_
  refine zan 4 X0 hx (D d1_3) rfl rfl ?_
  obtain ⟨cl1, Ar1, -, S1, Nx1, -, -⟩ := id V_a1
  refine Go.st (T' := s₁) (f' := (mkF m 5 #[rv a0b, rv a1] [(.int 1), (.int 0), (.ref a1), (.ref a0b)])) (fun _ k => X0.arraylength hx (by rw [e0]; exact Ar1.1) (State.isArrayOf_alike hZ.alike Ar1.2.1) (g := (mkF m 4 #[rv a0b, rv a1] [(.ref a1), (.int 0), (.ref a1), (.ref a0b)])) rfl rfl (D d1_4) _ (by rw [len_of S1 Nx1]; exact k)) ?_
  refine Go.st (f' := (mkF m 6 #[rv a0b, rv a1] [.null, (.int 1), (.int 0), (.ref a1), (.ref a0b)])) (fun _ k => XS.aconstNull X0.here hx rfl (D d1_5) k) ?_
  obtain ⟨_, _, ⟨T2, L2, kk2, nn2⟩, -, X2, ⟨Lc2, hQ2, lq2, yq2, zz2⟩, st2⟩ := X0.specialBack hx (y := mq3) rfl hown (mvT hZ (ww hw 7 rfl)) (mvT hZ (ww hw 8 rfl)) (mvT hZ (ww hw 10 rfl)) (by decide) (own_back (W := 0) (stv_1 l Z a0 hw [] a0b a1 k1 c0 wO wT kO kT iC vF h0 n0 O0 hc_c0 g_a0b nb1 E_a0b F_a0b_coder F_a0b_value V_a1 WW) hZ (ww hw 10 rfl) (ww hw 3 rfl) (by decide) (by decide)) (g := (mkF m 6 #[rv a0b, rv a1] [.null, (.int 1), (.int 0), (.ref a1), (.ref a0b)])) rfl (by rw [hml]; rfl) (Steps.refl _) (a := a0b) (argsL := [(.ref a1), (.int (0 : Int32)), (.int (1 : Int32)), .null]) (rest := []) (lenOf pd___CIILjava_lang_Void__V rfl) rfl (by show 2 * 0 + _ ≤ _; exact Nat.le_of_eq rfl) (D d1_6) (fun _ _ => ⟨rfl, e0, (by decide : 0 + 1 ≤ _), (by decide : 0 + 1 ≤ _)⟩)
  dsimp only [Pt.U, Pt.locs, Pt.cells, Pt.slots] at X2 lq2 yq2 zz2 st2 hQ2
  subst lq2 yq2 zz2
  obtain ⟨rfl, Nq2, kq2, eq2, cq2, tt2, kt2, zq2, fq2, vq2⟩ := hQ2
  have N2 := Fr.app N0 Nq2
  have ne_a0b_tt2 : a0b ≠ tt2 := Nat.ne_of_lt (Nat.lt_of_lt_of_le lt_a0b zq2)
  have ne_a1_tt2 : a1 ≠ tt2 := Nat.ne_of_lt (Nat.lt_of_lt_of_le lt_a1 zq2)
  have ne_wO_tt2 : wO ≠ tt2 := Nat.ne_of_lt (Nat.lt_of_lt_of_le lt_wO (Nat.le_trans O0.2.1 zq2))
  have ne_wT_tt2 : wT ≠ tt2 := Nat.ne_of_lt (Nat.lt_of_lt_of_le lt_wT (Nat.le_trans O0.2.1 zq2))
  have g_tt2 : n0 ≤ tt2 := Nat.le_trans (O0.1 ▸ O0.2.1) zq2
  have sz_tt2 : h0.size ≤ tt2 := Nat.le_trans K0.1 zq2
  have O2 : Old Z n0 T2.heap := O0.keep kq2 (allS g_a0b all0)
  have K2 : Keep h0 T2.heap [a0b] := K0.trans kq2 (allS (Or.inl (List.mem_of_getElem? (i := 0) rfl)) all0)
  have lt_tt2 := vq2.lt
  refine Go.tr (f' := (mkF m 9 #[rv a0b, rv a1] [])) st2 ?_
  refine Go.ret0 X2 hlk hx hret (D d1_9) rfl ?_ (by decide) (by decide)
  exact ⟨rfl, N2, K2, eq2, cq2, tt2, kt2, sz_tt2, fq2, vq2⟩
set_option maxRecDepth 65536 in
set_option maxHeartbeats 40000000 in
theorem st5_2 (l : Launch) (Z : State) (a0 : Array Value) (hw : ∀ d ∈ tables_1, d.before a0 Z = true) (ws : List Jvm.Cond) (a2 : Addr) (k2 : ClassId) (a1 : Addr) (k1 : ClassId) (c0 : Int32) (c1 : Int32) (h0 : Heap) (n0 : Nat) (O0 : Old Z n0 h0) (hc_c0 : ¬ (255 : Int32) < c0) (hc_c1 : ¬ (255 : Int32) < c1) (ne12 : a1 ≠ a2) (g_a2 : n0 ≤ a2) (V_a1 : Arv Z h0 a1 k1 .char (2 : Int32) [(.int c0), (.int c1)] (.int 0)) (V_a2 : Arv Z h0 a2 k2 .byte (2 : Int32) [(.int 0), (.int 0)] (.int 0)) :
    Con l Z mq0 jdk_52_method_21_code 7 (some .int) ws ({ frames := 0, cells := 0, slots := 0, locals := 0 } : Room) #[(.ref a1), (.int 0), (.ref a2), (.int 0), (.int 2)] h0 (fun v h L => v = some (.int 2) ∧ Fr n0 L ∧ Keep h0 h [a2] ∧ Arv Z h a2 k2 .byte (2 : Int32) [(.int (nar .byte (c0.toInt8.toInt32))), (.int (nar .byte (c1.toInt8.toInt32)))] (.int 0)) := by
  refine own_body (plainFor_of_name pn_java_lang_StringUTF16) ?_
  intro p e s m below meth c s₁ hx hby hml hZ hown hnm hlk hret X0 e0
  have N0 := Fr.nil n0
  have D := @hb _ _ hby
  have K0 : Keep h0 h0 [a2] := Keep.refl _ _
  refine Go.st (T' := s₁) (f' := (mkF m 0 #[rv a1, iv 0, rv a2, iv 0, iv 2, .unset, .unset] [])) (fun _ k => castTop (by first | (simp [entryFrame, mkF, argsToLocals, Value.category]; done) | rfl) k) ?_
  have lt_a1 := V_a1.lt
  have lt_a2 := V_a2.lt
  refine zic 1 0 X0 hx (D d47_0) ?_
  refine zsl 3 #[rv a1, iv 0, rv a2, iv 0, iv 2, iv 0, .unset] X0 hx (D d47_1) ?_
  refine zil 5 X0 hx (D d47_3) rfl ?_
  refine zil 7 X0 hx (D d47_5) rfl ?_
  refine zcn 10 X0 hx (D d47_7) (by decide) ?_
  refine zan 11 X0 hx (D d47_10) rfl rfl ?_
  refine zin 12 X0 hx (D d47_11) rfl ?_
  obtain ⟨cl1, Ar1, -, S1, -, H1, -⟩ := id V_a1
  have hin1 : ¬ ((0 : Int32) < 0 ∨ cl1.slots.size ≤ ((0 : Int32)).toNatClampNeg) := inb_of S1 ⟨by decide, by decide⟩
  have hat1 : cl1.slots[((0 : Int32)).toNatClampNeg]? = some (.int c0) := H1.at hin1 rfl
  refine Go.st (f' := (mkF m 13 #[rv a1, iv 0, rv a2, iv 0, iv 2, iv 0, .unset] [(.int c0)])) (fun _ k => X0.caload hx (j := (0 : Int32)) (v := (.int c0)) (by rw [e0]; exact Ar1.1) (State.isArrayOf_alike hZ.alike Ar1.2.1) Ar1.2.2 hin1 hat1 (g := (mkF m 12 #[rv a1, iv 0, rv a2, iv 0, iv 2, iv 0, .unset] [(.int 0), (.ref a1)])) rfl rfl (D d47_12) _ k) ?_
  refine zsl 15 #[rv a1, iv 0, rv a2, iv 0, iv 2, iv 0, iv c0] X0 hx (D d47_13) ?_
  refine zil 17 X0 hx (D d47_15) rfl ?_
  refine Go.st (f' := (mkF m 20 #[rv a1, iv 0, rv a2, iv 0, iv 2, iv 0, iv c0] [(.int 255), (.int c0)])) (fun _ k => XS.sipush X0.here hx rfl (D d47_17) k) ?_
  refine zcy 26 X0 hx (D d47_20) (flt hc_c0).2.2.2 ?_
  refine zan 27 X0 hx (D d47_26) rfl rfl ?_
  refine zin 28 X0 hx (D d47_27) rfl ?_
  refine zil 30 X0 hx (D d47_28) rfl ?_
  refine Go.st (f' := (mkF m 31 #[rv a1, iv 0, rv a2, iv 0, iv 2, iv 0, iv c0] [(.int (c0.toInt8.toInt32)), (.int 0), (.ref a2)])) (fun _ k => XS.i2b X0.here hx rfl (D d47_30) rfl k) ?_
  obtain ⟨cl2, Ar2, q2, S2, Nx2, H2, G2⟩ := id V_a2
  have hin2 : ¬ ((0 : Int32) < 0 ∨ cl2.slots.size ≤ ((0 : Int32)).toNatClampNeg) := inb_of S2 ⟨by decide, by decide⟩
  obtain ⟨T3, h3, X3, e3, W3, st3⟩ := stB X0 hx hZ e0 Ar2 (j := (0 : Int32)) hin2 (g := (mkF m 31 #[rv a1, iv 0, rv a2, iv 0, iv 2, iv 0, iv c0] [(.int (c0.toInt8.toInt32)), (.int 0), (.ref a2)])) rfl rfl (D d47_31)
  have V_a2_3 : Arv Z h3 a2 k2 .byte (2 : Int32) [(.int (nar .byte (c0.toInt8.toInt32))), (.int (0 : Int32))] (.int (0 : Int32)) := Arv.set Ar2 q2 S2 Nx2 H2 G2 (fits_nar_byte _) W3 0 rfl (Nat.le_of_ble_eq_true rfl)
  have N3 := Fr.snoc X3 N0 g_a2
  have O3 : Old Z n0 h3 := O0.wr W3 g_a2
  have K3 : Keep h0 h3 [a2] := K0.wr W3 (Or.inl (List.mem_of_getElem? (i := 0) rfl))
  refine zst 32 #[rv a1, iv 0, rv a2, iv 0, iv 2, iv 0, iv c0] [] st3 ?_
  refine zii 35 #[rv a1, iv 1, rv a2, iv 0, iv 2, iv 0, iv c0] X3 hx (D d47_32) rfl ?_
  refine zii 38 #[rv a1, iv 1, rv a2, iv 1, iv 2, iv 0, iv c0] X3 hx (D d47_35) rfl ?_
  refine zii 41 #[rv a1, iv 1, rv a2, iv 1, iv 2, iv 1, iv c0] X3 hx (D d47_38) rfl ?_
  refine zgo 3 X3 hx (D d47_41) ?_
  refine zil 5 X3 hx (D d47_3) rfl ?_
  refine zil 7 X3 hx (D d47_5) rfl ?_
  refine zcn 10 X3 hx (D d47_7) (by decide) ?_
  refine zan 11 X3 hx (D d47_10) rfl rfl ?_
  refine zin 12 X3 hx (D d47_11) rfl ?_
  have ft5 := (V_a1.other W3 ne12)
  obtain ⟨cl4, Ar4, -, S4, -, H4, -⟩ := id ft5
  have hin4 : ¬ ((1 : Int32) < 0 ∨ cl4.slots.size ≤ ((1 : Int32)).toNatClampNeg) := inb_of S4 ⟨by decide, by decide⟩
  have hat4 : cl4.slots[((1 : Int32)).toNatClampNeg]? = some (.int c1) := H4.at hin4 rfl
  refine Go.st (f' := (mkF m 13 #[rv a1, iv 1, rv a2, iv 1, iv 2, iv 1, iv c0] [(.int c1)])) (fun _ k => X3.caload hx (j := (1 : Int32)) (v := (.int c1)) (by rw [e3]; exact Ar4.1) (State.isArrayOf_alike hZ.alike Ar4.2.1) Ar4.2.2 hin4 hat4 (g := (mkF m 12 #[rv a1, iv 1, rv a2, iv 1, iv 2, iv 1, iv c0] [(.int 1), (.ref a1)])) rfl rfl (D d47_12) _ k) ?_
  refine zsl 15 #[rv a1, iv 1, rv a2, iv 1, iv 2, iv 1, iv c1] X3 hx (D d47_13) ?_
  refine zil 17 X3 hx (D d47_15) rfl ?_
  refine Go.st (f' := (mkF m 20 #[rv a1, iv 1, rv a2, iv 1, iv 2, iv 1, iv c1] [(.int 255), (.int c1)])) (fun _ k => XS.sipush X3.here hx rfl (D d47_17) k) ?_
  refine zcy 26 X3 hx (D d47_20) (flt hc_c1).2.2.2 ?_
  refine zan 27 X3 hx (D d47_26) rfl rfl ?_
  refine zin 28 X3 hx (D d47_27) rfl ?_
  refine zil 30 X3 hx (D d47_28) rfl ?_
  refine Go.st (f' := (mkF m 31 #[rv a1, iv 1, rv a2, iv 1, iv 2, iv 1, iv c1] [(.int (c1.toInt8.toInt32)), (.int 1), (.ref a2)])) (fun _ k => XS.i2b X3.here hx rfl (D d47_30) rfl k) ?_
  obtain ⟨cl6, Ar6, q6, S6, Nx6, H6, G6⟩ := id V_a2_3
  have hin6 : ¬ ((1 : Int32) < 0 ∨ cl6.slots.size ≤ ((1 : Int32)).toNatClampNeg) := inb_of S6 ⟨by decide, by decide⟩
  obtain ⟨T7, h7, X7, e7, W7, st7⟩ := stB X3 hx hZ e3 Ar6 (j := (1 : Int32)) hin6 (g := (mkF m 31 #[rv a1, iv 1, rv a2, iv 1, iv 2, iv 1, iv c1] [(.int (c1.toInt8.toInt32)), (.int 1), (.ref a2)])) rfl rfl (D d47_31)
  have V_a2_7 : Arv Z h7 a2 k2 .byte (2 : Int32) [(.int (nar .byte (c0.toInt8.toInt32))), (.int (nar .byte (c1.toInt8.toInt32)))] (.int (0 : Int32)) := Arv.set Ar6 q6 S6 Nx6 H6 G6 (fits_nar_byte _) W7 1 rfl (Nat.le_of_ble_eq_true rfl)
  have N7 := Fr.snoc X7 N3 g_a2
  have O7 : Old Z n0 h7 := O3.wr W7 g_a2
  have K7 : Keep h0 h7 [a2] := K3.wr W7 (Or.inl (List.mem_of_getElem? (i := 0) rfl))
  refine zst 32 #[rv a1, iv 1, rv a2, iv 1, iv 2, iv 1, iv c1] [] st7 ?_
  refine zii 35 #[rv a1, iv 2, rv a2, iv 1, iv 2, iv 1, iv c1] X7 hx (D d47_32) rfl ?_
  refine zii 38 #[rv a1, iv 2, rv a2, iv 2, iv 2, iv 1, iv c1] X7 hx (D d47_35) rfl ?_
  refine zii 41 #[rv a1, iv 2, rv a2, iv 2, iv 2, iv 2, iv c1] X7 hx (D d47_38) rfl ?_
  refine zgo 3 X7 hx (D d47_41) ?_
  refine zil 5 X7 hx (D d47_3) rfl ?_
  refine zil 7 X7 hx (D d47_5) rfl ?_
  refine zcy 44 X7 hx (D d47_7) (by decide) ?_
  refine zil 46 X7 hx (D d47_44) rfl ?_
  refine Go.retV X7 hlk hx (t := .int) hret rfl (Or.inl ⟨rfl, Or.inl rfl, _, rfl⟩) (D d47_46) e7 ?_ (by decide) (by decide)
  exact ⟨rfl, N7, K7, V_a2_7⟩
set_option maxRecDepth 65536 in
set_option maxHeartbeats 40000000 in
theorem st3_2 (l : Launch) (Z : State) (a0 : Array Value) (hw : ∀ d ∈ tables_1, d.before a0 Z = true) (ws : List Jvm.Cond) (a1 : Addr) (k1 : ClassId) (c0 : Int32) (c1 : Int32) (h0 : Heap) (n0 : Nat) (O0 : Old Z n0 h0) (hc_c0 : ¬ (255 : Int32) < c0) (hc_c1 : ¬ (255 : Int32) < c1) (V_a1 : Arv Z h0 a1 k1 .char (2 : Int32) [(.int c0), (.int c1)] (.int 0)) :
    Con l Z mq1 jdk_52_method_16_code 6 (some (.array .byte)) ws ({ frames := 1, cells := 1, slots := 2, locals := 18 } : Room) #[(.ref a1), (.int 0), (.int 2)] h0 (fun v h L => ∃ (b : Addr) (kb : ClassId), v = some (.ref b) ∧ Fr n0 L ∧ h0.size ≤ b ∧ Keep h0 h [] ∧ Arv Z h b kb .byte (2 : Int32) [(.int (nar .byte (c0.toInt8.toInt32))), (.int (nar .byte (c1.toInt8.toInt32)))] (.int 0)) := by
  refine own_body (plainFor_of_name pn_java_lang_StringUTF16) ?_
  intro p e s m below meth c s₁ hx hby hml hZ hown hnm hlk hret X0 e0
  have N0 := Fr.nil n0
  have D := @hb _ _ hby
  have K0 : Keep h0 h0 [] := Keep.refl _ _
  refine Go.st (T' := s₁) (f' := (mkF m 0 #[rv a1, iv 0, iv 2, .unset, .unset, .unset] [])) (fun _ k => castTop (by first | (simp [entryFrame, mkF, argsToLocals, Value.category]; done) | rfl) k) ?_
  have lt_a1 := V_a1.lt
  refine zin 1 X0 hx (D d46_0) rfl ?_
  obtain ⟨T1, h1, kc1, X1, e1, E1, A1, st1⟩ := newP X0 hx hZ (ww hw 15 rfl) e0 (g := (mkF m 1 #[rv a1, iv 0, iv 2, .unset, .unset, .unset] [(.int 2)])) rfl (D d46_1) rfl (by decide) (cap := 2) (by decide) (by decide) (by decide) (by decide)
  obtain ⟨b1, g1⟩ : ∃ z, z = h0.size := ⟨_, rfl⟩
  rw [← g1] at A1 st1
  have ne_a1_b1 : a1 ≠ b1 := Nat.ne_of_lt (Nat.lt_of_lt_of_eq lt_a1 g1.symm)
  have g_b1 : n0 ≤ b1 := Nat.le_trans (O0.1 ▸ O0.2.1) (Nat.le_of_eq g1.symm)
  have O1 : Old Z n0 h1 := O0.ext E1
  have sz_b1 : h0.size ≤ b1 := Nat.le_trans K0.1 (Nat.le_of_eq g1.symm)
  have K1 : Keep h0 h1 [] := K0.ext E1
  have V_b1 : Arv Z h1 b1 kc1 .byte (2 : Int32) [(.int (0 : Int32)), (.int (0 : Int32))] (.int (0 : Int32)) := (Arv.new A1 (by decide)).pad (pad_rep [] (.int (0 : Int32)) 2)
  have lt_b1 := V_b1.lt
  refine zst 3 #[rv a1, iv 0, iv 2, .unset, .unset, .unset] [(.ref b1)] st1 ?_
  refine zrn 4 #[rv a1, iv 0, iv 2, rv b1, .unset, .unset] X1 hx (D d46_3) rfl ?_
  refine zan 5 X1 hx (D d46_4) rfl rfl ?_
  refine zin 6 X1 hx (D d46_5) rfl ?_
  refine zan 7 X1 hx (D d46_6) rfl rfl ?_
  refine zic 8 0 X1 hx (D d46_7) ?_
  refine zin 9 X1 hx (D d46_8) rfl ?_
  have ft3 := (V_a1.ext E1)
  refine gS 12 0 1 2 X1 N0 hx hZ (y := mq0) hown hml (ww hw 236 rfl) (ww hw 237 rfl) (ww hw 234 rfl) (st5_2 l Z a0 hw [] b1 kc1 a1 k1 c0 c1 h1 n0 O1 hc_c0 hc_c1 ne_a1_b1 g_b1 ft3 V_b1) (ww hw 238 rfl) e1 [(.ref a1), (.int 0), (.ref b1), (.int 0), (.int 2)] [] (lenOf pd___CI_BII_I rfl) (D d46_9) ?_
  rintro T2 L2 M2 _ X2 uu2 ⟨rfl, Nq2, kq2, vq2⟩
  have N2 := uu2 Nq2
  have O2 : Old Z n0 T2.heap := O1.keep kq2 (allS g_b1 all0)
  have K2 : Keep h0 T2.heap [] := K1.trans kq2 (allS (Or.inr sz_b1) all0)
  refine zsk [(.int 2)] ?_
  refine zsl 14 #[rv a1, iv 0, iv 2, rv b1, iv 2, .unset] X2 hx (D d46_12) ?_
  refine zil 16 X2 hx (D d46_14) rfl ?_
  refine zin 17 X2 hx (D d46_16) rfl ?_
  refine zcy 57 X2 hx (D d46_17) (by decide) ?_
  refine zan 58 X2 hx (D d46_57) rfl rfl ?_
  refine Go.retV X2 hlk hx (t := (.array .byte)) hret rfl (Or.inr (Or.inr (Or.inr (Or.inr ⟨rfl, rfl, rfl⟩)))) (D d46_58) rfl ?_ (by decide) (by decide)
  exact ⟨b1, kc1, rfl, N2, sz_b1, K2, vq2⟩
set_option maxRecDepth 65536 in
set_option maxHeartbeats 40000000 in
theorem stc_2 (l : Launch) (Z : State) (a0 : Array Value) (hw : ∀ d ∈ tables_1, d.before a0 Z = true) (ws : List Jvm.Cond) (a1 : Addr) (k1 : ClassId) (x0 : Int32) (x1 : Int32) (h0 : Heap) (n0 : Nat) (O0 : Old Z n0 h0) (V_a1 : Arv Z h0 a1 k1 .byte (2 : Int32) [(.int x0), (.int x1)] (.int 0)) :
    Con l Z mq2 jdk_52_method_15_code 2 (some .byte) ws ({ frames := 0, cells := 0, slots := 0, locals := 0 } : Room) #[(.ref a1), (.int 2)] h0 (fun v h L => v = some (.int 0) ∧ Fr n0 L ∧ h = h0) := by
  refine own_body (plainFor_of_name pn_java_lang_StringUTF16) ?_
  intro p e s m below meth c s₁ hx hby hml hZ hown hnm hlk hret X0 e0
  have N0 := Fr.nil n0
  have D := @hb _ _ hby
  refine Go.st (T' := s₁) (f' := (mkF m 0 #[rv a1, iv 2] [])) (fun _ k => castTop (by first | (simp [entryFrame, mkF, argsToLocals, Value.category]; done) | rfl) k) ?_
  have lt_a1 := V_a1.lt
  refine zin 1 X0 hx (D d48_0) rfl ?_
  refine zan 2 X0 hx (D d48_1) rfl rfl ?_
  obtain ⟨cl1, Ar1, -, S1, Nx1, -, -⟩ := id V_a1
  refine Go.st (T' := s₁) (f' := (mkF m 3 #[rv a1, iv 2] [(.int 2), (.int 2)])) (fun _ k => X0.arraylength hx (by rw [e0]; exact Ar1.1) (State.isArrayOf_alike hZ.alike Ar1.2.1) (g := (mkF m 2 #[rv a1, iv 2] [(.ref a1), (.int 2)])) rfl rfl (D d48_2) _ (by rw [len_of S1 Nx1]; exact k)) ?_
  refine Go.st (f' := (mkF m 4 #[rv a1, iv 2] [(.int 0)])) (fun _ k => XS.isub X0.here hx rfl (D d48_3) rfl k) ?_
  refine zbp 6 31 X0 hx (D d48_4) ?_
  refine Go.st (f' := (mkF m 7 #[rv a1, iv 2] [(.int 0)])) (fun _ k => XS.iushr X0.here hx rfl (D d48_6) rfl k) ?_
  refine Go.st (f' := (mkF m 8 #[rv a1, iv 2] [(.int 0)])) (fun _ k => XS.i2b X0.here hx rfl (D d48_7) rfl k) ?_
  refine Go.retB X0 hlk hx (t := .byte) hret (by simp) (D d48_8) e0 ?_ (by decide) (by decide)
  exact ⟨rfl, N0, rfl⟩
set_option maxRecDepth 65536 in
set_option maxHeartbeats 40000000 in
theorem stv_2 (l : Launch) (Z : State) (a0 : Array Value) (hw : ∀ d ∈ tables_1, d.before a0 Z = true) (ws : List Jvm.Cond) (a0b : Addr) (a1 : Addr) (k1 : ClassId) (c0 : Int32) (c1 : Int32) (wO : Addr) (wT : Addr) (kO : ClassId) (kT : ClassId) (iC : Int32) (vF : Value) (h0 : Heap) (n0 : Nat) (O0 : Old Z n0 h0) (hc_c0 : ¬ (255 : Int32) < c0) (hc_c1 : ¬ (255 : Int32) < c1) (g_a0b : n0 ≤ a0b) (nb1 : a0b ≠ a1) (E_a0b : Exa Z h0 a0b "java/lang/String") (F_a0b_coder : Fld Z h0 a0b "java/lang/String" "coder" "B" (.int 0)) (F_a0b_value : Fld Z h0 a0b "java/lang/String" "value" "[B" .null) (V_a1 : Arv Z h0 a1 k1 .char (2 : Int32) [(.int c0), (.int c1)] (.int 0)) (WW : World1 Z wO wT kO kT iC vF) :
    Con l Z mq3 jdk_42_method_149_code 6 none ws ({ frames := 2, cells := 1, slots := 2, locals := 35 } : Room) #[(.ref a0b), (.ref a1), (.int 0), (.int 2), .null] h0 (fun v h L => v = none ∧ Fr n0 L ∧ Keep h0 h [a0b] ∧ Exa Z h a0b "java/lang/String" ∧ Fld Z h a0b "java/lang/String" "coder" "B" (.int 0) ∧ ∃ (t : Addr) (kt : ClassId), h0.size ≤ t ∧ Fld Z h a0b "java/lang/String" "value" "[B" (.ref t) ∧ Arv Z h t kt .byte (2 : Int32) [(.int (nar .byte (c0.toInt8.toInt32))), (.int (nar .byte (c1.toInt8.toInt32)))] (.int 0)) := by
  refine own_body (plainFor_of_name pn_java_lang_String) ?_
  intro p e s m below meth c s₁ hx hby hml hZ hown hnm hlk hret X0 e0
  have N0 := Fr.nil n0
  have D := @hb _ _ hby
  have K0 : Keep h0 h0 [a0b] := Keep.refl _ _
  refine Go.st (T' := s₁) (f' := (mkF m 0 #[rv a0b, rv a1, iv 0, iv 2, .val .null, .unset] [])) (fun _ k => castTop (by first | (simp [entryFrame, mkF, argsToLocals, Value.category]; done) | rfl) k) ?_
  have ⟨S_iC, nz_iC, S_vF, r_vF, S_wO, E_wO, S_wT, E_wT, V_wO, V_wT⟩ := WW
  have lt_wO := E_wO.lt
  have lt_wT := E_wT.lt
  have lt_a0b := E_a0b.lt
  have ne_wO_a0b : wO ≠ a0b := O0.ne lt_wO g_a0b
  have ne_wT_a0b : wT ≠ a0b := O0.ne lt_wT g_a0b
  have lt_a1 := V_a1.lt
  refine zan 1 X0 hx (D d2_0) rfl rfl ?_
  obtain ⟨T1, X1, e1, st1⟩ := initO X0 hx hZ hown (ww hw 11 rfl) (ww hw 12 rfl) (ww hw 13 rfl) e0 (g := (mkF m 1 #[rv a0b, rv a1, iv 0, iv 2, .val .null, .unset] [(.ref a0b)])) rfl (by rw [hml]; rfl) rfl (D d2_1) (by decide) (W := 0) (by show 2 * 0 + _ ≤ _; exact Nat.le_of_eq rfl) (by decide)
  refine zst 4 #[rv a0b, rv a1, iv 0, iv 2, .val .null, .unset] [] st1 ?_
  refine zin 5 X1 hx (D d2_4) rfl ?_
  refine zfy 27 X1 hx (D d2_5) (by decide) ?_
  obtain ⟨T2, X2, e2, st2⟩ := getS2 X1 hx hZ hown (host := "") (Or.inl (ww hw 77 rfl)) Via.refl e1 (S_iC.ext O0.2) (g := (mkF m 27 #[rv a0b, rv a1, iv 0, iv 2, .val .null, .unset] [])) rfl (D d2_27)
  refine zst 30 #[rv a0b, rv a1, iv 0, iv 2, .val .null, .unset] [(.int iC)] st2 ?_
  refine zfn 33 X2 hx (D d2_30) ((if0 _ _).trans (feq nz_iC).1) ?_
  refine zan 34 X2 hx (D d2_33) rfl rfl ?_
  refine zin 35 X2 hx (D d2_34) rfl ?_
  refine zin 36 X2 hx (D d2_35) rfl ?_
  refine gS 39 0 1 2 X2 N0 hx hZ (y := mq1) hown hml (ww hw 232 rfl) (ww hw 233 rfl) (ww hw 234 rfl) (st3_2 l Z a0 hw [] a1 k1 c0 c1 h0 n0 O0 hc_c0 hc_c1 V_a1) (ww hw 235 rfl) e2 [(.ref a1), (.int 0), (.int 2)] [] (lenOf pd___CII__B rfl) (D d2_36) ?_
  rintro T3 L3 M3 _ X3 uu3 ⟨b3, kb3, rfl, Nq3, zq3, kq3, vq3⟩
  have N3 := uu3 Nq3
  have ne_a0b_b3 : a0b ≠ b3 := Nat.ne_of_lt (Nat.lt_of_lt_of_le lt_a0b zq3)
  have ne_a1_b3 : a1 ≠ b3 := Nat.ne_of_lt (Nat.lt_of_lt_of_le lt_a1 zq3)
  have ne_wO_b3 : wO ≠ b3 := Nat.ne_of_lt (Nat.lt_of_lt_of_le lt_wO (Nat.le_trans O0.2.1 zq3))
  have ne_wT_b3 : wT ≠ b3 := Nat.ne_of_lt (Nat.lt_of_lt_of_le lt_wT (Nat.le_trans O0.2.1 zq3))
  have g_b3 : n0 ≤ b3 := Nat.le_trans (O0.1 ▸ O0.2.1) zq3
  have sz_b3 : h0.size ≤ b3 := Nat.le_trans K0.1 zq3
  have O3 : Old Z n0 T3.heap := O0.keep kq3 all0
  have K3 : Keep h0 T3.heap [a0b] := K0.trans kq3 all0
  have lt_b3 := vq3.lt
  refine zsk [(.ref b3)] ?_
  refine zrl 41 #[rv a0b, rv a1, iv 0, iv 2, .val .null, rv b3] X3 hx (D d2_39) rfl ?_
  refine zan 42 X3 hx (D d2_41) rfl rfl ?_
  refine zal 44 X3 hx (D d2_42) rfl rfl ?_
  refine zin 45 X3 hx (D d2_44) rfl ?_
  refine gS 48 1 1 2 X3 N3 hx hZ (y := mq2) hown hml (ww hw 239 rfl) (ww hw 240 rfl) (ww hw 234 rfl) (stc_2 l Z a0 hw [] b3 kb3 (nar .byte (c0.toInt8.toInt32)) (nar .byte (c1.toInt8.toInt32)) T3.heap n0 O3 vq3) (ww hw 241 rfl) rfl [(.ref b3), (.int 2)] [(.ref a0b)] (lenOf pd___BI_B rfl) (D d2_45) ?_
  rintro T4 L4 M4 _ X4 uu4 ⟨rfl, Nq4, kq4⟩
  have N4 := uu4 Nq4
  refine zsk [(.int 0), (.ref a0b)] ?_
  have ft5 := (E_a0b.keep kq3)
  have ft6 := (F_a0b_coder.keep kq3 nin0)
  obtain ⟨T7, h7, X7, e7, W7, st7⟩ := putFN X4 hx hZ hown (ww hw 21 rfl) Via.refl kq4 ft6 ft5 (Or.inr ⟨(ww hw 17 rfl), rfl, hnm⟩) (ww hw 2 rfl) (ty := .byte) (v' := (.int (0 : Int32))) (by decide) rfl (by decide) (g := (mkF m 48 #[rv a0b, rv a1, iv 0, iv 2, .val .null, rv b3] [(.int 0), (.ref a0b)])) rfl rfl (D d2_48)
  have N7 := Fr.snoc X7 N4 g_a0b
  have O7 : Old Z n0 h7 := O3.wr W7 g_a0b
  have K7 : Keep h0 h7 [a0b] := K3.wr W7 (Or.inl (List.mem_of_getElem? (i := 0) rfl))
  have Fw7 := ft6.same W7
  refine zst 51 #[rv a0b, rv a1, iv 0, iv 2, .val .null, rv b3] [] st7 ?_
  refine zan 52 X7 hx (D d2_51) rfl rfl ?_
  refine zal 54 X7 hx (D d2_52) rfl rfl ?_
  have ft8 := (ft5.wr W7)
  have ft9 := ((F_a0b_value.keep kq3 nin0).other W7 (Or.inr (slot_ne (Or.inr (ww hw 16 rfl)) (Or.inr (ww hw 17 rfl)) (by decide) (t := (.array .byte)) (t' := .byte) (by decide) (by decide))))
  obtain ⟨T10, h10, X10, e10, W10, st10⟩ := putF X7 hx hZ hown (host := "") (Or.inl (ww hw 20 rfl)) Via.refl e7 ft9 ft8 (Or.inr ⟨(ww hw 16 rfl), rfl, hnm⟩) (ww hw 2 rfl) (ty := (.array .byte)) (by decide) rfl rfl (g := (mkF m 54 #[rv a0b, rv a1, iv 0, iv 2, .val .null, rv b3] [(.ref b3), (.ref a0b)])) rfl rfl (D d2_54)
  have N10 := Fr.snoc X10 N7 g_a0b
  have O10 : Old Z n0 h10 := O7.wr W10 g_a0b
  have K10 : Keep h0 h10 [a0b] := K7.wr W10 (Or.inl (List.mem_of_getElem? (i := 0) rfl))
  have Fw10 := ft9.same W10
  refine zst 57 #[rv a0b, rv a1, iv 0, iv 2, .val .null, rv b3] [] st10 ?_
  refine Go.ret0 X10 hlk hx hret (D d2_57) e10 ?_ (by decide) (by decide)
  have ft11 := (ft8.wr W10)
  have ft12 := (Fw7.other W10 (Or.inr (slot_ne (Or.inr (ww hw 17 rfl)) (Or.inr (ww hw 16 rfl)) (by decide) (t := .byte) (t' := (.array .byte)) (by decide) (by decide))))
  have ft13 := ((vq3.other W7 (Ne.symm ne_a0b_b3)).other W10 (Ne.symm ne_a0b_b3))
  exact ⟨rfl, N10, K10, ft11, ft12, b3, kb3, sz_b3, Fw10, ft13⟩
set_option maxRecDepth 65536 in
set_option maxHeartbeats 40000000 in
theorem st1_2 (l : Launch) (Z : State) (a0 : Array Value) (hw : ∀ d ∈ tables_1, d.before a0 Z = true) (ws : List Jvm.Cond) (a0b : Addr) (a1 : Addr) (k1 : ClassId) (c0 : Int32) (c1 : Int32) (wO : Addr) (wT : Addr) (kO : ClassId) (kT : ClassId) (iC : Int32) (vF : Value) (h0 : Heap) (n0 : Nat) (O0 : Old Z n0 h0) (hc_c0 : ¬ (255 : Int32) < c0) (hc_c1 : ¬ (255 : Int32) < c1) (g_a0b : n0 ≤ a0b) (nb1 : a0b ≠ a1) (E_a0b : Exa Z h0 a0b "java/lang/String") (F_a0b_coder : Fld Z h0 a0b "java/lang/String" "coder" "B" (.int 0)) (F_a0b_value : Fld Z h0 a0b "java/lang/String" "value" "[B" .null) (V_a1 : Arv Z h0 a1 k1 .char (2 : Int32) [(.int c0), (.int c1)] (.int 0)) (WW : World1 Z wO wT kO kT iC vF) :
    Con l Z mq4 jdk_42_method_3_code 2 none ws ({ frames := 3, cells := 1, slots := 2, locals := 52 } : Room) #[(.ref a0b), (.ref a1)] h0 (fun v h L => v = none ∧ Fr n0 L ∧ Keep h0 h [a0b] ∧ Exa Z h a0b "java/lang/String" ∧ Fld Z h a0b "java/lang/String" "coder" "B" (.int 0) ∧ ∃ (t : Addr) (kt : ClassId), h0.size ≤ t ∧ Fld Z h a0b "java/lang/String" "value" "[B" (.ref t) ∧ Arv Z h t kt .byte (2 : Int32) [(.int (nar .byte (c0.toInt8.toInt32))), (.int (nar .byte (c1.toInt8.toInt32)))] (.int 0)) := by
  refine own_body (plainFor_of_name pn_java_lang_String) ?_
  intro p e s m below meth c s₁ hx hby hml hZ hown hnm hlk hret X0 e0
  have N0 := Fr.nil n0
  have D := @hb _ _ hby
  have K0 : Keep h0 h0 [a0b] := Keep.refl _ _
  refine Go.st (T' := s₁) (f' := (mkF m 0 #[rv a0b, rv a1] [])) (fun _ k => castTop (by first | (simp [entryFrame, mkF, argsToLocals, Value.category]; done) | rfl) k) ?_
  have ⟨S_iC, nz_iC, S_vF, r_vF, S_wO, E_wO, S_wT, E_wT, V_wO, V_wT⟩ := WW
  have lt_wO := E_wO.lt
  have lt_wT := E_wT.lt
  have lt_a0b := E_a0b.lt
  have ne_wO_a0b : wO ≠ a0b := O0.ne lt_wO g_a0b
  have ne_wT_a0b : wT ≠ a0b := O0.ne lt_wT g_a0b
  have lt_a1 := V_a1.lt
  refine zan 1 X0 hx (D d1_0) rfl rfl ?_
  refine zan 2 X0 hx (D d1_1) rfl rfl ?_
  refine zic 3 0 X0 hx (D d1_2) ?_
  refine zan 4 X0 hx (D d1_3) rfl rfl ?_
  obtain ⟨cl1, Ar1, -, S1, Nx1, -, -⟩ := id V_a1
  refine Go.st (T' := s₁) (f' := (mkF m 5 #[rv a0b, rv a1] [(.int 2), (.int 0), (.ref a1), (.ref a0b)])) (fun _ k => X0.arraylength hx (by rw [e0]; exact Ar1.1) (State.isArrayOf_alike hZ.alike Ar1.2.1) (g := (mkF m 4 #[rv a0b, rv a1] [(.ref a1), (.int 0), (.ref a1), (.ref a0b)])) rfl rfl (D d1_4) _ (by rw [len_of S1 Nx1]; exact k)) ?_
  refine Go.st (f' := (mkF m 6 #[rv a0b, rv a1] [.null, (.int 2), (.int 0), (.ref a1), (.ref a0b)])) (fun _ k => XS.aconstNull X0.here hx rfl (D d1_5) k) ?_
  obtain ⟨_, _, ⟨T2, L2, kk2, nn2⟩, -, X2, ⟨Lc2, hQ2, lq2, yq2, zz2⟩, st2⟩ := X0.specialBack hx (y := mq3) rfl hown (mvT hZ (ww hw 7 rfl)) (mvT hZ (ww hw 8 rfl)) (mvT hZ (ww hw 10 rfl)) (by decide) (own_back (W := 0) (stv_2 l Z a0 hw [] a0b a1 k1 c0 c1 wO wT kO kT iC vF h0 n0 O0 hc_c0 hc_c1 g_a0b nb1 E_a0b F_a0b_coder F_a0b_value V_a1 WW) hZ (ww hw 10 rfl) (ww hw 3 rfl) (by decide) (by decide)) (g := (mkF m 6 #[rv a0b, rv a1] [.null, (.int 2), (.int 0), (.ref a1), (.ref a0b)])) rfl (by rw [hml]; rfl) (Steps.refl _) (a := a0b) (argsL := [(.ref a1), (.int (0 : Int32)), (.int (2 : Int32)), .null]) (rest := []) (lenOf pd___CIILjava_lang_Void__V rfl) rfl (by show 2 * 0 + _ ≤ _; exact Nat.le_of_eq rfl) (D d1_6) (fun _ _ => ⟨rfl, e0, (by decide : 0 + 1 ≤ _), (by decide : 0 + 2 ≤ _)⟩)
  dsimp only [Pt.U, Pt.locs, Pt.cells, Pt.slots] at X2 lq2 yq2 zz2 st2 hQ2
  subst lq2 yq2 zz2
  obtain ⟨rfl, Nq2, kq2, eq2, cq2, tt2, kt2, zq2, fq2, vq2⟩ := hQ2
  have N2 := Fr.app N0 Nq2
  have ne_a0b_tt2 : a0b ≠ tt2 := Nat.ne_of_lt (Nat.lt_of_lt_of_le lt_a0b zq2)
  have ne_a1_tt2 : a1 ≠ tt2 := Nat.ne_of_lt (Nat.lt_of_lt_of_le lt_a1 zq2)
  have ne_wO_tt2 : wO ≠ tt2 := Nat.ne_of_lt (Nat.lt_of_lt_of_le lt_wO (Nat.le_trans O0.2.1 zq2))
  have ne_wT_tt2 : wT ≠ tt2 := Nat.ne_of_lt (Nat.lt_of_lt_of_le lt_wT (Nat.le_trans O0.2.1 zq2))
  have g_tt2 : n0 ≤ tt2 := Nat.le_trans (O0.1 ▸ O0.2.1) zq2
  have sz_tt2 : h0.size ≤ tt2 := Nat.le_trans K0.1 zq2
  have O2 : Old Z n0 T2.heap := O0.keep kq2 (allS g_a0b all0)
  have K2 : Keep h0 T2.heap [a0b] := K0.trans kq2 (allS (Or.inl (List.mem_of_getElem? (i := 0) rfl)) all0)
  have lt_tt2 := vq2.lt
  refine Go.tr (f' := (mkF m 9 #[rv a0b, rv a1] [])) st2 ?_
  refine Go.ret0 X2 hlk hx hret (D d1_9) rfl ?_ (by decide) (by decide)
  exact ⟨rfl, N2, K2, eq2, cq2, tt2, kt2, sz_tt2, fq2, vq2⟩
theorem own_neArv {Z : State} {h : Heap} {a b : Addr} {k1 k2 : ClassId} {t1 t2 : FieldType} {z1 z2 : Int32} {v1 v2 : List Value} {d1 d2 : Value} (A : Arv Z h a k1 t1 z1 v1 d1) (B : Arv Z h b k2 t2 z2 v2 d2) (q : t1 ≠ t2) : a ≠ b := fun e => by
  subst e
  obtain ⟨c, ⟨c1, ⟨-, k, c2, comp, c3⟩, -⟩, -⟩ := A
  obtain ⟨c', ⟨d1, ⟨-, k', d2, comp', d3⟩, -⟩, -⟩ := B
  cases c1.symm.trans d1
  cases c2.symm.trans d2
  have := c3.symm.trans d3
  injection this with _ e
  exact q e

theorem d2_8 : decode jdk_42_method_149_code 8 = .ok (.aload_n 0, 1) := by decide +kernel
theorem d2_9 : decode jdk_42_method_149_code 9 = .ok (.ldc 7, 2) := by decide +kernel
theorem d2_11 : decode jdk_42_method_149_code 11 = .ok (.getfield 9, 3) := by decide +kernel
theorem d2_14 : decode jdk_42_method_149_code 14 = .ok (.putfield 9, 3) := by decide +kernel
theorem d2_17 : decode jdk_42_method_149_code 17 = .ok (.aload_n 0, 1) := by decide +kernel
theorem d2_18 : decode jdk_42_method_149_code 18 = .ok (.ldc 7, 2) := by decide +kernel
theorem d2_20 : decode jdk_42_method_149_code 20 = .ok (.getfield 15, 3) := by decide +kernel
theorem d2_23 : decode jdk_42_method_149_code 23 = .ok (.putfield 15, 3) := by decide +kernel
theorem d2_26 : decode jdk_42_method_149_code 26 = .ok (.return_, 1) := by decide +kernel
set_option maxRecDepth 65536 in
set_option maxHeartbeats 40000000 in
theorem sv_0 (l : Launch) (Z : State) (a0 : Array Value) (hw : ∀ d ∈ tables_1, d.before a0 Z = true) (ws : List Jvm.Cond) (a0b : Addr) (a1 : Addr) (wO : Addr) (wT : Addr) (kO : ClassId) (kT : ClassId) (iC : Int32) (vF : Value) (h0 : Heap) (n0 : Nat) (O0 : Old Z n0 h0) (g_a0b : n0 ≤ a0b) (E_a0b : Exa Z h0 a0b "java/lang/String") (F_a0b_coder : Fld Z h0 a0b "java/lang/String" "coder" "B" (.int 0)) (F_a0b_value : Fld Z h0 a0b "java/lang/String" "value" "[B" .null) (WW : World1 Z wO wT kO kT iC vF) :
    ConW l Z EL mq3 jdk_42_method_149_code 6 none ws ({ frames := 1, cells := 4, slots := 8, locals := 12 } : Room) #[(.ref a0b), (.ref a1), (.int 0), (.int 0), .null] h0 (fun v h L => v = none ∧ Fr n0 L ∧ Keep h0 h [a0b] ∧ Exa Z h a0b "java/lang/String" ∧ Fld Z h a0b "java/lang/String" "coder" "B" (.int 0) ∧ ∃ (t : Addr) (kt : ClassId), Fld Z h a0b "java/lang/String" "value" "[B" (.ref t) ∧ Arv Z h t kt .byte (0 : Int32) [] (.int 0)) := by
  refine own_bodyW (plainFor_of_name pn_java_lang_String) ?_
  intro p e s m below meth c s₁ hx hby hml hZ hown hnm hlk hret X0 e0 hh hS CR0
  have hEL := own_EL hw
  have wS := own_wS hw
  have N0 := Fr.nil n0
  have D := @hb _ _ hby
  have K0 : Keep h0 h0 [a0b] := Keep.refl _ _
  refine Go.st (T' := s₁) (f' := (mkF m 0 #[rv a0b, rv a1, iv 0, iv 0, .val .null, .unset] [])) (fun _ k => castTop (by first | (simp [entryFrame, mkF, argsToLocals, Value.category]; done) | rfl) k) ?_
  have ⟨S_iC, nz_iC, S_vF, r_vF, S_wO, E_wO, S_wT, E_wT, V_wO, V_wT⟩ := WW
  have lt_wO := E_wO.lt
  have lt_wT := E_wT.lt
  have lt_a0b := E_a0b.lt
  have ne_wO_a0b : wO ≠ a0b := O0.ne lt_wO g_a0b
  have ne_wT_a0b : wT ≠ a0b := O0.ne lt_wT g_a0b
  have sf_a0b : Safe Z EL s.vm h0 a0b := own_safe0 hZ.alike E_a0b F_a0b_value
  refine zan 1 X0 hx (D d2_0) rfl rfl ?_
  obtain ⟨T1, X1, e1, st1⟩ := initO X0 hx hZ hown (ww hw 11 rfl) (ww hw 12 rfl) (ww hw 13 rfl) e0 (g := (mkF m 1 #[rv a0b, rv a1, iv 0, iv 0, .val .null, .unset] [(.ref a0b)])) rfl (by rw [hml]; rfl) rfl (D d2_1) (by decide) (W := 0) (by show 2 * 0 + _ ≤ _; exact Nat.le_of_eq rfl) (by decide)
  refine zst 4 #[rv a0b, rv a1, iv 0, iv 0, .val .null, .unset] [] st1 ?_
  refine zin 5 X1 hx (D d2_4) rfl ?_
  refine zfn 8 X1 hx (D d2_5) (by decide) ?_
  refine zan 9 X1 hx (D d2_8) rfl rfl ?_
  obtain ⟨b2, T2, h2, k12, t2, kt2, X2, e2, E2, hS2, hk2, hZ2, hown2, A2, cq2, fq2, vq2, lt_b2, lt_t2, crw2, -, sfx2, st2⟩ := ldcCH (EL := EL) X1 hx hZ hown (ww hw 14 rfl) wS e1 hS (Nat.zero_le _) hEL (List.mem_of_getElem? (i := 3) rfl) CR0.1 (vs := []) (z := (0 : Int32)) ⟨by decide, by decide⟩ (by decide) rfl (g := (mkF m 9 #[rv a0b, rv a1, iv 0, iv 0, .val .null, .unset] [(.ref a0b)])) rfl (D d2_9) (n := 0) (by decide) (by decide) (by decide) (by decide)
  have O2 : Old Z n0 h2 := O0.ext E2
  have K2 : Keep h0 h2 [a0b] := K0.ext E2
  have sf3 := crw2.safe lt_a0b sf_a0b
  have CR2 := CR0.trans crw2
  refine zst 11 #[rv a0b, rv a1, iv 0, iv 0, .val .null, .unset] [(.ref b2), (.ref a0b)] st2 ?_
  refine zgf 14 X2 hx hZ2 hown2 (host := "") (Or.inl (ww hw 20 rfl)) Via.refl e2 fq2 (D d2_11) fun T4 X4 e4 => ?_
  have ft5 := (E_a0b.ext E2)
  have ft6 := (F_a0b_value.ext E2)
  obtain ⟨T7, h7, X7, e7, W7, st7⟩ := putF X4 hx hZ2 hown2 (host := "") (Or.inl (ww hw 20 rfl)) Via.refl e4 ft6 ft5 (Or.inr ⟨(ww hw 16 rfl), rfl, hnm⟩) (ww hw 2 rfl) (ty := (.array .byte)) (by decide) rfl rfl (g := (mkF m 14 #[rv a0b, rv a1, iv 0, iv 0, .val .null, .unset] [(.ref t2), (.ref a0b)])) rfl rfl (D d2_14)
  have N7 := Fr.snoc X7 N0 g_a0b
  have O7 : Old Z n0 h7 := O2.wr W7 g_a0b
  have K7 : Keep h0 h7 [a0b] := K2.wr W7 (Or.inl (List.mem_of_getElem? (i := 0) rfl))
  have CR7 : CHr Z EL s.vm h0 T2.vm h7 := CR2.trans (CHr.wr W7 sf3 CR2.1)
  have Fw7 := ft6.same W7
  refine zst 17 #[rv a0b, rv a1, iv 0, iv 0, .val .null, .unset] [] st7 ?_
  refine zan 18 X7 hx (D d2_17) rfl rfl ?_
  have ft9 := (Nat.le_trans hk2 (Nat.le_of_eq W7.size.symm))
  obtain ⟨b8, T8, h8, k18, t8, kt8, X8, e8, E8, hS8, hk8, hZ8, hown8, A8, cq8, fq8, vq8, lt_b8, lt_t8, crw8, -, sfx8, st8⟩ := ldcCH (EL := EL) X7 hx hZ2 hown2 (ww hw 14 rfl) wS e7 hS2 ft9 hEL (List.mem_of_getElem? (i := 3) rfl) CR7.1 (vs := []) (z := (0 : Int32)) ⟨by decide, by decide⟩ (by decide) rfl (g := (mkF m 18 #[rv a0b, rv a1, iv 0, iv 0, .val .null, .unset] [(.ref a0b)])) rfl (D d2_18) (n := 0) (by decide) (by decide) (by decide) (by decide)
  have ft10 := (Safe.wr W7 sf3 CR2.1 sf3)
  have ft11 := (Nat.lt_of_lt_of_eq (Nat.lt_of_lt_of_le lt_a0b E2.1) W7.size.symm)
  have O8 : Old Z n0 h8 := O7.ext E8
  have K8 : Keep h0 h8 [a0b] := K7.ext E8
  have sf12 := crw8.safe ft11 ft10
  have CR8 := CR7.trans crw8
  refine zst 20 #[rv a0b, rv a1, iv 0, iv 0, .val .null, .unset] [(.ref b8), (.ref a0b)] st8 ?_
  refine zgf 23 X8 hx hZ8 hown8 (host := "") (Or.inl (ww hw 21 rfl)) Via.refl e8 cq8 (D d2_20) fun T13 X13 e13 => ?_
  have ft14 := ((ft5.wr W7).ext E8)
  have ft15 := (((F_a0b_coder.ext E2).other W7 (Or.inr (slot_ne (Or.inr (ww hw 17 rfl)) (Or.inr (ww hw 16 rfl)) (by decide) (t := .byte) (t' := (.array .byte)) (by decide) (by decide)))).ext E8)
  obtain ⟨T16, h16, X16, e16, W16, st16⟩ := putFN X13 hx hZ8 hown8 (ww hw 21 rfl) Via.refl e13 ft15 ft14 (Or.inr ⟨(ww hw 17 rfl), rfl, hnm⟩) (ww hw 2 rfl) (ty := .byte) (v' := (.int (0 : Int32))) (by decide) rfl (by decide) (g := (mkF m 23 #[rv a0b, rv a1, iv 0, iv 0, .val .null, .unset] [(.int 0), (.ref a0b)])) rfl rfl (D d2_23)
  have N16 := Fr.snoc X16 N7 g_a0b
  have O16 : Old Z n0 h16 := O8.wr W16 g_a0b
  have K16 : Keep h0 h16 [a0b] := K8.wr W16 (Or.inl (List.mem_of_getElem? (i := 0) rfl))
  have CR16 : CHr Z EL s.vm h0 T8.vm h16 := CR8.trans (CHr.wr W16 sf12 CR8.1)
  have Fw16 := ft15.same W16
  refine zst 26 #[rv a0b, rv a1, iv 0, iv 0, .val .null, .unset] [] st16 ?_
  have ft17 := (Nat.le_trans hk8 (Nat.le_of_eq W16.size.symm))
  refine GoW.ret0 X16 hlk hx hret (D d2_26) e16 hS8 ft17 hZ8 hEL CR16 hh ?_ (by decide) (by decide)
  have ft18 := (ft14.wr W16)
  have ft19 := ((Fw7.ext E8).other W16 (Or.inr (slot_ne (Or.inr (ww hw 16 rfl)) (Or.inr (ww hw 17 rfl)) (by decide) (t := (.array .byte)) (t' := .byte) (by decide) (by decide))))
  have ft20 := (((vq2.other W7 (Ne.symm (sfx2 _ sf3).2)).ext E8).other W16 (Ne.symm (sfx2 _ sf3).2))
  exact ⟨rfl, N16, K16, ft18, Fw16, t2, kt2, ft19, ft20⟩
set_option maxRecDepth 65536 in
set_option maxHeartbeats 40000000 in
theorem s1_0 (l : Launch) (Z : State) (a0 : Array Value) (hw : ∀ d ∈ tables_1, d.before a0 Z = true) (ws : List Jvm.Cond) (a0b : Addr) (a1 : Addr) (k1 : ClassId) (wO : Addr) (wT : Addr) (kO : ClassId) (kT : ClassId) (iC : Int32) (vF : Value) (h0 : Heap) (n0 : Nat) (O0 : Old Z n0 h0) (g_a0b : n0 ≤ a0b) (E_a0b : Exa Z h0 a0b "java/lang/String") (F_a0b_coder : Fld Z h0 a0b "java/lang/String" "coder" "B" (.int 0)) (F_a0b_value : Fld Z h0 a0b "java/lang/String" "value" "[B" .null) (V_a1 : Arv Z h0 a1 k1 .char (0 : Int32) [] (.int 0)) (WW : World1 Z wO wT kO kT iC vF) :
    ConW l Z EL mq4 jdk_42_method_3_code 2 none ws ({ frames := 2, cells := 4, slots := 8, locals := 29 } : Room) #[(.ref a0b), (.ref a1)] h0 (fun v h L => v = none ∧ Fr n0 L ∧ Keep h0 h [a0b] ∧ Exa Z h a0b "java/lang/String" ∧ Fld Z h a0b "java/lang/String" "coder" "B" (.int 0) ∧ ∃ (t : Addr) (kt : ClassId), Fld Z h a0b "java/lang/String" "value" "[B" (.ref t) ∧ Arv Z h t kt .byte (0 : Int32) [] (.int 0)) := by
  refine own_bodyW (plainFor_of_name pn_java_lang_String) ?_
  intro p e s m below meth c s₁ hx hby hml hZ hown hnm hlk hret X0 e0 hh hS CR0
  have hEL := own_EL hw
  have wS := own_wS hw
  have N0 := Fr.nil n0
  have D := @hb _ _ hby
  have K0 : Keep h0 h0 [a0b] := Keep.refl _ _
  refine Go.st (T' := s₁) (f' := (mkF m 0 #[rv a0b, rv a1] [])) (fun _ k => castTop (by first | (simp [entryFrame, mkF, argsToLocals, Value.category]; done) | rfl) k) ?_
  have ⟨S_iC, nz_iC, S_vF, r_vF, S_wO, E_wO, S_wT, E_wT, V_wO, V_wT⟩ := WW
  have lt_wO := E_wO.lt
  have lt_wT := E_wT.lt
  have lt_a0b := E_a0b.lt
  have ne_wO_a0b : wO ≠ a0b := O0.ne lt_wO g_a0b
  have ne_wT_a0b : wT ≠ a0b := O0.ne lt_wT g_a0b
  have sf_a0b : Safe Z EL s.vm h0 a0b := own_safe0 hZ.alike E_a0b F_a0b_value
  have lt_a1 := V_a1.lt
  have nt_a0b_a1 : a0b ≠ a1 := Exa.neArv E_a0b V_a1 (ww hw 2 rfl)
  refine zan 1 X0 hx (D d1_0) rfl rfl ?_
  refine zan 2 X0 hx (D d1_1) rfl rfl ?_
  refine zic 3 0 X0 hx (D d1_2) ?_
  refine zan 4 X0 hx (D d1_3) rfl rfl ?_
  obtain ⟨cl1, Ar1, -, S1, Nx1, -, -⟩ := id V_a1
  refine Go.st (T' := s₁) (f' := (mkF m 5 #[rv a0b, rv a1] [(.int 0), (.int 0), (.ref a1), (.ref a0b)])) (fun _ k => X0.arraylength hx (by rw [e0]; exact Ar1.1) (State.isArrayOf_alike hZ.alike Ar1.2.1) (g := (mkF m 4 #[rv a0b, rv a1] [(.ref a1), (.int 0), (.ref a1), (.ref a0b)])) rfl rfl (D d1_4) _ (by rw [len_of S1 Nx1]; exact k)) ?_
  refine Go.st (f' := (mkF m 6 #[rv a0b, rv a1] [.null, (.int 0), (.int 0), (.ref a1), (.ref a0b)])) (fun _ k => XS.aconstNull X0.here hx rfl (D d1_5) k) ?_
  obtain ⟨_, _, ⟨T2, L2, kk2, nn2⟩, -, Xw2, hSw2, hgw2, ⟨Lc2, hQ2, lq2, yq2, zz2, crw2⟩, st2⟩ := X0.specialBackS hx (y := mq3) rfl hown (mvT hZ (ww hw 7 rfl)) (mvT hZ (ww hw 8 rfl)) (mvT hZ (ww hw 10 rfl)) (by decide) (own_backW (W := 0) (sv_0 l Z a0 hw [] a0b a1 wO wT kO kT iC vF h0 n0 O0 g_a0b E_a0b F_a0b_coder F_a0b_value WW) hZ (ww hw 10 rfl) (ww hw 3 rfl) (by decide) (by decide) hEL CR0.1) (g := (mkF m 6 #[rv a0b, rv a1] [.null, (.int 0), (.int 0), (.ref a1), (.ref a0b)])) rfl (by rw [hml]; rfl) (Steps.refl _) (a := a0b) (argsL := [(.ref a1), (.int (0 : Int32)), (.int (0 : Int32)), .null]) (rest := []) (lenOf pd___CIILjava_lang_Void__V rfl) rfl (by show 2 * 0 + _ ≤ _; exact Nat.le_of_eq rfl) (D d1_6) (fun _ _ => ⟨rfl, e0, (by decide : 0 + 4 ≤ _), (by decide : 0 + 8 ≤ _)⟩)
  dsimp only [Pt.U, Pt.locs, Pt.cells, Pt.slots] at Xw2 lq2 yq2 zz2 st2 hQ2 hSw2 hgw2 crw2
  subst lq2 yq2 zz2
  obtain ⟨X2, hS2, hZ2, hown2⟩ := rebS hS (by rw [e0]; exact (Nat.zero_le _)) Xw2 hSw2 hgw2 hZ hown
  obtain ⟨rfl, Nq2, kq2, eq2, cq2, tt2, kt2, fq2, vq2⟩ := hQ2
  have N2 := Fr.app N0 Nq2
  have O2 : Old Z n0 T2.heap := O0.keep kq2 (allS g_a0b all0)
  have K2 : Keep h0 T2.heap [a0b] := K0.trans kq2 (allS (Or.inl (List.mem_of_getElem? (i := 0) rfl)) all0)
  have lt_tt2 := vq2.lt
  have nt_a0b_tt2 : a0b ≠ tt2 := Exa.neArv eq2 vq2 (ww hw 2 rfl)
  have ft3 := (V_a1.keep kq2 (ninS (Ne.symm nt_a0b_a1) nin0))
  have nt_a1_tt2 : a1 ≠ tt2 := own_neArv ft3 vq2 (by decide)
  have hk2 : T2.heap.size ≤ T2.heap.size := Nat.le_refl _
  have sf4 := crw2.safe lt_a0b sf_a0b
  have CR2 := CR0.trans crw2
  refine Go.tr (f' := (mkF m 9 #[rv a0b, rv a1] [])) st2 ?_
  refine GoW.ret0 X2 hlk hx hret (D d1_9) rfl hS2 hk2 hZ2 hEL CR2 hh ?_ (by decide) (by decide)
  exact ⟨rfl, N2, K2, eq2, cq2, tt2, kt2, fq2, vq2⟩
theorem own_nf {s : State} {args : Array Value} {C : String} {yp y : MethodName} (hs : (Cond.selects C yp yp).before args s = true) (he : yp.cls = y.cls) : NotFace s y := fun r0 h0 => by
  obtain ⟨c, r, m, -, -, h3, -, mk, h4, h5⟩ := Cond.selects_spec hs
  have f1 := findClass_of_methodNamed h3
  have f2 := findClass_of_methodNamed h0
  rw [he] at f1
  have e := Option.some.inj (f1.symm.trans f2)
  rw [e] at h4
  exact ⟨mk, h4, h5⟩
theorem own_same {Z : State} {a0 : Array Value} {C : String} {yp y : MethodName} (hs : (Cond.selects C yp yp).before a0 Z = true) (hi : (Cond.instanceMethod y).before a0 Z = true) (he : yp.cls = y.cls) (hy : y.cls ≠ "java/lang/invoke/MethodHandle" ∧ y.cls ≠ "java/lang/invoke/VarHandle") : (Cond.sameMethod y.cls y.cls y.name y.desc).before a0 Z = true := by
  obtain ⟨c, r, m, -, -, h3, -, mk, h4, h5⟩ := Cond.selects_spec hs
  obtain ⟨m2, methM, hn, -, -, -⟩ := Cond.instanceMethod_spec hi
  have f1 := findClass_of_methodNamed h3
  have f2 := findClass_of_methodNamed hn
  rw [he] at f1
  have e := Option.some.inj (f1.symm.trans f2)
  rw [e] at h4
  have f3 := State.methodFound?_of_named hn hy
  simp [Cond.before, Cond.holds, Cond.value, f2, f3, show Z.methodNamed? ⟨y.cls, y.name, y.desc⟩ = some m2 from hn, h4, h5]
theorem own_selp {s : State} {args : Array Value} {C : String} {y : MethodName} (h : (Cond.selects C y y).before args s = true) (hp : s.PrivateAt y) (hi : (Cond.instanceMethod y).before args s = true) (hy : y.cls ≠ "java/lang/invoke/MethodHandle" ∧ y.cls ≠ "java/lang/invoke/VarHandle") : (Cond.selects y.cls y y).before args s = true := by
  obtain ⟨c, r, m, -, -, h3, -, mk, h4, h5⟩ := Cond.selects_spec h
  exact Jvm.Stand.selects_self_of_private (findClass_of_methodNamed h3) h4 h5 hp hi hy
theorem own_ishl0 (c : Int32) : c <<< ((0 : Int32) &&& 31) = c := by
  have a := c_ishl c 0 0 (by decide)
  have r := rng32 (c <<< ((0 : Int32) &&& 31))
  have r2 := rng32 c
  rw [← Int32.toInt_inj]; omega
theorem own_ishr0 (c : Int32) : c >>> ((0 : Int32) &&& 31) = c := by
  have a : (c >>> ((0 : Int32) &&& 31)).toInt = c.toInt / (2 ^ 0 : Nat) := c_ishr c 0 0 (by decide)
  rw [← Int32.toInt_inj]; omega
/-- c is the list's length -/
def Ln (c : Int32) (xs : List Value) : Prop := 0 ≤ c.toInt ∧ c.toInt = (xs.length : Int)
theorem ln0 : Ln (0 : Int32) [] := ⟨by decide, by decide⟩
theorem Ln.nn {c : Int32} {xs : List Value} (h : Ln c xs) : ¬ c < (0 : Int32) := by
  rw [Int32.lt_iff_toInt_lt]; have e : (0 : Int32).toInt = 0 := by decide
  have := h.1; omega
theorem Ln.nat {c : Int32} {xs : List Value} (h : Ln c xs) : c.toNatClampNeg = xs.length := by
  simp only [Int32.toNatClampNeg]; have := h.2; omega
theorem Ln.app {c n : Int32} {xs fs : List Value} (a : Ln c xs) (b : Ln n fs) (h : xs.length + fs.length ≤ 1000000) : Ln (c + n) (xs ++ fs) := by
  have q := c_iadd c n
  have r := rng32 (c + n)
  have := a.1; have := a.2; have := b.1; have := b.2
  constructor
  · omega
  · rw [List.length_append]; omega
theorem Ln.eq {c n : Int32} {xs ys : List Value} (a : Ln c xs) (b : Ln n ys) (e : xs.length = ys.length) : c = n := by
  rw [← Int32.toInt_inj, a.2, b.2, e]
theorem Ln.le {c : Int32} {xs : List Value} {m : Nat} (a : Ln c xs) (h : xs.length ≤ m) : c.toNatClampNeg ≤ m := by rw [a.nat]; exact h
def Ints (es : List Value) : Prop := ∀ v ∈ es, ∃ x : Int32, v = .int x
theorem own_at {es : List Value} {n i : Int32} {d : Value} (I : Ints es) (l : Ln n es) (h0 : ¬ i < (0 : Int32)) (h1 : i < n) : ∃ x : Int32, es.getD i.toNatClampNeg d = .int x := by
  rw [Int32.lt_iff_toInt_lt] at h0 h1
  have e0 : (0 : Int32).toInt = 0 := by decide
  have hk : i.toNatClampNeg < es.length := by have := l.2; simp only [Int32.toNatClampNeg]; omega
  have hg : es.getD i.toNatClampNeg d = es[i.toNatClampNeg] := by simp [List.getD, hk]
  obtain ⟨x, hx⟩ := I _ (List.getElem_mem hk)
  exact ⟨x, hg.trans hx⟩
theorem own_mapr {n : Int32} {fs : List Value} {d : Value} (h : n.toNatClampNeg = fs.length) : fs = (List.range n.toNatClampNeg).map fun i => fs.getD ((0 : Int32).toNatClampNeg + i) d := by
  rw [h]
  apply List.ext_getElem
  · simp
  · intro i h1 h2
    have e : (0 : Int32).toNatClampNeg + i = i := by show 0 + i = i; omega
    simp [e, List.getD, h1]
theorem own_padl {c n : Int32} {xs fs : List Value} {d : Value} (a : Ln c xs) (b : Ln n fs) : c.toNatClampNeg + n.toNatClampNeg ≤ (xs ++ List.replicate fs.length d).length := by
  rw [a.nat, b.nat]; simp
theorem own_join {c n : Int32} {xs fs : List Value} {d : Value} (a : c.toNatClampNeg = xs.length) (b : n.toNatClampNeg = fs.length) : (xs ++ List.replicate fs.length d).take c.toNatClampNeg ++ fs ++ (xs ++ List.replicate fs.length d).drop (c.toNatClampNeg + n.toNatClampNeg) = xs ++ fs := by
  rw [a, b]; simp

theorem d11_0 : decode jdk_42_method_152_code 0 = .ok (.getstatic 38, 3) := by decide +kernel
theorem d11_3 : decode jdk_42_method_152_code 3 = .ok (.ifCond .eq 10, 3) := by decide +kernel
theorem d11_6 : decode jdk_42_method_152_code 6 = .ok (.aload_n 0, 1) := by decide +kernel
theorem d11_7 : decode jdk_42_method_152_code 7 = .ok (.getfield 15, 3) := by decide +kernel
theorem d11_10 : decode jdk_42_method_152_code 10 = .ok (.goto 4, 3) := by decide +kernel
theorem d11_14 : decode jdk_42_method_152_code 14 = .ok (.ireturn, 1) := by decide +kernel
set_option maxRecDepth 65536 in
set_option maxHeartbeats 40000000 in
theorem cod (l : Launch) (Z : State) (a0 : Array Value) (hw : ∀ d ∈ tables_1, d.before a0 Z = true) (ws : List Jvm.Cond) (a1 : Addr) (wO : Addr) (wT : Addr) (kO : ClassId) (kT : ClassId) (iC : Int32) (vF : Value) (h0 : Heap) (n0 : Nat) (O0 : Old Z n0 h0) (E_a1 : Exa Z h0 a1 "java/lang/String") (F_a1_coder : Fld Z h0 a1 "java/lang/String" "coder" "B" (.int 0)) (WW : World1 Z wO wT kO kT iC vF) :
    Con l Z mq5 jdk_42_method_152_code 1 (some .byte) ws ({ frames := 0, cells := 0, slots := 0, locals := 0 } : Room) #[(.ref a1)] h0 (fun v h L => v = some (.int 0) ∧ Fr n0 L ∧ h = h0) := by
  refine own_body (plainFor_of_name pn_java_lang_String) ?_
  intro p e s m below meth c s₁ hx hby hml hZ hown hnm hlk hret X0 e0
  have N0 := Fr.nil n0
  have D := @hb _ _ hby
  refine Go.st (T' := s₁) (f' := (mkF m 0 #[rv a1] [])) (fun _ k => castTop (by first | (simp [entryFrame, mkF, argsToLocals, Value.category]; done) | rfl) k) ?_
  have ⟨S_iC, nz_iC, S_vF, r_vF, S_wO, E_wO, S_wT, E_wT, V_wO, V_wT⟩ := WW
  have lt_wO := E_wO.lt
  have lt_wT := E_wT.lt
  have lt_a1 := E_a1.lt
  obtain ⟨T1, X1, e1, st1⟩ := getS2 X0 hx hZ hown (host := "") (Or.inl (ww hw 77 rfl)) Via.refl e0 (S_iC.ext O0.2) (g := (mkF m 0 #[rv a1] [])) rfl (D d11_0)
  refine zst 3 #[rv a1] [(.int iC)] st1 ?_
  refine zfn 6 X1 hx (D d11_3) ((if0 _ _).trans (feq nz_iC).1) ?_
  refine zan 7 X1 hx (D d11_6) rfl rfl ?_
  refine zgf 10 X1 hx hZ hown (host := "") (Or.inl (ww hw 21 rfl)) Via.refl e1 F_a1_coder (D d11_7) fun T2 X2 e2 => ?_
  refine zgo 14 X2 hx (D d11_10) ?_
  refine Go.retB X2 hlk hx (t := .byte) hret (by simp) (D d11_14) e2 ?_ (by decide) (by decide)
  exact ⟨rfl, N0, rfl⟩
theorem d40_0 : decode jdk_42_method_154_code 0 = .ok (.getstatic 38, 3) := by decide +kernel
theorem d40_3 : decode jdk_42_method_154_code 3 = .ok (.ifCond .eq 14, 3) := by decide +kernel
theorem d40_6 : decode jdk_42_method_154_code 6 = .ok (.aload_n 0, 1) := by decide +kernel
theorem d40_7 : decode jdk_42_method_154_code 7 = .ok (.getfield 15, 3) := by decide +kernel
theorem d40_10 : decode jdk_42_method_154_code 10 = .ok (.ifCond .ne 7, 3) := by decide +kernel
theorem d40_13 : decode jdk_42_method_154_code 13 = .ok (.iconst 1, 1) := by decide +kernel
theorem d40_14 : decode jdk_42_method_154_code 14 = .ok (.goto 4, 3) := by decide +kernel
theorem d40_18 : decode jdk_42_method_154_code 18 = .ok (.ireturn, 1) := by decide +kernel
set_option maxRecDepth 65536 in
set_option maxHeartbeats 40000000 in
theorem lat (l : Launch) (Z : State) (a0 : Array Value) (hw : ∀ d ∈ tables_1, d.before a0 Z = true) (ws : List Jvm.Cond) (a1 : Addr) (wO : Addr) (wT : Addr) (kO : ClassId) (kT : ClassId) (iC : Int32) (vF : Value) (h0 : Heap) (n0 : Nat) (O0 : Old Z n0 h0) (E_a1 : Exa Z h0 a1 "java/lang/String") (F_a1_coder : Fld Z h0 a1 "java/lang/String" "coder" "B" (.int 0)) (WW : World1 Z wO wT kO kT iC vF) :
    Con l Z mq6 jdk_42_method_154_code 1 (some .boolean) ws ({ frames := 0, cells := 0, slots := 0, locals := 0 } : Room) #[(.ref a1)] h0 (fun v h L => v = some (.int 1) ∧ Fr n0 L ∧ h = h0) := by
  refine own_body (plainFor_of_name pn_java_lang_String) ?_
  intro p e s m below meth c s₁ hx hby hml hZ hown hnm hlk hret X0 e0
  have N0 := Fr.nil n0
  have D := @hb _ _ hby
  refine Go.st (T' := s₁) (f' := (mkF m 0 #[rv a1] [])) (fun _ k => castTop (by first | (simp [entryFrame, mkF, argsToLocals, Value.category]; done) | rfl) k) ?_
  have ⟨S_iC, nz_iC, S_vF, r_vF, S_wO, E_wO, S_wT, E_wT, V_wO, V_wT⟩ := WW
  have lt_wO := E_wO.lt
  have lt_wT := E_wT.lt
  have lt_a1 := E_a1.lt
  obtain ⟨T1, X1, e1, st1⟩ := getS2 X0 hx hZ hown (host := "") (Or.inl (ww hw 77 rfl)) Via.refl e0 (S_iC.ext O0.2) (g := (mkF m 0 #[rv a1] [])) rfl (D d40_0)
  refine zst 3 #[rv a1] [(.int iC)] st1 ?_
  refine zfn 6 X1 hx (D d40_3) ((if0 _ _).trans (feq nz_iC).1) ?_
  refine zan 7 X1 hx (D d40_6) rfl rfl ?_
  refine zgf 10 X1 hx hZ hown (host := "") (Or.inl (ww hw 21 rfl)) Via.refl e1 F_a1_coder (D d40_7) fun T2 X2 e2 => ?_
  refine zfn 13 X2 hx (D d40_10) (by decide) ?_
  refine zic 14 1 X2 hx (D d40_13) ?_
  refine zgo 18 X2 hx (D d40_14) ?_
  refine Go.retB X2 hlk hx (t := .boolean) hret (by simp) (D d40_18) e2 ?_ (by decide) (by decide)
  exact ⟨rfl, N0, rfl⟩
theorem d10_0 : decode jdk_42_method_54_code 0 = .ok (.aload_n 0, 1) := by decide +kernel
theorem d10_1 : decode jdk_42_method_54_code 1 = .ok (.getfield 9, 3) := by decide +kernel
theorem d10_4 : decode jdk_42_method_54_code 4 = .ok (.arraylength, 1) := by decide +kernel
theorem d10_5 : decode jdk_42_method_54_code 5 = .ok (.aload_n 0, 1) := by decide +kernel
theorem d10_6 : decode jdk_42_method_54_code 6 = .ok (.invokevirtual 335, 3) := by decide +kernel
theorem pd___B : parseMethodDescriptor "()B" = some ⟨[], some .byte⟩ := by decide +kernel
theorem d10_9 : decode jdk_42_method_54_code 9 = .ok (.ishr, 1) := by decide +kernel
theorem d10_10 : decode jdk_42_method_54_code 10 = .ok (.ireturn, 1) := by decide +kernel
set_option maxRecDepth 65536 in
set_option maxHeartbeats 40000000 in
theorem slen (l : Launch) (Z : State) (a0 : Array Value) (hw : ∀ d ∈ tables_1, d.before a0 Z = true) (ws : List Jvm.Cond) (a1 : Addr) (t1 : Addr) (k1 : ClassId) (n : Int32) (es : List Value) (wO : Addr) (wT : Addr) (kO : ClassId) (kT : ClassId) (iC : Int32) (vF : Value) (h0 : Heap) (n0 : Nat) (O0 : Old Z n0 h0) (E_a1 : Exa Z h0 a1 "java/lang/String") (F_a1_coder : Fld Z h0 a1 "java/lang/String" "coder" "B" (.int 0)) (F_a1_value : Fld Z h0 a1 "java/lang/String" "value" "[B" (.ref t1)) (V_t1 : Arv Z h0 t1 k1 .byte n es (.int 0)) (WW : World1 Z wO wT kO kT iC vF) :
    Con l Z mq7 jdk_42_method_54_code 1 (some .int) ws ({ frames := 1, cells := 0, slots := 0, locals := 13 } : Room) #[(.ref a1)] h0 (fun v h L => v = some (.int n) ∧ Fr n0 L ∧ h = h0) := by
  refine own_body (plainFor_of_name pn_java_lang_String) ?_
  intro p e s m below meth c s₁ hx hby hml hZ hown hnm hlk hret X0 e0
  have N0 := Fr.nil n0
  have D := @hb _ _ hby
  refine Go.st (T' := s₁) (f' := (mkF m 0 #[rv a1] [])) (fun _ k => castTop (by first | (simp [entryFrame, mkF, argsToLocals, Value.category]; done) | rfl) k) ?_
  have ⟨S_iC, nz_iC, S_vF, r_vF, S_wO, E_wO, S_wT, E_wT, V_wO, V_wT⟩ := WW
  have lt_wO := E_wO.lt
  have lt_wT := E_wT.lt
  have lt_a1 := E_a1.lt
  have lt_t1 := V_t1.lt
  refine zan 1 X0 hx (D d10_0) rfl rfl ?_
  refine zgf 4 X0 hx hZ hown (host := "") (Or.inl (ww hw 20 rfl)) Via.refl e0 F_a1_value (D d10_1) fun T1 X1 e1 => ?_
  obtain ⟨cl2, Ar2, -, S2, Nx2, -, -⟩ := id V_t1
  refine Go.st (T' := T1) (f' := (mkF m 5 #[rv a1] [(.int n)])) (fun _ k => X1.arraylength hx (by rw [e1]; exact Ar2.1) (State.isArrayOf_alike hZ.alike Ar2.2.1) (g := (mkF m 4 #[rv a1] [(.ref t1)])) rfl rfl (D d10_4) _ (by rw [len_of S2 Nx2]; exact k)) ?_
  refine zan 6 X1 hx (D d10_5) rfl rfl ?_
  refine gV 9 1 0 0 X1 N0 hx hZ (y := mq5) hown hml (ww hw 72 rfl) (ww hw 73 rfl) (ww hw 75 rfl) (ww hw 74 rfl) (cod l Z a0 hw [] a1 wO wT kO kT iC vF h0 n0 O0 E_a1 F_a1_coder WW) (ww hw 76 rfl) (ww hw 3 rfl) e1 E_a1 [] [(.int n)] (lenOf pd___B rfl) (D d10_6) ?_
  rintro T3 L3 M3 _ X3 uu3 ⟨rfl, Nq3, kq3⟩
  have N3 := uu3 Nq3
  refine zsk [(.int 0), (.int n)] ?_
  refine Go.st (f' := (mkF m 10 #[rv a1] [(.int (n >>> ((0 : Int32) &&& 31)))])) (fun _ k => XS.ishr X3.here hx rfl (D d10_9) rfl k) ?_
  rw [own_ishr0 n]
  refine Go.retV X3 hlk hx (t := .int) hret rfl (Or.inl ⟨rfl, Or.inl rfl, _, rfl⟩) (D d10_10) kq3 ?_ (by decide) (by decide)
  exact ⟨rfl, N3, rfl⟩
theorem pn_jdk_internal_util_Preconditions : plainName "jdk/internal/util/Preconditions" = true := by first | (simp [plainName, overriddenIn]; done) | decide +kernel
theorem d43_0 : decode jdk_41_method_11_code 0 = .ok (.iload_n 0, 1) := by decide +kernel
theorem d43_1 : decode jdk_41_method_11_code 1 = .ok (.ifCond .lt 8, 3) := by decide +kernel
theorem d43_4 : decode jdk_41_method_11_code 4 = .ok (.iload_n 0, 1) := by decide +kernel
theorem d43_5 : decode jdk_41_method_11_code 5 = .ok (.iload_n 1, 1) := by decide +kernel
theorem d43_6 : decode jdk_41_method_11_code 6 = .ok (.if_icmp .lt 10, 3) := by decide +kernel
theorem d43_16 : decode jdk_41_method_11_code 16 = .ok (.iload_n 0, 1) := by decide +kernel
theorem d43_17 : decode jdk_41_method_11_code 17 = .ok (.ireturn, 1) := by decide +kernel
set_option maxRecDepth 65536 in
set_option maxHeartbeats 40000000 in
theorem ck_n (l : Launch) (Z : State) (a0 : Array Value) (hw : ∀ d ∈ tables_1, d.before a0 Z = true) (ws : List Jvm.Cond) (i : Int32) (n : Int32) (h0 : Heap) (n0 : Nat) (O0 : Old Z n0 h0) (hlo : ¬ i < (0 : Int32)) (hhi : i < n) :
    Con l Z mq8 jdk_41_method_11_code 3 (some .int) ws ({ frames := 0, cells := 0, slots := 0, locals := 0 } : Room) #[(.int i), (.int n), .null] h0 (fun v h L => v = some (.int i) ∧ Fr n0 L ∧ h = h0) := by
  refine own_body (plainFor_of_name pn_jdk_internal_util_Preconditions) ?_
  intro p e s m below meth c s₁ hx hby hml hZ hown hnm hlk hret X0 e0
  have N0 := Fr.nil n0
  have D := @hb _ _ hby
  refine Go.st (T' := s₁) (f' := (mkF m 0 #[iv i, iv n, .val .null] [])) (fun _ k => castTop (by first | (simp [entryFrame, mkF, argsToLocals, Value.category]; done) | rfl) k) ?_
  refine zin 1 X0 hx (D d43_0) rfl ?_
  refine zfn 4 X0 hx (D d43_1) ((if0 _ _).trans (flt hlo).1) ?_
  refine zin 5 X0 hx (D d43_4) rfl ?_
  refine zin 6 X0 hx (D d43_5) rfl ?_
  refine zcy 16 X0 hx (D d43_6) (tlt hhi).1 ?_
  refine zin 17 X0 hx (D d43_16) rfl ?_
  refine Go.retV X0 hlk hx (t := .int) hret rfl (Or.inl ⟨rfl, Or.inl rfl, _, rfl⟩) (D d43_17) e0 ?_ (by decide) (by decide)
  exact ⟨rfl, N0, rfl⟩
set_option maxRecDepth 65536 in
set_option maxHeartbeats 40000000 in
theorem ck_r (l : Launch) (Z : State) (a0 : Array Value) (hw : ∀ d ∈ tables_1, d.before a0 Z = true) (ws : List Jvm.Cond) (i : Int32) (n : Int32) (a1 : Addr) (h0 : Heap) (n0 : Nat) (O0 : Old Z n0 h0) (hlo : ¬ i < (0 : Int32)) (hhi : i < n) :
    Con l Z mq8 jdk_41_method_11_code 3 (some .int) ws ({ frames := 0, cells := 0, slots := 0, locals := 0 } : Room) #[(.int i), (.int n), (.ref a1)] h0 (fun v h L => v = some (.int i) ∧ Fr n0 L ∧ h = h0) := by
  refine own_body (plainFor_of_name pn_jdk_internal_util_Preconditions) ?_
  intro p e s m below meth c s₁ hx hby hml hZ hown hnm hlk hret X0 e0
  have N0 := Fr.nil n0
  have D := @hb _ _ hby
  refine Go.st (T' := s₁) (f' := (mkF m 0 #[iv i, iv n, rv a1] [])) (fun _ k => castTop (by first | (simp [entryFrame, mkF, argsToLocals, Value.category]; done) | rfl) k) ?_
  refine zin 1 X0 hx (D d43_0) rfl ?_
  refine zfn 4 X0 hx (D d43_1) ((if0 _ _).trans (flt hlo).1) ?_
  refine zin 5 X0 hx (D d43_4) rfl ?_
  refine zin 6 X0 hx (D d43_5) rfl ?_
  refine zcy 16 X0 hx (D d43_6) (tlt hhi).1 ?_
  refine zin 17 X0 hx (D d43_16) rfl ?_
  refine Go.retV X0 hlk hx (t := .int) hret rfl (Or.inl ⟨rfl, Or.inl rfl, _, rfl⟩) (D d43_17) e0 ?_ (by decide) (by decide)
  exact ⟨rfl, N0, rfl⟩
theorem ck_v (l : Launch) (Z : State) (a0 : Array Value) (hw : ∀ d ∈ tables_1, d.before a0 Z = true) (ws : List Jvm.Cond) (i : Int32) (n : Int32) (nv : Value) (h0 : Heap) (n0 : Nat) (O0 : Old Z n0 h0) (hnv : nv.isRef = true) (hlo : ¬ i < (0 : Int32)) (hhi : i < n) :
    Con l Z mq8 jdk_41_method_11_code 3 (some .int) ws ({ frames := 0, cells := 0, slots := 0, locals := 0 } : Room) #[(.int i), (.int n), nv] h0 (fun v h L => v = some (.int i) ∧ Fr n0 L ∧ h = h0) := by
  rcases ref_cases hnv with rfl | ⟨a, rfl⟩
  · exact ck_n l Z a0 hw ws i n h0 n0 O0 hlo hhi
  · exact ck_r l Z a0 hw ws i n a h0 n0 O0 hlo hhi
theorem d42_0 : decode jdk_42_method_155_code 0 = .ok (.iload_n 0, 1) := by decide +kernel
theorem d42_1 : decode jdk_42_method_155_code 1 = .ok (.iload_n 1, 1) := by decide +kernel
theorem d42_2 : decode jdk_42_method_155_code 2 = .ok (.getstatic 1053, 3) := by decide +kernel
theorem d42_5 : decode jdk_42_method_155_code 5 = .ok (.invokestatic 1059, 3) := by decide +kernel
theorem pd__IILjava_util_function_BiFunction__I : parseMethodDescriptor "(IILjava/util/function/BiFunction;)I" = some ⟨[.int, .int, (.object "java/util/function/BiFunction")], some .int⟩ := by decide +kernel
theorem d42_8 : decode jdk_42_method_155_code 8 = .ok (.pop, 1) := by decide +kernel
theorem d42_9 : decode jdk_42_method_155_code 9 = .ok (.return_, 1) := by decide +kernel
set_option maxRecDepth 65536 in
set_option maxHeartbeats 40000000 in
theorem ck_s (l : Launch) (Z : State) (a0 : Array Value) (hw : ∀ d ∈ tables_1, d.before a0 Z = true) (ws : List Jvm.Cond) (i : Int32) (n : Int32) (wO : Addr) (wT : Addr) (kO : ClassId) (kT : ClassId) (iC : Int32) (vF : Value) (h0 : Heap) (n0 : Nat) (O0 : Old Z n0 h0) (hlo : ¬ i < (0 : Int32)) (hhi : i < n) (WW : World1 Z wO wT kO kT iC vF) :
    Con l Z mq9 jdk_42_method_155_code 2 none ws ({ frames := 1, cells := 0, slots := 0, locals := 14 } : Room) #[(.int i), (.int n)] h0 (fun v h L => v = none ∧ Fr n0 L ∧ h = h0) := by
  refine own_body (plainFor_of_name pn_java_lang_String) ?_
  intro p e s m below meth c s₁ hx hby hml hZ hown hnm hlk hret X0 e0
  have N0 := Fr.nil n0
  have D := @hb _ _ hby
  refine Go.st (T' := s₁) (f' := (mkF m 0 #[iv i, iv n] [])) (fun _ k => castTop (by first | (simp [entryFrame, mkF, argsToLocals, Value.category]; done) | rfl) k) ?_
  have ⟨S_iC, nz_iC, S_vF, r_vF, S_wO, E_wO, S_wT, E_wT, V_wO, V_wT⟩ := WW
  have lt_wO := E_wO.lt
  have lt_wT := E_wT.lt
  refine zin 1 X0 hx (D d42_0) rfl ?_
  refine zin 2 X0 hx (D d42_1) rfl ?_
  obtain ⟨T1, X1, e1, st1⟩ := getS2 X0 hx hZ hown (host := "") (Or.inl (ww hw 221 rfl)) Via.refl e0 (S_vF.ext O0.2) (g := (mkF m 2 #[iv i, iv n] [(.int n), (.int i)])) rfl (D d42_2)
  refine zst 5 #[iv i, iv n] [vF, (.int n), (.int i)] st1 ?_
  refine gS 8 0 0 0 X1 N0 hx hZ (y := mq8) hown hml (ww hw 223 rfl) (ww hw 224 rfl) (ww hw 222 rfl) (ck_v l Z a0 hw [] i n vF h0 n0 O0 r_vF hlo hhi) (ww hw 225 rfl) e1 [(.int i), (.int n), vF] [] (lenOf pd__IILjava_util_function_BiFunction__I rfl) (D d42_5) ?_
  rintro T2 L2 M2 _ X2 uu2 ⟨rfl, Nq2, kq2⟩
  have N2 := uu2 Nq2
  refine zsk [(.int i)] ?_
  refine Go.st (f' := (mkF m 9 #[iv i, iv n] [])) (fun _ k => XS.pop X2.here hx rfl (D d42_8) rfl rfl k) ?_
  refine Go.ret0 X2 hlk hx hret (D d42_9) kq2 ?_ (by decide) (by decide)
  exact ⟨rfl, N2, rfl⟩
theorem pn_java_lang_StringLatin1 : plainName "java/lang/StringLatin1" = true := by first | (simp [plainName, overriddenIn]; done) | decide +kernel
theorem d41_0 : decode jdk_43_method_2_code 0 = .ok (.iload_n 1, 1) := by decide +kernel
theorem d41_1 : decode jdk_43_method_2_code 1 = .ok (.aload_n 0, 1) := by decide +kernel
theorem d41_2 : decode jdk_43_method_2_code 2 = .ok (.arraylength, 1) := by decide +kernel
theorem d41_3 : decode jdk_43_method_2_code 3 = .ok (.invokestatic 9, 3) := by decide +kernel
theorem pd__II_V : parseMethodDescriptor "(II)V" = some ⟨[.int, .int], none⟩ := by decide +kernel
theorem d41_6 : decode jdk_43_method_2_code 6 = .ok (.aload_n 0, 1) := by decide +kernel
theorem d41_7 : decode jdk_43_method_2_code 7 = .ok (.iload_n 1, 1) := by decide +kernel
theorem d41_8 : decode jdk_43_method_2_code 8 = .ok (.baload, 1) := by decide +kernel
theorem d41_9 : decode jdk_43_method_2_code 9 = .ok (.sipush 255, 3) := by decide +kernel
theorem d41_12 : decode jdk_43_method_2_code 12 = .ok (.iand, 1) := by decide +kernel
theorem d41_13 : decode jdk_43_method_2_code 13 = .ok (.i2c, 1) := by decide +kernel
theorem d41_14 : decode jdk_43_method_2_code 14 = .ok (.ireturn, 1) := by decide +kernel
def clI (x : Int32) : Int32 := (nar .char ((x &&& (255 : Int32)).toUInt32.toUInt16.toUInt32.toInt32))
set_option maxRecDepth 65536 in
set_option maxHeartbeats 40000000 in
theorem cl1 (l : Launch) (Z : State) (a0 : Array Value) (hw : ∀ d ∈ tables_1, d.before a0 Z = true) (ws : List Jvm.Cond) (t1 : Addr) (k1 : ClassId) (n : Int32) (es : List Value) (i : Int32) (x : Int32) (wO : Addr) (wT : Addr) (kO : ClassId) (kT : ClassId) (iC : Int32) (vF : Value) (h0 : Heap) (n0 : Nat) (O0 : Old Z n0 h0) (hlo : ¬ i < (0 : Int32)) (hhi : i < n) (hg : es.getD i.toNatClampNeg (.int 0) = .int x) (V_t1 : Arv Z h0 t1 k1 .byte n es (.int 0)) (WW : World1 Z wO wT kO kT iC vF) :
    Con l Z mq10 jdk_43_method_2_code 2 (some .char) ws ({ frames := 2, cells := 0, slots := 0, locals := 27 } : Room) #[(.ref t1), (.int i)] h0 (fun v h L => v = some (.int (clI x)) ∧ Fr n0 L ∧ h = h0) := by
  refine own_body (plainFor_of_name pn_java_lang_StringLatin1) ?_
  intro p e s m below meth c s₁ hx hby hml hZ hown hnm hlk hret X0 e0
  have N0 := Fr.nil n0
  have D := @hb _ _ hby
  refine Go.st (T' := s₁) (f' := (mkF m 0 #[rv t1, iv i] [])) (fun _ k => castTop (by first | (simp [entryFrame, mkF, argsToLocals, Value.category]; done) | rfl) k) ?_
  have ⟨S_iC, nz_iC, S_vF, r_vF, S_wO, E_wO, S_wT, E_wT, V_wO, V_wT⟩ := WW
  have lt_wO := E_wO.lt
  have lt_wT := E_wT.lt
  have lt_t1 := V_t1.lt
  refine zin 1 X0 hx (D d41_0) rfl ?_
  refine zan 2 X0 hx (D d41_1) rfl rfl ?_
  obtain ⟨cl1, Ar1, -, S1, Nx1, -, -⟩ := id V_t1
  refine Go.st (T' := s₁) (f' := (mkF m 3 #[rv t1, iv i] [(.int n), (.int i)])) (fun _ k => X0.arraylength hx (by rw [e0]; exact Ar1.1) (State.isArrayOf_alike hZ.alike Ar1.2.1) (g := (mkF m 2 #[rv t1, iv i] [(.ref t1), (.int i)])) rfl rfl (D d41_2) _ (by rw [len_of S1 Nx1]; exact k)) ?_
  refine gS 6 0 0 0 X0 N0 hx hZ (y := mq9) hown hml (ww hw 218 rfl) (ww hw 219 rfl) (ww hw 3 rfl) (ck_s l Z a0 hw [] i n wO wT kO kT iC vF h0 n0 O0 hlo hhi WW) (ww hw 220 rfl) e0 [(.int i), (.int n)] [] (lenOf pd__II_V rfl) (D d41_3) ?_
  rintro T2 L2 M2 _ X2 uu2 ⟨rfl, Nq2, kq2⟩
  have N2 := uu2 Nq2
  refine zsk [] ?_
  refine zan 7 X2 hx (D d41_6) rfl rfl ?_
  refine zin 8 X2 hx (D d41_7) rfl ?_
  obtain ⟨cl3, Ar3, -, S3, -, H3, -⟩ := id V_t1
  have hin3 : ¬ (i < 0 ∨ cl3.slots.size ≤ (i).toNatClampNeg) := inb_of S3 ⟨hlo, hhi⟩
  have hat3 : cl3.slots[(i).toNatClampNeg]? = some (.int x) := H3.at hin3 hg
  refine Go.st (f' := (mkF m 9 #[rv t1, iv i] [(.int x)])) (fun _ k => X2.baloadBytes hx (j := i) (v := (.int x)) (by rw [kq2]; exact Ar3.1) (State.isArrayOf_alike hZ.alike Ar3.2.1) Ar3.2.2 hin3 hat3 (g := (mkF m 8 #[rv t1, iv i] [(.int i), (.ref t1)])) rfl rfl (D d41_8) _ k) ?_
  refine Go.st (f' := (mkF m 12 #[rv t1, iv i] [(.int 255), (.int x)])) (fun _ k => XS.sipush X2.here hx rfl (D d41_9) k) ?_
  refine Go.st (f' := (mkF m 13 #[rv t1, iv i] [(.int (x &&& (255 : Int32)))])) (fun _ k => XS.iand X2.here hx rfl (D d41_12) rfl k) ?_
  refine Go.st (f' := (mkF m 14 #[rv t1, iv i] [(.int ((x &&& (255 : Int32)).toUInt32.toUInt16.toUInt32.toInt32))])) (fun _ k => XS.i2c X2.here hx rfl (D d41_13) rfl k) ?_
  refine Go.retB X2 hlk hx (t := .char) hret (by simp) (D d41_14) kq2 ?_ (by decide) (by decide)
  show (some (.int (nar .char ((x &&& (255 : Int32)).toUInt32.toUInt16.toUInt32.toInt32))) : Option Value) = some (.int (clI x)) ∧ _
  exact ⟨by rw [clI], N2, rfl⟩
theorem d39_0 : decode jdk_42_method_56_code 0 = .ok (.aload_n 0, 1) := by decide +kernel
theorem d39_1 : decode jdk_42_method_56_code 1 = .ok (.invokevirtual 492, 3) := by decide +kernel
theorem pd___Z : parseMethodDescriptor "()Z" = some ⟨[], some .boolean⟩ := by decide +kernel
theorem d39_4 : decode jdk_42_method_56_code 4 = .ok (.ifCond .eq 12, 3) := by decide +kernel
theorem d39_7 : decode jdk_42_method_56_code 7 = .ok (.aload_n 0, 1) := by decide +kernel
theorem d39_8 : decode jdk_42_method_56_code 8 = .ok (.getfield 9, 3) := by decide +kernel
theorem d39_11 : decode jdk_42_method_56_code 11 = .ok (.iload_n 1, 1) := by decide +kernel
theorem d39_12 : decode jdk_42_method_56_code 12 = .ok (.invokestatic 495, 3) := by decide +kernel
theorem pd___BI_C : parseMethodDescriptor "([BI)C" = some ⟨[(.array .byte), .int], some .char⟩ := by decide +kernel
theorem d39_15 : decode jdk_42_method_56_code 15 = .ok (.ireturn, 1) := by decide +kernel
def caL (x : Int32) : Int32 := (nar .char (clI x))
set_option maxRecDepth 65536 in
set_option maxHeartbeats 40000000 in
theorem ca0 (l : Launch) (Z : State) (a0 : Array Value) (hw : ∀ d ∈ tables_1, d.before a0 Z = true) (ws : List Jvm.Cond) (a1 : Addr) (t1 : Addr) (k1 : ClassId) (n : Int32) (es : List Value) (i : Int32) (x : Int32) (wO : Addr) (wT : Addr) (kO : ClassId) (kT : ClassId) (iC : Int32) (vF : Value) (h0 : Heap) (n0 : Nat) (O0 : Old Z n0 h0) (hlo : ¬ i < (0 : Int32)) (hhi : i < n) (hg : es.getD i.toNatClampNeg (.int 0) = .int x) (E_a1 : Exa Z h0 a1 "java/lang/String") (F_a1_coder : Fld Z h0 a1 "java/lang/String" "coder" "B" (.int 0)) (F_a1_value : Fld Z h0 a1 "java/lang/String" "value" "[B" (.ref t1)) (V_t1 : Arv Z h0 t1 k1 .byte n es (.int 0)) (WW : World1 Z wO wT kO kT iC vF) :
    Con l Z mq11 jdk_42_method_56_code 2 (some .char) ws ({ frames := 3, cells := 0, slots := 0, locals := 40 } : Room) #[(.ref a1), (.int i)] h0 (fun v h L => v = some (.int (caL x)) ∧ Fr n0 L ∧ h = h0) := by
  refine own_body (plainFor_of_name pn_java_lang_String) ?_
  intro p e s m below meth c s₁ hx hby hml hZ hown hnm hlk hret X0 e0
  have N0 := Fr.nil n0
  have D := @hb _ _ hby
  refine Go.st (T' := s₁) (f' := (mkF m 0 #[rv a1, iv i] [])) (fun _ k => castTop (by first | (simp [entryFrame, mkF, argsToLocals, Value.category]; done) | rfl) k) ?_
  have ⟨S_iC, nz_iC, S_vF, r_vF, S_wO, E_wO, S_wT, E_wT, V_wO, V_wT⟩ := WW
  have lt_wO := E_wO.lt
  have lt_wT := E_wT.lt
  have lt_t1 := V_t1.lt
  have lt_a1 := E_a1.lt
  refine zan 1 X0 hx (D d39_0) rfl rfl ?_
  refine gV 4 0 0 0 X0 N0 hx hZ (y := mq6) hown hml (ww hw 209 rfl) (ww hw 210 rfl) (ww hw 212 rfl) (ww hw 211 rfl) (lat l Z a0 hw [] a1 wO wT kO kT iC vF h0 n0 O0 E_a1 F_a1_coder WW) (ww hw 213 rfl) (ww hw 3 rfl) e0 E_a1 [] [] (lenOf pd___Z rfl) (D d39_1) ?_
  rintro T1 L1 M1 _ X1 uu1 ⟨rfl, Nq1, kq1⟩
  have N1 := uu1 Nq1
  refine zsk [(.int 1)] ?_
  refine zfn 7 X1 hx (D d39_4) (by decide) ?_
  refine zan 8 X1 hx (D d39_7) rfl rfl ?_
  refine zgf 11 X1 hx hZ hown (host := "") (Or.inl (ww hw 20 rfl)) Via.refl kq1 F_a1_value (D d39_8) fun T2 X2 e2 => ?_
  refine zin 12 X2 hx (D d39_11) rfl ?_
  refine gS 15 0 0 0 X2 N1 hx hZ (y := mq10) hown hml (ww hw 214 rfl) (ww hw 215 rfl) (ww hw 216 rfl) (cl1 l Z a0 hw [] t1 k1 n es i x wO wT kO kT iC vF h0 n0 O0 hlo hhi hg V_t1 WW) (ww hw 217 rfl) e2 [(.ref t1), (.int i)] [] (lenOf pd___BI_C rfl) (D d39_12) ?_
  rintro T3 L3 M3 _ X3 uu3 ⟨rfl, Nq3, kq3⟩
  have N3 := uu3 Nq3
  refine zsk [(.int (clI x))] ?_
  refine Go.retB X3 hlk hx (t := .char) hret (by simp) (D d39_15) kq3 ?_ (by decide) (by decide)
  show (some (.int (nar .char (clI x))) : Option Value) = some (.int (caL x)) ∧ _
  exact ⟨by rw [caL], N3, rfl⟩
theorem own_fit {c n N : Int32} {xs fs : List Value} (a : Ln c xs) (b : Ln n fs) (h : c.toInt + n.toInt ≤ N.toInt) : c.toNatClampNeg + n.toNatClampNeg ≤ N.toNatClampNeg := by
  have := a.1; have := b.1; simp only [Int32.toNatClampNeg]; omega
theorem le_of_lt {a b : Int32} (h : a < b) : a.toInt ≤ b.toInt := by rw [Int32.lt_iff_toInt_lt] at h; omega
theorem le_of_nlt {a b : Int32} (h : ¬ a < b) : b.toInt ≤ a.toInt := by rw [Int32.lt_iff_toInt_lt] at h; omega
def Nb (q0 q1 q2 : Int32) : Prop := 0 ≤ q0.toInt ∧ q0.toInt ≤ 200 ∧ 0 ≤ q1.toInt ∧ q1.toInt ≤ 200 ∧ 0 < q2.toInt ∧ q2.toInt ≤ 210
theorem own_nl {q0 q1 q2 x : Int32} (hb : Nb q0 q1 q2) (a : q1.toInt ≤ x.toInt) (b : q2.toInt ≤ x.toInt) (c : x = q1 ∨ x = q2) : q0.toInt + q1.toInt ≤ (q0 + x).toInt ∧ q0.toInt + q2.toInt ≤ (q0 + x).toInt ∧ ((q0 + x).toInt = q0.toInt + q1.toInt ∨ (q0 + x).toInt = q0.toInt + q2.toInt) := by
  have q := c_iadd q0 x
  have r := rng32 (q0 + x)
  obtain ⟨h1, h2, h3, h4, h5, h6⟩ := hb
  rcases c with rfl | rfl <;> omega
theorem own_nl0 {q0 q1 q2 x : Int32} (hb : Nb q0 q1 q2) (a : q1.toInt ≤ x.toInt) (b : q2.toInt ≤ x.toInt) (c : x = q1 ∨ x = q2) : (0 : Int32) < (q0 + x) ∧ ¬ (2147483639 : Int32) < (q0 + x) := by
  have q := own_nl hb a b c
  obtain ⟨h1, h2, h3, h4, h5, h6⟩ := hb
  have e0 : (0 : Int32).toInt = 0 := by decide
  have e1 : (2147483639 : Int32).toInt = 2147483639 := by decide
  rw [Int32.lt_iff_toInt_lt, Int32.lt_iff_toInt_lt]
  omega
def Cb (N q : Int32) : Prop := 0 ≤ N.toInt ∧ N.toInt ≤ 200 ∧ 0 ≤ q.toInt ∧ q.toInt ≤ 100
theorem own_nc {N q : Int32} (hb : Cb N q) (hg : (0 : Int32) < (q - N)) : Nb N (q - N) (N + (2 : Int32)) ∧ (q - N).toInt = q.toInt - N.toInt ∧ (N + (2 : Int32)).toInt = N.toInt + 2 := by
  have s := c_isub q N
  have r := rng32 (q - N)
  have a := c_iadd N 2
  have r2 := rng32 (N + 2)
  have e0 : (0 : Int32).toInt = 0 := by decide
  have e2 : (2 : Int32).toInt = 2 := by decide
  obtain ⟨h1, h2, h3, h4⟩ := hb
  rw [Int32.lt_iff_toInt_lt] at hg
  refine ⟨⟨?_, ?_, ?_, ?_, ?_, ?_⟩, ?_, ?_⟩ <;> omega
theorem own_nc2 {N q r : Int32} (hb : Cb N q) (hg : (0 : Int32) < (q - N)) (a : N.toInt + (q - N).toInt ≤ r.toInt) (b : N.toInt + (N + (2 : Int32)).toInt ≤ r.toInt) (c : r.toInt = N.toInt + (q - N).toInt ∨ r.toInt = N.toInt + (N + (2 : Int32)).toInt) : (q.toInt ≤ r.toInt ∧ N.toInt < r.toInt ∧ r.toInt ≤ 200) ∧ ¬ r = (2147483647 : Int32) := by
  have h := own_nc hb hg
  have e0 : (0 : Int32).toInt = 0 := by decide
  have e1 : (2147483647 : Int32).toInt = 2147483647 := by decide
  obtain ⟨h1, h2, h3, h4⟩ := hb
  rw [Int32.lt_iff_toInt_lt] at hg
  rw [← Int32.toInt_inj]
  refine ⟨⟨?_, ?_, ?_⟩, ?_⟩ <;> omega
def Bd (c N : Int32) : Prop := 0 ≤ c.toInt ∧ c.toInt ≤ N.toInt ∧ N.toInt ≤ 200
theorem Bd.nn {c N : Int32} (h : Bd c N) : ¬ N < (0 : Int32) := by
  rw [Int32.lt_iff_toInt_lt]; have e : (0 : Int32).toInt = 0 := by decide
  obtain ⟨h1, h2, h3⟩ := h; omega
theorem Bd.lp {c N : Int32} {xs : List Value} {d : Value} (h : Bd c N) (l : Ln c xs) : Ln N (xs ++ List.replicate (N.toNatClampNeg - xs.length) d) := by
  have := l.2; obtain ⟨h1, h2, h3⟩ := h
  refine ⟨by omega, ?_⟩
  rw [List.length_append, List.length_replicate]; simp only [Int32.toNatClampNeg]; omega
theorem own_c5 {c N n : Int32} (h : Bd c N) (g : N.toInt < n.toInt ∧ n.toInt ≤ 200) : (0 : Int32).toNatClampNeg + N.toNatClampNeg ≤ n.toNatClampNeg ∧ ¬ n = N ∧ ¬ n < N ∧ ¬ n < (0 : Int32) ∧ n.toNatClampNeg ≤ 200 := by
  have e0 : (0 : Int32).toInt = 0 := by decide
  obtain ⟨h1, h2, h3⟩ := h
  rw [← Int32.toInt_inj, Int32.lt_iff_toInt_lt, Int32.lt_iff_toInt_lt]
  simp only [Int32.toNatClampNeg]
  refine ⟨?_, ?_, ?_, ?_, ?_⟩ <;> omega
theorem own_ltN {c N : Int32} (h : Bd c N) (e : ¬ c = N) : c < N := by
  rw [← Int32.toInt_inj] at e; rw [Int32.lt_iff_toInt_lt]; obtain ⟨h1, h2, h3⟩ := h; omega
theorem own_c6 {c N : Int32} {xs : List Value} (l : Ln c xs) (h : Bd c N) : (0 : Int32).toNatClampNeg + c.toNatClampNeg ≤ N.toNatClampNeg ∧ N.toNatClampNeg ≤ 200 := by
  have e0 : (0 : Int32).toInt = 0 := by decide
  obtain ⟨h1, h2, h3⟩ := h; simp only [Int32.toNatClampNeg]; omega
theorem own_ng {N q : Int32} (hb : Cb N q) (hg : ¬ (0 : Int32) < (q - N)) : q.toInt ≤ N.toInt := by
  have s := c_isub q N
  have r := rng32 (q - N)
  have e0 : (0 : Int32).toInt = 0 := by decide
  obtain ⟨h1, h2, h3, h4⟩ := hb
  rw [Int32.lt_iff_toInt_lt] at hg
  omega
theorem own_cb {c n N : Int32} {xs fs : List Value} (a : Ln c xs) (b : Ln n fs) (h : xs.length + fs.length ≤ 100) (d : Bd c N) : Cb N (c + n) ∧ (c + n).toInt = c.toInt + n.toInt := by
  have q := a.app b (by omega)
  have q2 := q.2
  rw [List.length_append] at q2
  have := a.1; have := a.2; have := b.1; have := b.2; have := q.1
  obtain ⟨h1, h2, h3⟩ := d
  refine ⟨⟨?_, ?_, ?_, ?_⟩, ?_⟩ <;> omega
theorem own_ik {t t2 sb : Addr} {h0 h : Heap} (d : t = t2 ∨ h.size ≤ t) (k : h0.size ≤ h.size) : t ∈ [sb, t2] ∨ h0.size ≤ t := d.elim (fun q => Or.inl (by rw [q]; simp)) (fun q => Or.inr (Nat.le_trans k q))
theorem own_dz {t t2 : Addr} {h0 h : Heap} (d : t = t2 ∨ h.size ≤ t) (k : h0.size ≤ h.size) : t = t2 ∨ h0.size ≤ t := d.imp id (Nat.le_trans k)
theorem own_dt {t t2 : Addr} {h : Heap} (d : t = t2 ∨ h.size ≤ t) {k : Nat} (a : k ≤ t2) (b : k ≤ h.size) : k ≤ t := d.elim (fun q => by rw [q]; exact a) (Nat.le_trans b)
theorem own_dn {t t2 z : Addr} {h : Heap} (d : t = t2 ∨ h.size ≤ t) (a : z ≠ t2) (b : z < h.size) : z ≠ t := d.elim (fun q => by rw [q]; exact a) (fun q => Nat.ne_of_lt (Nat.lt_of_lt_of_le b q))

theorem d23_0 : decode jdk_29_method_65_code 0 = .ok (.iload_n 0, 1) := by decide +kernel
theorem d23_1 : decode jdk_29_method_65_code 1 = .ok (.iload_n 1, 1) := by decide +kernel
theorem d23_2 : decode jdk_29_method_65_code 2 = .ok (.if_icmp .lt 7, 3) := by decide +kernel
theorem d23_9 : decode jdk_29_method_65_code 9 = .ok (.iload_n 1, 1) := by decide +kernel
theorem d23_10 : decode jdk_29_method_65_code 10 = .ok (.ireturn, 1) := by decide +kernel
theorem d23_5 : decode jdk_29_method_65_code 5 = .ok (.iload_n 0, 1) := by decide +kernel
theorem d23_6 : decode jdk_29_method_65_code 6 = .ok (.goto 4, 3) := by decide +kernel
set_option maxRecDepth 65536 in
set_option maxHeartbeats 40000000 in
theorem gmx (l : Launch) (Z : State) (a0 : Array Value) (hw : ∀ d ∈ tables_1, d.before a0 Z = true) (ws : List Jvm.Cond) (q1 : Int32) (q2 : Int32) (h0 : Heap) (n0 : Nat) (O0 : Old Z n0 h0)  :
    Con l Z mq12 jdk_29_method_65_code 2 (some .int) ws ({ frames := 0, cells := 0, slots := 0, locals := 0 } : Room) #[(.int q1), (.int q2)] h0 (fun v h L => ∃ r : Int32, v = some (.int r) ∧ Fr n0 L ∧ h = h0 ∧ q1.toInt ≤ r.toInt ∧ q2.toInt ≤ r.toInt ∧ (r = q1 ∨ r = q2)) := by
  refine own_body (Jvm.Free.JP.mathPlain rfl (by decide +kernel)) ?_
  intro p e s m below meth c s₁ hx hby hml hZ hown hnm hlk hret X0 e0
  have N0 := Fr.nil n0
  have D := @hb _ _ hby
  refine Go.st (T' := s₁) (f' := (mkF m 0 #[iv q1, iv q2] [])) (fun _ k => castTop (by first | (simp [entryFrame, mkF, argsToLocals, Value.category]; done) | rfl) k) ?_
  refine zin 1 X0 hx (D d23_0) rfl ?_
  refine zin 2 X0 hx (D d23_1) rfl ?_
  by_cases cd1 : q1 < q2
  · refine zcy 9 X0 hx (D d23_2) (tlt cd1).1 ?_
    refine zin 10 X0 hx (D d23_9) rfl ?_
    refine Go.retV X0 hlk hx (t := .int) hret rfl (Or.inl ⟨rfl, Or.inl rfl, _, rfl⟩) (D d23_10) e0 ?_ (by decide) (by decide)
    exact ⟨_, rfl, N0, rfl, le_of_lt cd1, Int.le_refl _, Or.inr rfl⟩
  · refine zcn 5 X0 hx (D d23_2) (flt cd1).1 ?_
    refine zin 6 X0 hx (D d23_5) rfl ?_
    refine zgo 10 X0 hx (D d23_6) ?_
    refine Go.retV X0 hlk hx (t := .int) hret rfl (Or.inl ⟨rfl, Or.inl rfl, _, rfl⟩) (D d23_10) e0 ?_ (by decide) (by decide)
    exact ⟨_, rfl, N0, rfl, Int.le_refl _, le_of_nlt cd1, Or.inl rfl⟩
theorem d25_0 : decode jdk_29_method_69_code 0 = .ok (.iload_n 0, 1) := by decide +kernel
theorem d25_1 : decode jdk_29_method_69_code 1 = .ok (.iload_n 1, 1) := by decide +kernel
theorem d25_2 : decode jdk_29_method_69_code 2 = .ok (.if_icmp .gt 7, 3) := by decide +kernel
theorem d25_5 : decode jdk_29_method_69_code 5 = .ok (.iload_n 0, 1) := by decide +kernel
theorem d25_6 : decode jdk_29_method_69_code 6 = .ok (.goto 4, 3) := by decide +kernel
theorem d25_10 : decode jdk_29_method_69_code 10 = .ok (.ireturn, 1) := by decide +kernel
set_option maxRecDepth 65536 in
set_option maxHeartbeats 40000000 in
theorem gmA (l : Launch) (Z : State) (a0 : Array Value) (hw : ∀ d ∈ tables_1, d.before a0 Z = true) (ws : List Jvm.Cond) (q1 : Int32) (q2 : Int32) (h0 : Heap) (n0 : Nat) (O0 : Old Z n0 h0) (hq : ¬ q2 < q1) :
    Con l Z mq13 jdk_29_method_69_code 2 (some .int) ws ({ frames := 0, cells := 0, slots := 0, locals := 0 } : Room) #[(.int q1), (.int q2)] h0 (fun v h L => v = some (.int q1) ∧ Fr n0 L ∧ h = h0) := by
  refine own_body (Jvm.Free.JP.mathPlain rfl (by decide +kernel)) ?_
  intro p e s m below meth c s₁ hx hby hml hZ hown hnm hlk hret X0 e0
  have N0 := Fr.nil n0
  have D := @hb _ _ hby
  refine Go.st (T' := s₁) (f' := (mkF m 0 #[iv q1, iv q2] [])) (fun _ k => castTop (by first | (simp [entryFrame, mkF, argsToLocals, Value.category]; done) | rfl) k) ?_
  refine zin 1 X0 hx (D d25_0) rfl ?_
  refine zin 2 X0 hx (D d25_1) rfl ?_
  refine zcn 5 X0 hx (D d25_2) (flt hq).2.2.1 ?_
  refine zin 6 X0 hx (D d25_5) rfl ?_
  refine zgo 10 X0 hx (D d25_6) ?_
  refine Go.retV X0 hlk hx (t := .int) hret rfl (Or.inl ⟨rfl, Or.inl rfl, _, rfl⟩) (D d25_10) e0 ?_ (by decide) (by decide)
  exact ⟨rfl, N0, rfl⟩
theorem d25_9 : decode jdk_29_method_69_code 9 = .ok (.iload_n 1, 1) := by decide +kernel
set_option maxRecDepth 65536 in
set_option maxHeartbeats 40000000 in
theorem gmB (l : Launch) (Z : State) (a0 : Array Value) (hw : ∀ d ∈ tables_1, d.before a0 Z = true) (ws : List Jvm.Cond) (q1 : Int32) (q2 : Int32) (h0 : Heap) (n0 : Nat) (O0 : Old Z n0 h0) (hq : q2 < q1) :
    Con l Z mq13 jdk_29_method_69_code 2 (some .int) ws ({ frames := 0, cells := 0, slots := 0, locals := 0 } : Room) #[(.int q1), (.int q2)] h0 (fun v h L => v = some (.int q2) ∧ Fr n0 L ∧ h = h0) := by
  refine own_body (Jvm.Free.JP.mathPlain rfl (by decide +kernel)) ?_
  intro p e s m below meth c s₁ hx hby hml hZ hown hnm hlk hret X0 e0
  have N0 := Fr.nil n0
  have D := @hb _ _ hby
  refine Go.st (T' := s₁) (f' := (mkF m 0 #[iv q1, iv q2] [])) (fun _ k => castTop (by first | (simp [entryFrame, mkF, argsToLocals, Value.category]; done) | rfl) k) ?_
  refine zin 1 X0 hx (D d25_0) rfl ?_
  refine zin 2 X0 hx (D d25_1) rfl ?_
  refine zcy 9 X0 hx (D d25_2) (tlt hq).2.2.1 ?_
  refine zin 10 X0 hx (D d25_9) rfl ?_
  refine Go.retV X0 hlk hx (t := .int) hret rfl (Or.inl ⟨rfl, Or.inl rfl, _, rfl⟩) (D d25_10) e0 ?_ (by decide) (by decide)
  exact ⟨rfl, N0, rfl⟩
theorem pn_jdk_internal_util_ArraysSupport : plainName "jdk/internal/util/ArraysSupport" = true := by first | (simp [plainName, overriddenIn]; done) | decide +kernel
theorem d22_0 : decode jdk_48_method_27_code 0 = .ok (.iload_n 0, 1) := by decide +kernel
theorem d22_1 : decode jdk_48_method_27_code 1 = .ok (.iload_n 1, 1) := by decide +kernel
theorem d22_2 : decode jdk_48_method_27_code 2 = .ok (.iload_n 2, 1) := by decide +kernel
theorem d22_3 : decode jdk_48_method_27_code 3 = .ok (.invokestatic 194, 3) := by decide +kernel
theorem pd__II_I : parseMethodDescriptor "(II)I" = some ⟨[.int, .int], some .int⟩ := by decide +kernel
theorem d22_6 : decode jdk_48_method_27_code 6 = .ok (.iadd, 1) := by decide +kernel
theorem d22_7 : decode jdk_48_method_27_code 7 = .ok (.istore_n 3, 1) := by decide +kernel
theorem d22_8 : decode jdk_48_method_27_code 8 = .ok (.iconst 0, 1) := by decide +kernel
theorem d22_9 : decode jdk_48_method_27_code 9 = .ok (.iload_n 3, 1) := by decide +kernel
theorem d22_10 : decode jdk_48_method_27_code 10 = .ok (.if_icmp .ge 11, 3) := by decide +kernel
theorem d22_13 : decode jdk_48_method_27_code 13 = .ok (.iload_n 3, 1) := by decide +kernel
theorem d22_14 : decode jdk_48_method_27_code 14 = .ok (.ldc 200, 2) := by decide +kernel
theorem d22_16 : decode jdk_48_method_27_code 16 = .ok (.if_icmp .gt 5, 3) := by decide +kernel
theorem d22_19 : decode jdk_48_method_27_code 19 = .ok (.iload_n 3, 1) := by decide +kernel
theorem d22_20 : decode jdk_48_method_27_code 20 = .ok (.ireturn, 1) := by decide +kernel
set_option maxRecDepth 65536 in
set_option maxHeartbeats 40000000 in
theorem gnl (l : Launch) (Z : State) (a0 : Array Value) (hw : ∀ d ∈ tables_1, d.before a0 Z = true) (ws : List Jvm.Cond) (q0 : Int32) (q1 : Int32) (q2 : Int32) (h0 : Heap) (n0 : Nat) (O0 : Old Z n0 h0) (hbb : Nb q0 q1 q2) :
    Con l Z mq14 jdk_48_method_27_code 4 (some .int) ws ({ frames := 1, cells := 0, slots := 0, locals := 14 } : Room) #[(.int q0), (.int q1), (.int q2)] h0 (fun v h L => ∃ r : Int32, v = some (.int r) ∧ Fr n0 L ∧ h = h0 ∧ q0.toInt + q1.toInt ≤ r.toInt ∧ q0.toInt + q2.toInt ≤ r.toInt ∧ (r.toInt = q0.toInt + q1.toInt ∨ r.toInt = q0.toInt + q2.toInt)) := by
  refine own_body (plainFor_of_name pn_jdk_internal_util_ArraysSupport) ?_
  intro p e s m below meth c s₁ hx hby hml hZ hown hnm hlk hret X0 e0
  have N0 := Fr.nil n0
  have D := @hb _ _ hby
  refine Go.st (T' := s₁) (f' := (mkF m 0 #[iv q0, iv q1, iv q2, .unset] [])) (fun _ k => castTop (by first | (simp [entryFrame, mkF, argsToLocals, Value.category]; done) | rfl) k) ?_
  refine zin 1 X0 hx (D d22_0) rfl ?_
  refine zin 2 X0 hx (D d22_1) rfl ?_
  refine zin 3 X0 hx (D d22_2) rfl ?_
  refine gS 6 1 0 0 X0 N0 hx hZ (y := mq12) hown hml (ww hw 137 rfl) (ww hw 138 rfl) (ww hw 139 rfl) (gmx l Z a0 hw [] q1 q2 h0 n0 O0) (ww hw 140 rfl) e0 [(.int q1), (.int q2)] [(.int q0)] (lenOf pd__II_I rfl) (D d22_3) ?_
  rintro T1 L1 M1 _ X1 uu1 ⟨mx1, rfl, Nq1, kq1, ma1, mb1, mc1⟩
  have N1 := uu1 Nq1
  refine zsk [(.int mx1), (.int q0)] ?_
  refine zad 7 X1 hx (D d22_6) ?_
  refine zsn 8 #[iv q0, iv q1, iv q2, .val (.int (q0 + mx1))] X1 hx (D d22_7) ?_
  refine zic 9 0 X1 hx (D d22_8) ?_
  refine zin 10 X1 hx (D d22_9) rfl ?_
  refine zcn 13 X1 hx (D d22_10) (tlt (own_nl0 hbb ma1 mb1 mc1).1).2.1 ?_
  refine zin 14 X1 hx (D d22_13) rfl ?_
  refine Go.st (f' := (mkF m 16 #[iv q0, iv q1, iv q2, .val (.int (q0 + mx1))] [(.int 2147483639), (.int (q0 + mx1))])) (fun _ k => X1.ldcInt hx hown (mvT hZ (ww hw 141 rfl)) (g := (mkF m 14 #[iv q0, iv q1, iv q2, .val (.int (q0 + mx1))] [(.int (q0 + mx1))])) rfl (D d22_14) _ k) ?_
  refine zcn 19 X1 hx (D d22_16) (flt (own_nl0 hbb ma1 mb1 mc1).2).2.2.1 ?_
  refine zin 20 X1 hx (D d22_19) rfl ?_
  refine Go.retV X1 hlk hx (t := .int) hret rfl (Or.inl ⟨rfl, Or.inl rfl, _, rfl⟩) (D d22_20) kq1 ?_ (by decide) (by decide)
  exact ⟨_, rfl, N1, rfl, own_nl hbb ma1 mb1 mc1⟩
theorem pn_java_lang_AbstractStringBuilder : plainName "java/lang/AbstractStringBuilder" = true := by first | (simp [plainName, overriddenIn]; done) | decide +kernel
theorem d21_0 : decode jdk_68_method_10_code 0 = .ok (.aload_n 0, 1) := by decide +kernel
theorem d21_1 : decode jdk_68_method_10_code 1 = .ok (.getfield 15, 3) := by decide +kernel
theorem d21_4 : decode jdk_68_method_10_code 4 = .ok (.arraylength, 1) := by decide +kernel
theorem d21_5 : decode jdk_68_method_10_code 5 = .ok (.istore_n 2, 1) := by decide +kernel
theorem d21_6 : decode jdk_68_method_10_code 6 = .ok (.iload_n 1, 1) := by decide +kernel
theorem d21_7 : decode jdk_68_method_10_code 7 = .ok (.aload_n 0, 1) := by decide +kernel
theorem d21_8 : decode jdk_68_method_10_code 8 = .ok (.getfield 22, 3) := by decide +kernel
theorem d21_11 : decode jdk_68_method_10_code 11 = .ok (.ishl, 1) := by decide +kernel
theorem d21_12 : decode jdk_68_method_10_code 12 = .ok (.istore_n 3, 1) := by decide +kernel
theorem d21_13 : decode jdk_68_method_10_code 13 = .ok (.iload_n 3, 1) := by decide +kernel
theorem d21_14 : decode jdk_68_method_10_code 14 = .ok (.iload_n 2, 1) := by decide +kernel
theorem d21_15 : decode jdk_68_method_10_code 15 = .ok (.isub, 1) := by decide +kernel
theorem d21_16 : decode jdk_68_method_10_code 16 = .ok (.istore 4, 2) := by decide +kernel
theorem d21_18 : decode jdk_68_method_10_code 18 = .ok (.iload_n 2, 1) := by decide +kernel
theorem d21_19 : decode jdk_68_method_10_code 19 = .ok (.iload 4, 2) := by decide +kernel
theorem d21_21 : decode jdk_68_method_10_code 21 = .ok (.iload_n 2, 1) := by decide +kernel
theorem d21_22 : decode jdk_68_method_10_code 22 = .ok (.iconst 2, 1) := by decide +kernel
theorem d21_23 : decode jdk_68_method_10_code 23 = .ok (.aload_n 0, 1) := by decide +kernel
theorem d21_24 : decode jdk_68_method_10_code 24 = .ok (.getfield 22, 3) := by decide +kernel
theorem d21_27 : decode jdk_68_method_10_code 27 = .ok (.ishl, 1) := by decide +kernel
theorem d21_28 : decode jdk_68_method_10_code 28 = .ok (.iadd, 1) := by decide +kernel
theorem d21_29 : decode jdk_68_method_10_code 29 = .ok (.invokestatic 114, 3) := by decide +kernel
theorem pd__III_I : parseMethodDescriptor "(III)I" = some ⟨[.int, .int, .int], some .int⟩ := by decide +kernel
theorem d21_32 : decode jdk_68_method_10_code 32 = .ok (.istore 5, 2) := by decide +kernel
theorem d21_34 : decode jdk_68_method_10_code 34 = .ok (.iload 5, 2) := by decide +kernel
theorem d21_36 : decode jdk_68_method_10_code 36 = .ok (.ldc 39, 2) := by decide +kernel
theorem d21_38 : decode jdk_68_method_10_code 38 = .ok (.if_icmp .ne 13, 3) := by decide +kernel
theorem d21_51 : decode jdk_68_method_10_code 51 = .ok (.iload 5, 2) := by decide +kernel
theorem d21_53 : decode jdk_68_method_10_code 53 = .ok (.aload_n 0, 1) := by decide +kernel
theorem d21_54 : decode jdk_68_method_10_code 54 = .ok (.getfield 22, 3) := by decide +kernel
theorem d21_57 : decode jdk_68_method_10_code 57 = .ok (.ishr, 1) := by decide +kernel
theorem d21_58 : decode jdk_68_method_10_code 58 = .ok (.ireturn, 1) := by decide +kernel
set_option maxRecDepth 65536 in
set_option maxHeartbeats 40000000 in
theorem gnc (l : Launch) (Z : State) (a0 : Array Value) (hw : ∀ d ∈ tables_1, d.before a0 Z = true) (ws : List Jvm.Cond) (sb : Addr) (q1 : Int32) (t2 : Addr) (k2 : ClassId) (Y2 : Int32) (xs : List Value) (wO : Addr) (wT : Addr) (kO : ClassId) (kT : ClassId) (iC : Int32) (vF : Value) (h0 : Heap) (n0 : Nat) (O0 : Old Z n0 h0) (hbb : Cb Y2 q1) (hg : (0 : Int32) < (q1 - Y2)) (E_sb : Exa Z h0 sb "java/lang/StringBuilder") (F_sb_coder : Fld Z h0 sb "java/lang/AbstractStringBuilder" "coder" "B" (.int 0)) (F_sb_value : Fld Z h0 sb "java/lang/AbstractStringBuilder" "value" "[B" (.ref t2)) (V_t2 : Arv Z h0 t2 k2 .byte Y2 xs (.int 0)) (WW : World1 Z wO wT kO kT iC vF) :
    Con l Z mq15 jdk_68_method_10_code 6 (some .int) ws ({ frames := 2, cells := 0, slots := 0, locals := 29 } : Room) #[(.ref sb), (.int q1)] h0 (fun v h L => ∃ r : Int32, v = some (.int r) ∧ Fr n0 L ∧ h = h0 ∧ q1.toInt ≤ r.toInt ∧ Y2.toInt < r.toInt ∧ r.toInt ≤ 200) := by
  refine own_body (plainFor_of_name pn_java_lang_AbstractStringBuilder) ?_
  intro p e s m below meth c s₁ hx hby hml hZ hown hnm hlk hret X0 e0
  have N0 := Fr.nil n0
  have D := @hb _ _ hby
  refine Go.st (T' := s₁) (f' := (mkF m 0 #[rv sb, iv q1, .unset, .unset, .unset, .unset] [])) (fun _ k => castTop (by first | (simp [entryFrame, mkF, argsToLocals, Value.category]; done) | rfl) k) ?_
  have ⟨S_iC, nz_iC, S_vF, r_vF, S_wO, E_wO, S_wT, E_wT, V_wO, V_wT⟩ := WW
  have lt_wO := E_wO.lt
  have lt_wT := E_wT.lt
  have lt_sb := E_sb.lt
  have lt_t2 := V_t2.lt
  refine zan 1 X0 hx (D d21_0) rfl rfl ?_
  refine zgf 4 X0 hx hZ hown (host := "") (Or.inl (ww hw 52 rfl)) Via.refl e0 F_sb_value (D d21_1) fun T1 X1 e1 => ?_
  obtain ⟨cl2, Ar2, -, S2, Nx2, -, -⟩ := id V_t2
  refine Go.st (T' := T1) (f' := (mkF m 5 #[rv sb, iv q1, .unset, .unset, .unset, .unset] [(.int Y2)])) (fun _ k => X1.arraylength hx (by rw [e1]; exact Ar2.1) (State.isArrayOf_alike hZ.alike Ar2.2.1) (g := (mkF m 4 #[rv sb, iv q1, .unset, .unset, .unset, .unset] [(.ref t2)])) rfl rfl (D d21_4) _ (by rw [len_of S2 Nx2]; exact k)) ?_
  refine zsn 6 #[rv sb, iv q1, iv Y2, .unset, .unset, .unset] X1 hx (D d21_5) ?_
  refine zin 7 X1 hx (D d21_6) rfl ?_
  refine zan 8 X1 hx (D d21_7) rfl rfl ?_
  refine zgf 11 X1 hx hZ hown (host := "") (Or.inl (ww hw 54 rfl)) Via.refl e1 F_sb_coder (D d21_8) fun T3 X3 e3 => ?_
  refine Go.st (f' := (mkF m 12 #[rv sb, iv q1, iv Y2, .unset, .unset, .unset] [(.int (q1 <<< ((0 : Int32) &&& 31)))])) (fun _ k => XS.ishl X3.here hx rfl (D d21_11) rfl k) ?_
  rw [own_ishl0 q1]
  refine zsn 13 #[rv sb, iv q1, iv Y2, iv q1, .unset, .unset] X3 hx (D d21_12) ?_
  refine zin 14 X3 hx (D d21_13) rfl ?_
  refine zin 15 X3 hx (D d21_14) rfl ?_
  refine zsb 16 X3 hx (D d21_15) ?_
  refine zsl 18 #[rv sb, iv q1, iv Y2, iv q1, .val (.int (q1 - Y2)), .unset] X3 hx (D d21_16) ?_
  refine zin 19 X3 hx (D d21_18) rfl ?_
  refine zil 21 X3 hx (D d21_19) rfl ?_
  refine zin 22 X3 hx (D d21_21) rfl ?_
  refine zic 23 2 X3 hx (D d21_22) ?_
  refine zan 24 X3 hx (D d21_23) rfl rfl ?_
  refine zgf 27 X3 hx hZ hown (host := "") (Or.inl (ww hw 54 rfl)) Via.refl e3 F_sb_coder (D d21_24) fun T4 X4 e4 => ?_
  refine Go.st (f' := (mkF m 28 #[rv sb, iv q1, iv Y2, iv q1, .val (.int (q1 - Y2)), .unset] [(.int 2), (.int Y2), (.int (q1 - Y2)), (.int Y2)])) (fun _ k => XS.ishl X4.here hx rfl (D d21_27) rfl k) ?_
  refine zad 29 X4 hx (D d21_28) ?_
  refine gS 32 0 0 0 X4 N0 hx hZ (y := mq14) hown hml (ww hw 133 rfl) (ww hw 134 rfl) (ww hw 135 rfl) (gnl l Z a0 hw [] Y2 (q1 - Y2) (Y2 + (2 : Int32)) h0 n0 O0 (own_nc hbb hg).1) (ww hw 136 rfl) e4 [(.int Y2), (.int (q1 - Y2)), (.int (Y2 + (2 : Int32)))] [] (lenOf pd__III_I rfl) (D d21_29) ?_
  rintro T5 L5 M5 _ X5 uu5 ⟨nl5, rfl, Nq5, kq5, na5, nb5, nc5⟩
  have N5 := uu5 Nq5
  refine zsk [(.int nl5)] ?_
  refine zsl 34 #[rv sb, iv q1, iv Y2, iv q1, .val (.int (q1 - Y2)), iv nl5] X5 hx (D d21_32) ?_
  refine zil 36 X5 hx (D d21_34) rfl ?_
  refine Go.st (f' := (mkF m 38 #[rv sb, iv q1, iv Y2, iv q1, .val (.int (q1 - Y2)), iv nl5] [(.int 2147483647), (.int nl5)])) (fun _ k => X5.ldcInt hx hown (mvT hZ (ww hw 142 rfl)) (g := (mkF m 36 #[rv sb, iv q1, iv Y2, iv q1, .val (.int (q1 - Y2)), iv nl5] [(.int nl5)])) rfl (D d21_36) _ k) ?_
  refine zcy 51 X5 hx (D d21_38) (feq (own_nc2 hbb hg na5 nb5 nc5).2).2 ?_
  refine zil 53 X5 hx (D d21_51) rfl ?_
  refine zan 54 X5 hx (D d21_53) rfl rfl ?_
  refine zgf 57 X5 hx hZ hown (host := "") (Or.inl (ww hw 54 rfl)) Via.refl kq5 F_sb_coder (D d21_54) fun T6 X6 e6 => ?_
  refine Go.st (f' := (mkF m 58 #[rv sb, iv q1, iv Y2, iv q1, .val (.int (q1 - Y2)), iv nl5] [(.int (nl5 >>> ((0 : Int32) &&& 31)))])) (fun _ k => XS.ishr X6.here hx rfl (D d21_57) rfl k) ?_
  rw [own_ishr0 nl5]
  refine Go.retV X6 hlk hx (t := .int) hret rfl (Or.inl ⟨rfl, Or.inl rfl, _, rfl⟩) (D d21_58) e6 ?_ (by decide) (by decide)
  exact ⟨_, rfl, N5, rfl, (own_nc2 hbb hg na5 nb5 nc5).1⟩
theorem pn_java_util_Arrays : plainName "java/util/Arrays" = true := by first | (simp [plainName, overriddenIn]; done) | decide +kernel
theorem d24_0 : decode jdk_65_method_121_code 0 = .ok (.iload_n 1, 1) := by decide +kernel
theorem d24_1 : decode jdk_65_method_121_code 1 = .ok (.aload_n 0, 1) := by decide +kernel
theorem d24_2 : decode jdk_65_method_121_code 2 = .ok (.arraylength, 1) := by decide +kernel
theorem d24_3 : decode jdk_65_method_121_code 3 = .ok (.if_icmp .ne 11, 3) := by decide +kernel
theorem d24_14 : decode jdk_65_method_121_code 14 = .ok (.iload_n 1, 1) := by decide +kernel
theorem d24_15 : decode jdk_65_method_121_code 15 = .ok (.newarray .byte, 2) := by decide +kernel
theorem d24_17 : decode jdk_65_method_121_code 17 = .ok (.astore_n 2, 1) := by decide +kernel
theorem d24_18 : decode jdk_65_method_121_code 18 = .ok (.aload_n 0, 1) := by decide +kernel
theorem d24_19 : decode jdk_65_method_121_code 19 = .ok (.iconst 0, 1) := by decide +kernel
theorem d24_20 : decode jdk_65_method_121_code 20 = .ok (.aload_n 2, 1) := by decide +kernel
theorem d24_21 : decode jdk_65_method_121_code 21 = .ok (.iconst 0, 1) := by decide +kernel
theorem d24_22 : decode jdk_65_method_121_code 22 = .ok (.aload_n 0, 1) := by decide +kernel
theorem d24_23 : decode jdk_65_method_121_code 23 = .ok (.arraylength, 1) := by decide +kernel
theorem d24_24 : decode jdk_65_method_121_code 24 = .ok (.iload_n 1, 1) := by decide +kernel
theorem d24_25 : decode jdk_65_method_121_code 25 = .ok (.invokestatic 304, 3) := by decide +kernel
theorem d24_28 : decode jdk_65_method_121_code 28 = .ok (.invokestatic 150, 3) := by decide +kernel
theorem d24_31 : decode jdk_65_method_121_code 31 = .ok (.aload_n 2, 1) := by decide +kernel
theorem d24_32 : decode jdk_65_method_121_code 32 = .ok (.areturn, 1) := by decide +kernel
set_option maxRecDepth 65536 in
set_option maxHeartbeats 40000000 in
theorem gco (l : Launch) (Z : State) (a0 : Array Value) (hw : ∀ d ∈ tables_1, d.before a0 Z = true) (ws : List Jvm.Cond) (t2 : Addr) (k2 : ClassId) (Y2 : Int32) (c2 : Int32) (xs : List Value) (n4 : Int32) (wO : Addr) (wT : Addr) (kO : ClassId) (kT : ClassId) (iC : Int32) (vF : Value) (h0 : Heap) (n0 : Nat) (O0 : Old Z n0 h0) (lc : Ln c2 xs) (bd : Bd c2 Y2) (hn : Y2.toInt < n4.toInt ∧ n4.toInt ≤ 200) (E_t2 : Exa Z h0 t2 "[B") (V_t2 : Arv Z h0 t2 k2 .byte Y2 xs (.int 0)) (WW : World1 Z wO wT kO kT iC vF) :
    Con l Z mq16 jdk_65_method_121_code 3 (some (.array .byte)) ws ({ frames := 1, cells := 1, slots := 200, locals := 20 } : Room) #[(.ref t2), (.int n4)] h0 (fun v h L => ∃ (b : Addr) (kb : ClassId), v = some (.ref b) ∧ Fr n0 L ∧ h0.size ≤ b ∧ Keep h0 h [] ∧ Exa Z h b "[B" ∧ Arv Z h b kb .byte n4 xs (.int 0)) := by
  refine own_body (plainFor_of_name pn_java_util_Arrays) ?_
  intro p e s m below meth c s₁ hx hby hml hZ hown hnm hlk hret X0 e0
  have N0 := Fr.nil n0
  have D := @hb _ _ hby
  have K0 : Keep h0 h0 [] := Keep.refl _ _
  refine Go.st (T' := s₁) (f' := (mkF m 0 #[rv t2, iv n4, .unset] [])) (fun _ k => castTop (by first | (simp [entryFrame, mkF, argsToLocals, Value.category]; done) | rfl) k) ?_
  have ⟨S_iC, nz_iC, S_vF, r_vF, S_wO, E_wO, S_wT, E_wT, V_wO, V_wT⟩ := WW
  have lt_wO := E_wO.lt
  have lt_wT := E_wT.lt
  have lt_t2 := V_t2.lt
  have V_p := Arv.pad V_t2 (pad_rep xs (.int (0 : Int32)) (Y2.toNatClampNeg - xs.length))
  have lp := bd.lp (d := .int (0 : Int32)) lc
  have c5 := own_c5 bd hn
  refine zin 1 X0 hx (D d24_0) rfl ?_
  refine zan 2 X0 hx (D d24_1) rfl rfl ?_
  obtain ⟨cl1, Ar1, -, S1, Nx1, -, -⟩ := id V_p
  refine Go.st (T' := s₁) (f' := (mkF m 3 #[rv t2, iv n4, .unset] [(.int Y2), (.int n4)])) (fun _ k => X0.arraylength hx (by rw [e0]; exact Ar1.1) (State.isArrayOf_alike hZ.alike Ar1.2.1) (g := (mkF m 2 #[rv t2, iv n4, .unset] [(.ref t2), (.int n4)])) rfl rfl (D d24_2) _ (by rw [len_of S1 Nx1]; exact k)) ?_
  refine zcy 14 X0 hx (D d24_3) (feq c5.2.1).2 ?_
  refine zin 15 X0 hx (D d24_14) rfl ?_
  obtain ⟨T2, h2, kc2, X2, e2, E2, A2, Ex2, st2⟩ := newPE X0 hx hZ (ww hw 15 rfl) e0 (g := (mkF m 15 #[rv t2, iv n4, .unset] [(.int n4)])) rfl (D d24_15) rfl c5.2.2.2.1 (cap := 200) c5.2.2.2.2 (by decide) (by decide) (by decide) rfl
  obtain ⟨b2, g2⟩ : ∃ z, z = h0.size := ⟨_, rfl⟩
  rw [← g2] at A2 Ex2 st2
  have ne_t2_b2 : t2 ≠ b2 := Nat.ne_of_lt (Nat.lt_of_lt_of_eq lt_t2 g2.symm)
  have ne_wO_b2 : wO ≠ b2 := Nat.ne_of_lt (Nat.lt_of_lt_of_le lt_wO (Nat.le_trans O0.2.1 (Nat.le_of_eq g2.symm)))
  have ne_wT_b2 : wT ≠ b2 := Nat.ne_of_lt (Nat.lt_of_lt_of_le lt_wT (Nat.le_trans O0.2.1 (Nat.le_of_eq g2.symm)))
  have g_b2 : n0 ≤ b2 := Nat.le_trans (O0.1 ▸ O0.2.1) (Nat.le_of_eq g2.symm)
  have O2 : Old Z n0 h2 := O0.ext E2
  have sz_b2 : h0.size ≤ b2 := Nat.le_trans K0.1 (Nat.le_of_eq g2.symm)
  have K2 : Keep h0 h2 [] := K0.ext E2
  have V_b2 : Arv Z h2 b2 kc2 .byte n4 [] (.int (0 : Int32)) := Arv.new A2 c5.2.2.2.1
  have lt_b2 := A2.lt
  refine zst 17 #[rv t2, iv n4, .unset] [(.ref b2)] st2 ?_
  refine zrn 18 #[rv t2, iv n4, rv b2] X2 hx (D d24_17) rfl ?_
  refine zan 19 X2 hx (D d24_18) rfl rfl ?_
  refine zic 20 0 X2 hx (D d24_19) ?_
  refine zan 21 X2 hx (D d24_20) rfl rfl ?_
  refine zic 22 0 X2 hx (D d24_21) ?_
  refine zan 23 X2 hx (D d24_22) rfl rfl ?_
  have ft4 := (V_p.ext E2)
  obtain ⟨cl3, Ar3, -, S3, Nx3, -, -⟩ := id ft4
  refine Go.st (T' := T2) (f' := (mkF m 24 #[rv t2, iv n4, rv b2] [(.int Y2), (.int 0), (.ref b2), (.int 0), (.ref t2)])) (fun _ k => X2.arraylength hx (by rw [e2]; exact Ar3.1) (State.isArrayOf_alike hZ.alike Ar3.2.1) (g := (mkF m 23 #[rv t2, iv n4, rv b2] [(.ref t2), (.int 0), (.ref b2), (.int 0), (.ref t2)])) rfl rfl (D d24_23) _ (by rw [len_of S3 Nx3]; exact k)) ?_
  refine zin 25 X2 hx (D d24_24) rfl ?_
  refine gS 28 4 1 200 X2 N0 hx hZ (y := mq13) hown hml (ww hw 147 rfl) (ww hw 148 rfl) (ww hw 139 rfl) (gmA l Z a0 hw [] Y2 n4 h2 n0 O2 c5.2.2.1) (ww hw 149 rfl) e2 [(.int Y2), (.int n4)] [(.int 0), (.ref b2), (.int 0), (.ref t2)] (lenOf pd__II_I rfl) (D d24_25) ?_
  rintro T5 L5 M5 _ X5 uu5 ⟨rfl, Nq5, kq5⟩
  have N5 := uu5 Nq5
  refine zsk [(.int Y2), (.int 0), (.ref b2), (.int 0), (.ref t2)] ?_
  have vp7 := Arv.pad V_b2 (pad_rep [] (.int (0 : Int32)) ((xs ++ List.replicate (Y2.toNatClampNeg - xs.length) (Value.int (0 : Int32)))).length)
  obtain ⟨T8, h8, L8, X8, e8, N8, kq8, vq8, st8⟩ := cpA X5 hx hZ hown (ww hw 150 rfl) (ww hw 104 rfl) (ww hw 102 rfl) (ww hw 103 rfl) kq5 ft4 vp7 (us := (xs ++ List.replicate (Y2.toNatClampNeg - xs.length) (Value.int (0 : Int32)))) (Or.inl ⟨rfl, rfl⟩) (by decide) ln0.nn lp.nn (by show 0 + _ ≤ _; omega) c5.1 (own_mapr lp.nat) (own_padl ln0 lp) N5 g_b2 (g := (mkF m 28 #[rv t2, iv n4, rv b2] [(.int Y2), (.int 0), (.ref b2), (.int 0), (.ref t2)])) rfl (by rw [hml]; rfl) rfl (D d24_28) (by decide) (W := 0) (by show 2 * 0 + _ ≤ _; exact Nat.le_of_eq rfl) (by decide)
  rw [own_join ln0.nat lp.nat] at vq8
  have O8 : Old Z n0 h8 := O2.keep kq8 (allS g_b2 all0)
  have K8 : Keep h0 h8 [] := K2.trans kq8 (allS (Or.inr sz_b2) all0)
  refine zst 31 #[rv t2, iv n4, rv b2] [] st8 ?_
  refine zan 32 X8 hx (D d24_31) rfl rfl ?_
  refine Go.retV X8 hlk hx (t := (.array .byte)) hret rfl (Or.inr (Or.inr (Or.inr (Or.inr ⟨rfl, rfl, rfl⟩)))) (D d24_32) e8 ?_ (by decide) (by decide)
  have ft9 := (Ex2.keep kq8)
  exact ⟨b2, kc2, rfl, N8, sz_b2, K8, ft9, vq8.pad (fun i => (pad_rep xs _ _ i).symm)⟩
theorem d12_0 : decode jdk_68_method_9_code 0 = .ok (.aload_n 0, 1) := by decide +kernel
theorem d12_1 : decode jdk_68_method_9_code 1 = .ok (.getfield 15, 3) := by decide +kernel
theorem d12_4 : decode jdk_68_method_9_code 4 = .ok (.arraylength, 1) := by decide +kernel
theorem d12_5 : decode jdk_68_method_9_code 5 = .ok (.aload_n 0, 1) := by decide +kernel
theorem d12_6 : decode jdk_68_method_9_code 6 = .ok (.getfield 22, 3) := by decide +kernel
theorem d12_9 : decode jdk_68_method_9_code 9 = .ok (.ishr, 1) := by decide +kernel
theorem d12_10 : decode jdk_68_method_9_code 10 = .ok (.istore_n 2, 1) := by decide +kernel
theorem d12_11 : decode jdk_68_method_9_code 11 = .ok (.iload_n 1, 1) := by decide +kernel
theorem d12_12 : decode jdk_68_method_9_code 12 = .ok (.iload_n 2, 1) := by decide +kernel
theorem d12_13 : decode jdk_68_method_9_code 13 = .ok (.isub, 1) := by decide +kernel
theorem d12_14 : decode jdk_68_method_9_code 14 = .ok (.ifCond .le 24, 3) := by decide +kernel
theorem d12_17 : decode jdk_68_method_9_code 17 = .ok (.aload_n 0, 1) := by decide +kernel
theorem d12_18 : decode jdk_68_method_9_code 18 = .ok (.aload_n 0, 1) := by decide +kernel
theorem d12_19 : decode jdk_68_method_9_code 19 = .ok (.getfield 15, 3) := by decide +kernel
theorem d12_22 : decode jdk_68_method_9_code 22 = .ok (.aload_n 0, 1) := by decide +kernel
theorem d12_23 : decode jdk_68_method_9_code 23 = .ok (.iload_n 1, 1) := by decide +kernel
theorem d12_24 : decode jdk_68_method_9_code 24 = .ok (.invokevirtual 104, 3) := by decide +kernel
theorem pd__I_I : parseMethodDescriptor "(I)I" = some ⟨[.int], some .int⟩ := by decide +kernel
theorem d12_27 : decode jdk_68_method_9_code 27 = .ok (.aload_n 0, 1) := by decide +kernel
theorem d12_28 : decode jdk_68_method_9_code 28 = .ok (.getfield 22, 3) := by decide +kernel
theorem d12_31 : decode jdk_68_method_9_code 31 = .ok (.ishl, 1) := by decide +kernel
theorem d12_32 : decode jdk_68_method_9_code 32 = .ok (.invokestatic 108, 3) := by decide +kernel
theorem pd___BI__B : parseMethodDescriptor "([BI)[B" = some ⟨[(.array .byte), .int], some (.array .byte)⟩ := by decide +kernel
theorem d12_35 : decode jdk_68_method_9_code 35 = .ok (.putfield 15, 3) := by decide +kernel
theorem d12_38 : decode jdk_68_method_9_code 38 = .ok (.return_, 1) := by decide +kernel
set_option maxRecDepth 65536 in
set_option maxHeartbeats 40000000 in
theorem gec (l : Launch) (Z : State) (a0 : Array Value) (hw : ∀ d ∈ tables_1, d.before a0 Z = true) (ws : List Jvm.Cond) (sb : Addr) (q1 : Int32) (t2 : Addr) (k2 : ClassId) (Y2 : Int32) (c2 : Int32) (xs : List Value) (wO : Addr) (wT : Addr) (kO : ClassId) (kT : ClassId) (iC : Int32) (vF : Value) (h0 : Heap) (n0 : Nat) (O0 : Old Z n0 h0) (lc : Ln c2 xs) (bd : Bd c2 Y2) (hbb : Cb Y2 q1) (g_sb : n0 ≤ sb) (g_t2 : n0 ≤ t2) (E_sb : Exa Z h0 sb "java/lang/StringBuilder") (F_sb_coder : Fld Z h0 sb "java/lang/AbstractStringBuilder" "coder" "B" (.int 0)) (F_sb_value : Fld Z h0 sb "java/lang/AbstractStringBuilder" "value" "[B" (.ref t2)) (F_sb_count : Fld Z h0 sb "java/lang/AbstractStringBuilder" "count" "I" (.int c2)) (E_t2 : Exa Z h0 t2 "[B") (V_t2 : Arv Z h0 t2 k2 .byte Y2 xs (.int 0)) (WW : World1 Z wO wT kO kT iC vF) :
    Con l Z mq17 jdk_68_method_9_code 3 none ws ({ frames := 3, cells := 1, slots := 200, locals := 48 } : Room) #[(.ref sb), (.int q1)] h0 (fun v h L => v = none ∧ Fr n0 L ∧ Keep h0 h [sb] ∧ Exa Z h sb "java/lang/StringBuilder" ∧ Fld Z h sb "java/lang/AbstractStringBuilder" "coder" "B" (.int 0) ∧ Fld Z h sb "java/lang/AbstractStringBuilder" "count" "I" (.int c2) ∧ ∃ (t : Addr) (kt : ClassId) (N : Int32), (t = t2 ∨ h0.size ≤ t) ∧ Fld Z h sb "java/lang/AbstractStringBuilder" "value" "[B" (.ref t) ∧ Exa Z h t "[B" ∧ Arv Z h t kt .byte N xs (.int 0) ∧ q1.toInt ≤ N.toInt ∧ Y2.toInt ≤ N.toInt ∧ N.toInt ≤ 200) := by
  refine own_body (plainFor_of_name pn_java_lang_AbstractStringBuilder) ?_
  intro p e s m below meth c s₁ hx hby hml hZ hown hnm hlk hret X0 e0
  have N0 := Fr.nil n0
  have D := @hb _ _ hby
  have K0 : Keep h0 h0 [sb] := Keep.refl _ _
  refine Go.st (T' := s₁) (f' := (mkF m 0 #[rv sb, iv q1, .unset] [])) (fun _ k => castTop (by first | (simp [entryFrame, mkF, argsToLocals, Value.category]; done) | rfl) k) ?_
  have ⟨S_iC, nz_iC, S_vF, r_vF, S_wO, E_wO, S_wT, E_wT, V_wO, V_wT⟩ := WW
  have lt_wO := E_wO.lt
  have lt_wT := E_wT.lt
  have lt_sb := E_sb.lt
  have ne_wO_sb : wO ≠ sb := O0.ne lt_wO g_sb
  have ne_wT_sb : wT ≠ sb := O0.ne lt_wT g_sb
  have lt_t2 := V_t2.lt
  have ne_wO_t2 : wO ≠ t2 := O0.ne lt_wO g_t2
  have ne_wT_t2 : wT ≠ t2 := O0.ne lt_wT g_t2
  have nt_sb_t2 : sb ≠ t2 := Exa.neArv E_sb V_t2 (ww hw 39 rfl)
  refine zan 1 X0 hx (D d12_0) rfl rfl ?_
  refine zgf 4 X0 hx hZ hown (host := "") (Or.inl (ww hw 52 rfl)) Via.refl e0 F_sb_value (D d12_1) fun T1 X1 e1 => ?_
  obtain ⟨cl2, Ar2, -, S2, Nx2, -, -⟩ := id V_t2
  refine Go.st (T' := T1) (f' := (mkF m 5 #[rv sb, iv q1, .unset] [(.int Y2)])) (fun _ k => X1.arraylength hx (by rw [e1]; exact Ar2.1) (State.isArrayOf_alike hZ.alike Ar2.2.1) (g := (mkF m 4 #[rv sb, iv q1, .unset] [(.ref t2)])) rfl rfl (D d12_4) _ (by rw [len_of S2 Nx2]; exact k)) ?_
  refine zan 6 X1 hx (D d12_5) rfl rfl ?_
  refine zgf 9 X1 hx hZ hown (host := "") (Or.inl (ww hw 54 rfl)) Via.refl e1 F_sb_coder (D d12_6) fun T3 X3 e3 => ?_
  refine Go.st (f' := (mkF m 10 #[rv sb, iv q1, .unset] [(.int (Y2 >>> ((0 : Int32) &&& 31)))])) (fun _ k => XS.ishr X3.here hx rfl (D d12_9) rfl k) ?_
  rw [own_ishr0 Y2]
  refine zsn 11 #[rv sb, iv q1, iv Y2] X3 hx (D d12_10) ?_
  refine zin 12 X3 hx (D d12_11) rfl ?_
  refine zin 13 X3 hx (D d12_12) rfl ?_
  refine zsb 14 X3 hx (D d12_13) ?_
  by_cases cd4 : (0 : Int32) < (q1 - Y2)
  · refine zfn 17 X3 hx (D d12_14) ((if0 _ _).trans (tlt cd4).2.2.2) ?_
    refine zan 18 X3 hx (D d12_17) rfl rfl ?_
    refine zan 19 X3 hx (D d12_18) rfl rfl ?_
    refine zgf 22 X3 hx hZ hown (host := "") (Or.inl (ww hw 52 rfl)) Via.refl e3 F_sb_value (D d12_19) fun T5 X5 e5 => ?_
    refine zan 23 X5 hx (D d12_22) rfl rfl ?_
    refine zin 24 X5 hx (D d12_23) rfl ?_
    obtain ⟨cq6, q6, q6'⟩ := E_sb.cell
    obtain ⟨_, _, ⟨T6, L6, kk6, nn6⟩, -, X6, ⟨Lc6, hQ6, lq6, yq6, zz6⟩, st6⟩ := X5.privateBack hx (y := mq15) hown (mvT hZ (ww hw 128 rfl)) (mvT hZ (ww hw 129 rfl)) (own_selp (mvT hZ (ww hw 131 rfl)) (Cond.privateMethod_at (mvP hZ (ww hw 130 rfl) (args := #[]))) (mvT hZ (ww hw 129 rfl)) (by decide)) (Cond.privateMethod_at (mvP hZ (ww hw 130 rfl) (args := #[]))) (mvT hZ (ww hw 132 rfl)) (by decide) (own_back (W := 2) (gnc l Z a0 hw [] sb q1 t2 k2 Y2 xs wO wT kO kT iC vF h0 n0 O0 hbb cd4 E_sb F_sb_coder F_sb_value V_t2 WW) hZ (ww hw 132 rfl) (ww hw 48 rfl) (by decide) (by decide)) (g := (mkF m 24 #[rv sb, iv q1, iv Y2] [(.int q1), (.ref sb), (.ref t2), (.ref sb)])) rfl (by rw [hml]; rfl) (Steps.refl _) (a := sb) (by rw [e5]; exact q6) q6' (argsL := [(.int q1)]) (rest := [(.ref t2), (.ref sb)]) (lenOf pd__I_I rfl) rfl (by show 2 * 0 + _ ≤ _; exact Nat.le_of_eq rfl) (D d12_24) (fun _ _ => ⟨rfl, e5, (by decide : 0 + 0 ≤ _), (by decide : 0 + 0 ≤ _)⟩)
    dsimp only [Pt.U, Pt.locs, Pt.cells, Pt.slots] at X6 lq6 yq6 zz6 st6 hQ6
    subst lq6 yq6 zz6
    obtain ⟨nc6, rfl, Nq6, kq6, ra6, rb6, rc6⟩ := hQ6
    have N6 := Fr.app N0 Nq6
    refine Go.tr (f' := (mkF m 27 #[rv sb, iv q1, iv Y2] [(.int nc6), (.ref t2), (.ref sb)])) st6 ?_
    refine zan 28 X6 hx (D d12_27) rfl rfl ?_
    refine zgf 31 X6 hx hZ hown (host := "") (Or.inl (ww hw 54 rfl)) Via.refl kq6 F_sb_coder (D d12_28) fun T7 X7 e7 => ?_
    refine Go.st (f' := (mkF m 32 #[rv sb, iv q1, iv Y2] [(.int (nc6 <<< ((0 : Int32) &&& 31))), (.ref t2), (.ref sb)])) (fun _ k => XS.ishl X7.here hx rfl (D d12_31) rfl k) ?_
    rw [own_ishl0 nc6]
    refine gS 35 1 1 200 X7 N6 hx hZ (y := mq16) hown hml (ww hw 143 rfl) (ww hw 144 rfl) (ww hw 145 rfl) (gco l Z a0 hw [] t2 k2 Y2 c2 xs nc6 wO wT kO kT iC vF h0 n0 O0 lc bd ⟨rb6, rc6⟩ E_t2 V_t2 WW) (ww hw 146 rfl) e7 [(.ref t2), (.int nc6)] [(.ref sb)] (lenOf pd___BI__B rfl) (D d12_32) ?_
    rintro T8 L8 M8 _ X8 uu8 ⟨b8, kb8, rfl, Nq8, zq8, kq8, eq8, vq8⟩
    have N8 := uu8 Nq8
    have ne_sb_b8 : sb ≠ b8 := Nat.ne_of_lt (Nat.lt_of_lt_of_le lt_sb zq8)
    have ne_t2_b8 : t2 ≠ b8 := Nat.ne_of_lt (Nat.lt_of_lt_of_le lt_t2 zq8)
    have ne_wO_b8 : wO ≠ b8 := Nat.ne_of_lt (Nat.lt_of_lt_of_le lt_wO (Nat.le_trans O0.2.1 zq8))
    have ne_wT_b8 : wT ≠ b8 := Nat.ne_of_lt (Nat.lt_of_lt_of_le lt_wT (Nat.le_trans O0.2.1 zq8))
    have g_b8 : n0 ≤ b8 := Nat.le_trans (O0.1 ▸ O0.2.1) zq8
    have sz_b8 : h0.size ≤ b8 := Nat.le_trans K0.1 zq8
    have O8 : Old Z n0 T8.heap := O0.keep kq8 all0
    have K8 : Keep h0 T8.heap [sb] := K0.trans kq8 all0
    have lt_b8 := vq8.lt
    refine zsk [(.ref b8), (.ref sb)] ?_
    have ft9 := (E_sb.keep kq8)
    have ft10 := (F_sb_value.keep kq8 nin0)
    obtain ⟨T11, h11, X11, e11, W11, st11⟩ := putF X8 hx hZ hown (host := "") (Or.inl (ww hw 52 rfl)) Via.refl rfl ft10 ft9 (Or.inl (ww hw 53 rfl)) (ww hw 39 rfl) (ty := (.array .byte)) (by decide) rfl rfl (g := (mkF m 35 #[rv sb, iv q1, iv Y2] [(.ref b8), (.ref sb)])) rfl rfl (D d12_35)
    have N11 := Fr.snoc X11 N8 g_sb
    have O11 : Old Z n0 h11 := O8.wr W11 g_sb
    have K11 : Keep h0 h11 [sb] := K8.wr W11 (Or.inl (List.mem_of_getElem? (i := 0) rfl))
    have Fw11 := ft10.same W11
    refine zst 38 #[rv sb, iv q1, iv Y2] [] st11 ?_
    refine Go.ret0 X11 hlk hx hret (D d12_38) e11 ?_ (by decide) (by decide)
    have ft12 := (ft9.wr W11)
    have ft13 := ((F_sb_coder.keep kq8 nin0).other W11 (Or.inr (slot_ne (Or.inl (ww hw 55 rfl)) (Or.inl (ww hw 53 rfl)) (by decide) (t := .byte) (t' := (.array .byte)) (by decide) (by decide))))
    have ft14 := ((F_sb_count.keep kq8 nin0).other W11 (Or.inr (slot_ne (Or.inl (ww hw 79 rfl)) (Or.inl (ww hw 53 rfl)) (by decide) (t := .int) (t' := (.array .byte)) (by decide) (by decide))))
    have ft15 := (eq8.wr W11)
    have ft16 := (vq8.other W11 (Ne.symm ne_sb_b8))
    exact ⟨rfl, N11, K11, ft12, ft13, ft14, b8, kb8, nc6, Or.inr sz_b8, Fw11, ft15, ft16, ra6, Int.le_of_lt (And.intro rb6 rc6).1, (And.intro rb6 rc6).2⟩
  · refine zfy 38 X3 hx (D d12_14) ((if0 _ _).trans (flt cd4).2.2.2) ?_
    refine Go.ret0 X3 hlk hx hret (D d12_38) e3 ?_ (by decide) (by decide)
    exact ⟨rfl, N0, K0, E_sb, F_sb_coder, F_sb_count, t2, k2, Y2, Or.inl rfl, F_sb_value, E_t2, V_t2, own_ng hbb cd4, Int.le_refl _, bd.2.2⟩
theorem d14_0 : decode jdk_68_method_71_code 0 = .ok (.getstatic 18, 3) := by decide +kernel
theorem d14_3 : decode jdk_68_method_71_code 3 = .ok (.ifCond .eq 18, 3) := by decide +kernel
theorem d14_6 : decode jdk_68_method_71_code 6 = .ok (.aload_n 0, 1) := by decide +kernel
theorem d14_7 : decode jdk_68_method_71_code 7 = .ok (.getfield 22, 3) := by decide +kernel
theorem d14_10 : decode jdk_68_method_71_code 10 = .ok (.aload_n 1, 1) := by decide +kernel
theorem d14_11 : decode jdk_68_method_71_code 11 = .ok (.invokevirtual 40, 3) := by decide +kernel
theorem d14_14 : decode jdk_68_method_71_code 14 = .ok (.if_icmp .eq 7, 3) := by decide +kernel
theorem d14_21 : decode jdk_68_method_71_code 21 = .ok (.return_, 1) := by decide +kernel
set_option maxRecDepth 65536 in
set_option maxHeartbeats 40000000 in
theorem gif (l : Launch) (Z : State) (a0 : Array Value) (hw : ∀ d ∈ tables_1, d.before a0 Z = true) (ws : List Jvm.Cond) (sb : Addr) (s1 : Addr) (wO : Addr) (wT : Addr) (kO : ClassId) (kT : ClassId) (iC : Int32) (vF : Value) (h0 : Heap) (n0 : Nat) (O0 : Old Z n0 h0) (E_sb : Exa Z h0 sb "java/lang/StringBuilder") (F_sb_coder : Fld Z h0 sb "java/lang/AbstractStringBuilder" "coder" "B" (.int 0)) (E_s1 : Exa Z h0 s1 "java/lang/String") (F_s1_coder : Fld Z h0 s1 "java/lang/String" "coder" "B" (.int 0)) (WW : World1 Z wO wT kO kT iC vF) :
    Con l Z mq18 jdk_68_method_71_code 2 none ws ({ frames := 1, cells := 0, slots := 0, locals := 13 } : Room) #[(.ref sb), (.ref s1)] h0 (fun v h L => v = none ∧ Fr n0 L ∧ h = h0) := by
  refine own_body (plainFor_of_name pn_java_lang_AbstractStringBuilder) ?_
  intro p e s m below meth c s₁ hx hby hml hZ hown hnm hlk hret X0 e0
  have N0 := Fr.nil n0
  have D := @hb _ _ hby
  refine Go.st (T' := s₁) (f' := (mkF m 0 #[rv sb, rv s1] [])) (fun _ k => castTop (by first | (simp [entryFrame, mkF, argsToLocals, Value.category]; done) | rfl) k) ?_
  have ⟨S_iC, nz_iC, S_vF, r_vF, S_wO, E_wO, S_wT, E_wT, V_wO, V_wT⟩ := WW
  have lt_wO := E_wO.lt
  have lt_wT := E_wT.lt
  have lt_sb := E_sb.lt
  have lt_s1 := E_s1.lt
  obtain ⟨T1, X1, e1, st1⟩ := getS2 X0 hx hZ hown (host := "") (Or.inl (ww hw 51 rfl)) Via.refl e0 (S_iC.ext O0.2) (g := (mkF m 0 #[rv sb, rv s1] [])) rfl (D d14_0)
  refine zst 3 #[rv sb, rv s1] [(.int iC)] st1 ?_
  refine zfn 6 X1 hx (D d14_3) ((if0 _ _).trans (feq nz_iC).1) ?_
  refine zan 7 X1 hx (D d14_6) rfl rfl ?_
  refine zgf 10 X1 hx hZ hown (host := "") (Or.inl (ww hw 54 rfl)) Via.refl e1 F_sb_coder (D d14_7) fun T2 X2 e2 => ?_
  refine zan 11 X2 hx (D d14_10) rfl rfl ?_
  refine gV 14 1 0 0 X2 N0 hx hZ (y := mq5) hown hml (ww hw 95 rfl) (ww hw 73 rfl) (ww hw 75 rfl) (ww hw 74 rfl) (cod l Z a0 hw [] s1 wO wT kO kT iC vF h0 n0 O0 E_s1 F_s1_coder WW) (ww hw 76 rfl) (ww hw 3 rfl) e2 E_s1 [] [(.int 0)] (lenOf pd___B rfl) (D d14_11) ?_
  rintro T3 L3 M3 _ X3 uu3 ⟨rfl, Nq3, kq3⟩
  have N3 := uu3 Nq3
  refine zsk [(.int 0), (.int 0)] ?_
  refine zcy 21 X3 hx (D d14_14) (by decide) ?_
  refine Go.ret0 X3 hlk hx hret (D d14_21) kq3 ?_ (by decide) (by decide)
  exact ⟨rfl, N3, rfl⟩
theorem d19_0 : decode jdk_68_method_68_code 0 = .ok (.getstatic 18, 3) := by decide +kernel
theorem d19_3 : decode jdk_68_method_68_code 3 = .ok (.ifCond .eq 14, 3) := by decide +kernel
theorem d19_6 : decode jdk_68_method_68_code 6 = .ok (.aload_n 0, 1) := by decide +kernel
theorem d19_7 : decode jdk_68_method_68_code 7 = .ok (.getfield 22, 3) := by decide +kernel
theorem d19_10 : decode jdk_68_method_68_code 10 = .ok (.ifCond .ne 7, 3) := by decide +kernel
theorem d19_13 : decode jdk_68_method_68_code 13 = .ok (.iconst 1, 1) := by decide +kernel
theorem d19_14 : decode jdk_68_method_68_code 14 = .ok (.goto 4, 3) := by decide +kernel
theorem d19_18 : decode jdk_68_method_68_code 18 = .ok (.ireturn, 1) := by decide +kernel
set_option maxRecDepth 65536 in
set_option maxHeartbeats 40000000 in
theorem gla (l : Launch) (Z : State) (a0 : Array Value) (hw : ∀ d ∈ tables_1, d.before a0 Z = true) (ws : List Jvm.Cond) (sb : Addr) (wO : Addr) (wT : Addr) (kO : ClassId) (kT : ClassId) (iC : Int32) (vF : Value) (h0 : Heap) (n0 : Nat) (O0 : Old Z n0 h0) (E_sb : Exa Z h0 sb "java/lang/StringBuilder") (F_sb_coder : Fld Z h0 sb "java/lang/AbstractStringBuilder" "coder" "B" (.int 0)) (WW : World1 Z wO wT kO kT iC vF) :
    Con l Z mq19 jdk_68_method_68_code 1 (some .boolean) ws ({ frames := 0, cells := 0, slots := 0, locals := 0 } : Room) #[(.ref sb)] h0 (fun v h L => v = some (.int 1) ∧ Fr n0 L ∧ h = h0) := by
  refine own_body (plainFor_of_name pn_java_lang_AbstractStringBuilder) ?_
  intro p e s m below meth c s₁ hx hby hml hZ hown hnm hlk hret X0 e0
  have N0 := Fr.nil n0
  have D := @hb _ _ hby
  refine Go.st (T' := s₁) (f' := (mkF m 0 #[rv sb] [])) (fun _ k => castTop (by first | (simp [entryFrame, mkF, argsToLocals, Value.category]; done) | rfl) k) ?_
  have ⟨S_iC, nz_iC, S_vF, r_vF, S_wO, E_wO, S_wT, E_wT, V_wO, V_wT⟩ := WW
  have lt_wO := E_wO.lt
  have lt_wT := E_wT.lt
  have lt_sb := E_sb.lt
  obtain ⟨T1, X1, e1, st1⟩ := getS2 X0 hx hZ hown (host := "") (Or.inl (ww hw 51 rfl)) Via.refl e0 (S_iC.ext O0.2) (g := (mkF m 0 #[rv sb] [])) rfl (D d19_0)
  refine zst 3 #[rv sb] [(.int iC)] st1 ?_
  refine zfn 6 X1 hx (D d19_3) ((if0 _ _).trans (feq nz_iC).1) ?_
  refine zan 7 X1 hx (D d19_6) rfl rfl ?_
  refine zgf 10 X1 hx hZ hown (host := "") (Or.inl (ww hw 54 rfl)) Via.refl e1 F_sb_coder (D d19_7) fun T2 X2 e2 => ?_
  refine zfn 13 X2 hx (D d19_10) (by decide) ?_
  refine zic 14 1 X2 hx (D d19_13) ?_
  refine zgo 18 X2 hx (D d19_14) ?_
  refine Go.retB X2 hlk hx (t := .boolean) hret (by simp) (D d19_18) e2 ?_ (by decide) (by decide)
  exact ⟨rfl, N0, rfl⟩
theorem d15_0 : decode jdk_42_method_147_code 0 = .ok (.aload_n 0, 1) := by decide +kernel
theorem d15_1 : decode jdk_42_method_147_code 1 = .ok (.invokevirtual 335, 3) := by decide +kernel
theorem d15_4 : decode jdk_42_method_147_code 4 = .ok (.iload_n 3, 1) := by decide +kernel
theorem d15_5 : decode jdk_42_method_147_code 5 = .ok (.if_icmp .ne 23, 3) := by decide +kernel
theorem d15_8 : decode jdk_42_method_147_code 8 = .ok (.aload_n 0, 1) := by decide +kernel
theorem d15_9 : decode jdk_42_method_147_code 9 = .ok (.getfield 9, 3) := by decide +kernel
theorem d15_12 : decode jdk_42_method_147_code 12 = .ok (.iconst 0, 1) := by decide +kernel
theorem d15_13 : decode jdk_42_method_147_code 13 = .ok (.aload_n 1, 1) := by decide +kernel
theorem d15_14 : decode jdk_42_method_147_code 14 = .ok (.iload_n 2, 1) := by decide +kernel
theorem d15_15 : decode jdk_42_method_147_code 15 = .ok (.iload_n 3, 1) := by decide +kernel
theorem d15_16 : decode jdk_42_method_147_code 16 = .ok (.ishl, 1) := by decide +kernel
theorem d15_17 : decode jdk_42_method_147_code 17 = .ok (.aload_n 0, 1) := by decide +kernel
theorem d15_18 : decode jdk_42_method_147_code 18 = .ok (.getfield 9, 3) := by decide +kernel
theorem d15_21 : decode jdk_42_method_147_code 21 = .ok (.arraylength, 1) := by decide +kernel
theorem d15_22 : decode jdk_42_method_147_code 22 = .ok (.invokestatic 212, 3) := by decide +kernel
theorem d15_25 : decode jdk_42_method_147_code 25 = .ok (.goto 18, 3) := by decide +kernel
theorem d15_43 : decode jdk_42_method_147_code 43 = .ok (.return_, 1) := by decide +kernel
set_option maxRecDepth 65536 in
set_option maxHeartbeats 40000000 in
theorem ggb (l : Launch) (Z : State) (a0 : Array Value) (hw : ∀ d ∈ tables_1, d.before a0 Z = true) (ws : List Jvm.Cond) (s1 : Addr) (t1 : Addr) (k1 : ClassId) (n : Int32) (fs : List Value) (t2 : Addr) (k2 : ClassId) (Y2 : Int32) (c2 : Int32) (xs : List Value) (wO : Addr) (wT : Addr) (kO : ClassId) (kT : ClassId) (iC : Int32) (vF : Value) (h0 : Heap) (n0 : Nat) (O0 : Old Z n0 h0) (lc : Ln c2 xs) (ln : Ln n fs) (fit : c2.toInt + n.toInt ≤ Y2.toInt) (g_t2 : n0 ≤ t2) (E_s1 : Exa Z h0 s1 "java/lang/String") (F_s1_coder : Fld Z h0 s1 "java/lang/String" "coder" "B" (.int 0)) (F_s1_value : Fld Z h0 s1 "java/lang/String" "value" "[B" (.ref t1)) (V_t1 : Arv Z h0 t1 k1 .byte n fs (.int 0)) (E_t2 : Exa Z h0 t2 "[B") (V_t2 : Arv Z h0 t2 k2 .byte Y2 xs (.int 0)) (WW : World1 Z wO wT kO kT iC vF) :
    Con l Z mq20 jdk_42_method_147_code 4 none ws ({ frames := 1, cells := 0, slots := 0, locals := 20 } : Room) #[(.ref s1), (.ref t2), (.int c2), (.int 0)] h0 (fun v h L => v = none ∧ Fr n0 L ∧ Keep h0 h [t2] ∧ Arv Z h t2 k2 .byte Y2 (xs ++ fs) (.int 0)) := by
  refine own_body (plainFor_of_name pn_java_lang_String) ?_
  intro p e s m below meth c s₁ hx hby hml hZ hown hnm hlk hret X0 e0
  have N0 := Fr.nil n0
  have D := @hb _ _ hby
  have K0 : Keep h0 h0 [t2] := Keep.refl _ _
  refine Go.st (T' := s₁) (f' := (mkF m 0 #[rv s1, rv t2, iv c2, iv 0] [])) (fun _ k => castTop (by first | (simp [entryFrame, mkF, argsToLocals, Value.category]; done) | rfl) k) ?_
  have ⟨S_iC, nz_iC, S_vF, r_vF, S_wO, E_wO, S_wT, E_wT, V_wO, V_wT⟩ := WW
  have lt_wO := E_wO.lt
  have lt_wT := E_wT.lt
  have lt_s1 := E_s1.lt
  have lt_t1 := V_t1.lt
  have lt_t2 := V_t2.lt
  have ne_wO_t2 : wO ≠ t2 := O0.ne lt_wO g_t2
  have ne_wT_t2 : wT ≠ t2 := O0.ne lt_wT g_t2
  refine zan 1 X0 hx (D d15_0) rfl rfl ?_
  refine gV 4 0 0 0 X0 N0 hx hZ (y := mq5) hown hml (ww hw 72 rfl) (ww hw 73 rfl) (ww hw 75 rfl) (ww hw 74 rfl) (cod l Z a0 hw [] s1 wO wT kO kT iC vF h0 n0 O0 E_s1 F_s1_coder WW) (ww hw 76 rfl) (ww hw 3 rfl) e0 E_s1 [] [] (lenOf pd___B rfl) (D d15_1) ?_
  rintro T1 L1 M1 _ X1 uu1 ⟨rfl, Nq1, kq1⟩
  have N1 := uu1 Nq1
  refine zsk [(.int 0)] ?_
  refine zin 5 X1 hx (D d15_4) rfl ?_
  refine zcn 8 X1 hx (D d15_5) (by decide) ?_
  refine zan 9 X1 hx (D d15_8) rfl rfl ?_
  refine zgf 12 X1 hx hZ hown (host := "") (Or.inl (ww hw 20 rfl)) Via.refl kq1 F_s1_value (D d15_9) fun T2 X2 e2 => ?_
  refine zic 13 0 X2 hx (D d15_12) ?_
  refine zan 14 X2 hx (D d15_13) rfl rfl ?_
  refine zin 15 X2 hx (D d15_14) rfl ?_
  refine zin 16 X2 hx (D d15_15) rfl ?_
  refine Go.st (f' := (mkF m 17 #[rv s1, rv t2, iv c2, iv 0] [(.int (c2 <<< ((0 : Int32) &&& 31))), (.ref t2), (.int 0), (.ref t1)])) (fun _ k => XS.ishl X2.here hx rfl (D d15_16) rfl k) ?_
  rw [own_ishl0 c2]
  refine zan 18 X2 hx (D d15_17) rfl rfl ?_
  refine zgf 21 X2 hx hZ hown (host := "") (Or.inl (ww hw 20 rfl)) Via.refl e2 F_s1_value (D d15_18) fun T3 X3 e3 => ?_
  obtain ⟨cl4, Ar4, -, S4, Nx4, -, -⟩ := id V_t1
  refine Go.st (T' := T3) (f' := (mkF m 22 #[rv s1, rv t2, iv c2, iv 0] [(.int n), (.int c2), (.ref t2), (.int 0), (.ref t1)])) (fun _ k => X3.arraylength hx (by rw [e3]; exact Ar4.1) (State.isArrayOf_alike hZ.alike Ar4.2.1) (g := (mkF m 21 #[rv s1, rv t2, iv c2, iv 0] [(.ref t1), (.int c2), (.ref t2), (.int 0), (.ref t1)])) rfl rfl (D d15_21) _ (by rw [len_of S4 Nx4]; exact k)) ?_
  have vp6 := Arv.pad V_t2 (pad_rep xs (.int (0 : Int32)) (fs).length)
  obtain ⟨T7, h7, L7, X7, e7, N7, kq7, vq7, st7⟩ := cpA X3 hx hZ hown (ww hw 101 rfl) (ww hw 104 rfl) (ww hw 102 rfl) (ww hw 103 rfl) e3 V_t1 vp6 (us := fs) (Or.inl ⟨rfl, rfl⟩) (by decide) lc.nn ln.nn (by rw [ln.nat]; exact Nat.le_of_eq (by show 0 + _ = _; omega)) (own_fit lc ln fit) (own_mapr ln.nat) (own_padl lc ln) N1 g_t2 (g := (mkF m 22 #[rv s1, rv t2, iv c2, iv 0] [(.int n), (.int c2), (.ref t2), (.int 0), (.ref t1)])) rfl (by rw [hml]; rfl) rfl (D d15_22) (by decide) (W := 0) (by show 2 * 0 + _ ≤ _; exact Nat.le_of_eq rfl) (by decide)
  rw [own_join lc.nat ln.nat] at vq7
  have O7 : Old Z n0 h7 := O0.keep kq7 (allS g_t2 all0)
  have K7 : Keep h0 h7 [t2] := K0.trans kq7 (allS (Or.inl (List.mem_of_getElem? (i := 0) rfl)) all0)
  refine zst 25 #[rv s1, rv t2, iv c2, iv 0] [] st7 ?_
  refine zgo 43 X7 hx (D d15_25) ?_
  refine Go.ret0 X7 hlk hx hret (D d15_43) e7 ?_ (by decide) (by decide)
  exact ⟨rfl, N7, K7, vq7⟩
theorem d13_0 : decode jdk_68_method_73_code 0 = .ok (.aload_n 0, 1) := by decide +kernel
theorem d13_1 : decode jdk_68_method_73_code 1 = .ok (.aload_n 2, 1) := by decide +kernel
theorem d13_2 : decode jdk_68_method_73_code 2 = .ok (.invokevirtual 397, 3) := by decide +kernel
theorem pd__Ljava_lang_String__V : parseMethodDescriptor "(Ljava/lang/String;)V" = some ⟨[(.object "java/lang/String")], none⟩ := by decide +kernel
theorem d13_5 : decode jdk_68_method_73_code 5 = .ok (.aload_n 2, 1) := by decide +kernel
theorem d13_6 : decode jdk_68_method_73_code 6 = .ok (.aload_n 0, 1) := by decide +kernel
theorem d13_7 : decode jdk_68_method_73_code 7 = .ok (.getfield 15, 3) := by decide +kernel
theorem d13_10 : decode jdk_68_method_73_code 10 = .ok (.iload_n 1, 1) := by decide +kernel
theorem d13_11 : decode jdk_68_method_73_code 11 = .ok (.aload_n 0, 1) := by decide +kernel
theorem d13_12 : decode jdk_68_method_73_code 12 = .ok (.getfield 22, 3) := by decide +kernel
theorem d13_15 : decode jdk_68_method_73_code 15 = .ok (.invokevirtual 399, 3) := by decide +kernel
theorem pd___BIB_V : parseMethodDescriptor "([BIB)V" = some ⟨[(.array .byte), .int, .byte], none⟩ := by decide +kernel
theorem d13_18 : decode jdk_68_method_73_code 18 = .ok (.return_, 1) := by decide +kernel
set_option maxRecDepth 65536 in
set_option maxHeartbeats 40000000 in
theorem gps (l : Launch) (Z : State) (a0 : Array Value) (hw : ∀ d ∈ tables_1, d.before a0 Z = true) (ws : List Jvm.Cond) (sb : Addr) (s1 : Addr) (t1 : Addr) (k1 : ClassId) (n : Int32) (fs : List Value) (t2 : Addr) (k2 : ClassId) (Y2 : Int32) (c2 : Int32) (xs : List Value) (wO : Addr) (wT : Addr) (kO : ClassId) (kT : ClassId) (iC : Int32) (vF : Value) (h0 : Heap) (n0 : Nat) (O0 : Old Z n0 h0) (lc : Ln c2 xs) (ln : Ln n fs) (fit : c2.toInt + n.toInt ≤ Y2.toInt) (g_t2 : n0 ≤ t2) (E_sb : Exa Z h0 sb "java/lang/StringBuilder") (F_sb_coder : Fld Z h0 sb "java/lang/AbstractStringBuilder" "coder" "B" (.int 0)) (F_sb_value : Fld Z h0 sb "java/lang/AbstractStringBuilder" "value" "[B" (.ref t2)) (E_s1 : Exa Z h0 s1 "java/lang/String") (F_s1_coder : Fld Z h0 s1 "java/lang/String" "coder" "B" (.int 0)) (F_s1_value : Fld Z h0 s1 "java/lang/String" "value" "[B" (.ref t1)) (V_t1 : Arv Z h0 t1 k1 .byte n fs (.int 0)) (E_t2 : Exa Z h0 t2 "[B") (V_t2 : Arv Z h0 t2 k2 .byte Y2 xs (.int 0)) (WW : World1 Z wO wT kO kT iC vF) :
    Con l Z mq21 jdk_68_method_73_code 3 none ws ({ frames := 2, cells := 0, slots := 0, locals := 35 } : Room) #[(.ref sb), (.int c2), (.ref s1)] h0 (fun v h L => v = none ∧ Fr n0 L ∧ Keep h0 h [t2] ∧ Arv Z h t2 k2 .byte Y2 (xs ++ fs) (.int 0)) := by
  refine own_body (plainFor_of_name pn_java_lang_AbstractStringBuilder) ?_
  intro p e s m below meth c s₁ hx hby hml hZ hown hnm hlk hret X0 e0
  have N0 := Fr.nil n0
  have D := @hb _ _ hby
  have K0 : Keep h0 h0 [t2] := Keep.refl _ _
  refine Go.st (T' := s₁) (f' := (mkF m 0 #[rv sb, iv c2, rv s1] [])) (fun _ k => castTop (by first | (simp [entryFrame, mkF, argsToLocals, Value.category]; done) | rfl) k) ?_
  have ⟨S_iC, nz_iC, S_vF, r_vF, S_wO, E_wO, S_wT, E_wT, V_wO, V_wT⟩ := WW
  have lt_wO := E_wO.lt
  have lt_wT := E_wT.lt
  have lt_sb := E_sb.lt
  have lt_s1 := E_s1.lt
  have lt_t1 := V_t1.lt
  have lt_t2 := V_t2.lt
  have ne_wO_t2 : wO ≠ t2 := O0.ne lt_wO g_t2
  have ne_wT_t2 : wT ≠ t2 := O0.ne lt_wT g_t2
  have nt_sb_t2 : sb ≠ t2 := Exa.neArv E_sb V_t2 (ww hw 39 rfl)
  have nt_s1_t2 : s1 ≠ t2 := Exa.neArv E_s1 V_t2 (ww hw 2 rfl)
  refine zan 1 X0 hx (D d13_0) rfl rfl ?_
  refine zan 2 X0 hx (D d13_1) rfl rfl ?_
  obtain ⟨cq1, q1, q1'⟩ := E_sb.cell
  obtain ⟨_, _, ⟨T1, L1, kk1, nn1⟩, -, X1, ⟨Lc1, hQ1, lq1, yq1, zz1⟩, st1⟩ := X0.privateBack hx (y := mq18) hown (mvT hZ (ww hw 90 rfl)) (mvT hZ (ww hw 91 rfl)) (own_selp (mvT hZ (ww hw 93 rfl)) (Cond.privateMethod_at (mvP hZ (ww hw 92 rfl) (args := #[]))) (mvT hZ (ww hw 91 rfl)) (by decide)) (Cond.privateMethod_at (mvP hZ (ww hw 92 rfl) (args := #[]))) (mvT hZ (ww hw 94 rfl)) (by decide) (own_back (W := 0) (gif l Z a0 hw [] sb s1 wO wT kO kT iC vF h0 n0 O0 E_sb F_sb_coder E_s1 F_s1_coder WW) hZ (ww hw 94 rfl) (ww hw 48 rfl) (by decide) (by decide)) (g := (mkF m 2 #[rv sb, iv c2, rv s1] [(.ref s1), (.ref sb)])) rfl (by rw [hml]; rfl) (Steps.refl _) (a := sb) (by rw [e0]; exact q1) q1' (argsL := [(.ref s1)]) (rest := []) (lenOf pd__Ljava_lang_String__V rfl) rfl (by show 2 * 0 + _ ≤ _; exact Nat.le_of_eq rfl) (D d13_2) (fun _ _ => ⟨rfl, e0, (by decide : 0 + 0 ≤ _), (by decide : 0 + 0 ≤ _)⟩)
  dsimp only [Pt.U, Pt.locs, Pt.cells, Pt.slots] at X1 lq1 yq1 zz1 st1 hQ1
  subst lq1 yq1 zz1
  obtain ⟨rfl, Nq1, kq1⟩ := hQ1
  have N1 := Fr.app N0 Nq1
  refine Go.tr (f' := (mkF m 5 #[rv sb, iv c2, rv s1] [])) st1 ?_
  refine zan 6 X1 hx (D d13_5) rfl rfl ?_
  refine zan 7 X1 hx (D d13_6) rfl rfl ?_
  refine zgf 10 X1 hx hZ hown (host := "") (Or.inl (ww hw 52 rfl)) Via.refl kq1 F_sb_value (D d13_7) fun T2 X2 e2 => ?_
  refine zin 11 X2 hx (D d13_10) rfl ?_
  refine zan 12 X2 hx (D d13_11) rfl rfl ?_
  refine zgf 15 X2 hx hZ hown (host := "") (Or.inl (ww hw 54 rfl)) Via.refl e2 F_sb_coder (D d13_12) fun T3 X3 e3 => ?_
  refine gV 18 0 0 0 X3 N1 hx hZ (y := mq20) hown hml (ww hw 96 rfl) (ww hw 97 rfl) (ww hw 99 rfl) (ww hw 98 rfl) (ggb l Z a0 hw [] s1 t1 k1 n fs t2 k2 Y2 c2 xs wO wT kO kT iC vF h0 n0 O0 lc ln fit g_t2 E_s1 F_s1_coder F_s1_value V_t1 E_t2 V_t2 WW) (ww hw 100 rfl) (ww hw 3 rfl) e3 E_s1 [(.ref t2), (.int c2), (.int 0)] [] (lenOf pd___BIB_V rfl) (D d13_15) ?_
  rintro T4 L4 M4 _ X4 uu4 ⟨rfl, Nq4, kq4, vq4⟩
  have N4 := uu4 Nq4
  have O4 : Old Z n0 T4.heap := O0.keep kq4 (allS g_t2 all0)
  have K4 : Keep h0 T4.heap [t2] := K0.trans kq4 (allS (Or.inl (List.mem_of_getElem? (i := 0) rfl)) all0)
  refine zsk [] ?_
  refine Go.ret0 X4 hlk hx hret (D d13_18) rfl ?_ (by decide) (by decide)
  exact ⟨rfl, N4, K4, vq4⟩
theorem own_ft {c n N : Int32} {xs fs : List Value} (a : Ln c xs) (b : Ln n fs) (h : xs.length + fs.length ≤ 100) (d : Bd c N) {M : Int32} (r : (c + n).toInt ≤ M.toInt) : c.toInt + n.toInt ≤ M.toInt := by
  have := (own_cb a b h d).2; omega
theorem own_bn {c n N : Int32} {xs fs : List Value} (a : Ln c xs) (b : Ln n fs) (h : xs.length + fs.length ≤ 100) {M : Int32} (r : (c + n).toInt ≤ M.toInt) (t : M.toInt ≤ 200) : Bd (c + n) M := ⟨(a.app b (by omega)).1, r, t⟩
theorem own_la {c n : Int32} {xs fs : List Value} (a : Ln c xs) (b : Ln n fs) (h : xs.length + fs.length ≤ 100) : Ln (c + n) (xs ++ fs) := a.app b (by omega)
theorem d9_0 : decode jdk_68_method_22_code 0 = .ok (.aload_n 1, 1) := by decide +kernel
theorem d9_1 : decode jdk_68_method_22_code 1 = .ok (.ifnonnull 8, 3) := by decide +kernel
theorem d9_9 : decode jdk_68_method_22_code 9 = .ok (.aload_n 1, 1) := by decide +kernel
theorem d9_10 : decode jdk_68_method_22_code 10 = .ok (.invokevirtual 32, 3) := by decide +kernel
theorem pd___I : parseMethodDescriptor "()I" = some ⟨[], some .int⟩ := by decide +kernel
theorem d9_13 : decode jdk_68_method_22_code 13 = .ok (.istore_n 2, 1) := by decide +kernel
theorem d9_14 : decode jdk_68_method_22_code 14 = .ok (.aload_n 0, 1) := by decide +kernel
theorem d9_15 : decode jdk_68_method_22_code 15 = .ok (.aload_n 0, 1) := by decide +kernel
theorem d9_16 : decode jdk_68_method_22_code 16 = .ok (.getfield 79, 3) := by decide +kernel
theorem d9_19 : decode jdk_68_method_22_code 19 = .ok (.iload_n 2, 1) := by decide +kernel
theorem d9_20 : decode jdk_68_method_22_code 20 = .ok (.iadd, 1) := by decide +kernel
theorem d9_21 : decode jdk_68_method_22_code 21 = .ok (.invokevirtual 100, 3) := by decide +kernel
theorem pd__I_V : parseMethodDescriptor "(I)V" = some ⟨[.int], none⟩ := by decide +kernel
theorem d9_24 : decode jdk_68_method_22_code 24 = .ok (.aload_n 0, 1) := by decide +kernel
theorem d9_25 : decode jdk_68_method_22_code 25 = .ok (.aload_n 0, 1) := by decide +kernel
theorem d9_26 : decode jdk_68_method_22_code 26 = .ok (.getfield 79, 3) := by decide +kernel
theorem d9_29 : decode jdk_68_method_22_code 29 = .ok (.aload_n 1, 1) := by decide +kernel
theorem d9_30 : decode jdk_68_method_22_code 30 = .ok (.invokevirtual 208, 3) := by decide +kernel
theorem pd__ILjava_lang_String__V : parseMethodDescriptor "(ILjava/lang/String;)V" = some ⟨[.int, (.object "java/lang/String")], none⟩ := by decide +kernel
theorem d9_33 : decode jdk_68_method_22_code 33 = .ok (.aload_n 0, 1) := by decide +kernel
theorem d9_34 : decode jdk_68_method_22_code 34 = .ok (.dup, 1) := by decide +kernel
theorem d9_35 : decode jdk_68_method_22_code 35 = .ok (.getfield 79, 3) := by decide +kernel
theorem d9_38 : decode jdk_68_method_22_code 38 = .ok (.iload_n 2, 1) := by decide +kernel
theorem d9_39 : decode jdk_68_method_22_code 39 = .ok (.iadd, 1) := by decide +kernel
theorem d9_40 : decode jdk_68_method_22_code 40 = .ok (.putfield 79, 3) := by decide +kernel
theorem d9_43 : decode jdk_68_method_22_code 43 = .ok (.aload_n 0, 1) := by decide +kernel
theorem d9_44 : decode jdk_68_method_22_code 44 = .ok (.areturn, 1) := by decide +kernel
set_option maxRecDepth 65536 in
set_option maxHeartbeats 40000000 in
theorem gas (l : Launch) (Z : State) (a0 : Array Value) (hw : ∀ d ∈ tables_1, d.before a0 Z = true) (ws : List Jvm.Cond) (sb : Addr) (s1 : Addr) (t1 : Addr) (k1 : ClassId) (n : Int32) (fs : List Value) (t2 : Addr) (k2 : ClassId) (Y2 : Int32) (c2 : Int32) (xs : List Value) (wO : Addr) (wT : Addr) (kO : ClassId) (kT : ClassId) (iC : Int32) (vF : Value) (h0 : Heap) (n0 : Nat) (O0 : Old Z n0 h0) (lc : Ln c2 xs) (bd : Bd c2 Y2) (ln : Ln n fs) (cap : xs.length + fs.length ≤ 100) (g_sb : n0 ≤ sb) (g_t2 : n0 ≤ t2) (E_sb : Exa Z h0 sb "java/lang/StringBuilder") (F_sb_coder : Fld Z h0 sb "java/lang/AbstractStringBuilder" "coder" "B" (.int 0)) (F_sb_value : Fld Z h0 sb "java/lang/AbstractStringBuilder" "value" "[B" (.ref t2)) (F_sb_count : Fld Z h0 sb "java/lang/AbstractStringBuilder" "count" "I" (.int c2)) (E_s1 : Exa Z h0 s1 "java/lang/String") (F_s1_coder : Fld Z h0 s1 "java/lang/String" "coder" "B" (.int 0)) (F_s1_value : Fld Z h0 s1 "java/lang/String" "value" "[B" (.ref t1)) (V_t1 : Arv Z h0 t1 k1 .byte n fs (.int 0)) (E_t2 : Exa Z h0 t2 "[B") (V_t2 : Arv Z h0 t2 k2 .byte Y2 xs (.int 0)) (WW : World1 Z wO wT kO kT iC vF) :
    Con l Z mq22 jdk_68_method_22_code 3 (some (.object "java/lang/AbstractStringBuilder")) ws ({ frames := 4, cells := 1, slots := 200, locals := 62 } : Room) #[(.ref sb), (.ref s1)] h0 (fun v h L => v = some (.ref sb) ∧ Fr n0 L ∧ Keep h0 h [sb, t2] ∧ Exa Z h sb "java/lang/StringBuilder" ∧ Fld Z h sb "java/lang/AbstractStringBuilder" "coder" "B" (.int 0) ∧ Fld Z h sb "java/lang/AbstractStringBuilder" "count" "I" (.int (c2 + n)) ∧ ∃ (t : Addr) (kt : ClassId) (N : Int32), (t = t2 ∨ h0.size ≤ t) ∧ Fld Z h sb "java/lang/AbstractStringBuilder" "value" "[B" (.ref t) ∧ Exa Z h t "[B" ∧ Arv Z h t kt .byte N (xs ++ fs) (.int 0) ∧ Bd (c2 + n) N) := by
  refine own_body (plainFor_of_name pn_java_lang_AbstractStringBuilder) ?_
  intro p e s m below meth c s₁ hx hby hml hZ hown hnm hlk hret X0 e0
  have N0 := Fr.nil n0
  have D := @hb _ _ hby
  have K0 : Keep h0 h0 [sb, t2] := Keep.refl _ _
  refine Go.st (T' := s₁) (f' := (mkF m 0 #[rv sb, rv s1, .unset] [])) (fun _ k => castTop (by first | (simp [entryFrame, mkF, argsToLocals, Value.category]; done) | rfl) k) ?_
  have ⟨S_iC, nz_iC, S_vF, r_vF, S_wO, E_wO, S_wT, E_wT, V_wO, V_wT⟩ := WW
  have lt_wO := E_wO.lt
  have lt_wT := E_wT.lt
  have lt_sb := E_sb.lt
  have ne_wO_sb : wO ≠ sb := O0.ne lt_wO g_sb
  have ne_wT_sb : wT ≠ sb := O0.ne lt_wT g_sb
  have lt_s1 := E_s1.lt
  have lt_t1 := V_t1.lt
  have lt_t2 := V_t2.lt
  have ne_wO_t2 : wO ≠ t2 := O0.ne lt_wO g_t2
  have ne_wT_t2 : wT ≠ t2 := O0.ne lt_wT g_t2
  have nt_sb_t2 : sb ≠ t2 := Exa.neArv E_sb V_t2 (ww hw 39 rfl)
  have nt_s1_t2 : s1 ≠ t2 := Exa.neArv E_s1 V_t2 (ww hw 2 rfl)
  have nt_sb_t1 : sb ≠ t1 := Exa.neArv E_sb V_t1 (ww hw 39 rfl)
  have nt_s1_t1 : s1 ≠ t1 := Exa.neArv E_s1 V_t1 (ww hw 2 rfl)
  have ne_sb_s1 := Exa.ne E_sb E_s1 (by decide)
  refine zan 1 X0 hx (D d9_0) rfl rfl ?_
  refine Go.st (f' := (mkF m 9 #[rv sb, rv s1, .unset] [])) (fun _ k => XS.ifnonnullYes X0.here hx rfl (pc0 := 1) (pc' := 9) rfl (D d9_1) rfl (by decide) (by decide) k) ?_
  refine zan 10 X0 hx (D d9_9) rfl rfl ?_
  refine gV 13 0 0 0 X0 N0 hx hZ (y := mq7) hown hml (ww hw 67 rfl) (ww hw 68 rfl) (ww hw 70 rfl) (ww hw 69 rfl) (slen l Z a0 hw [] s1 t1 k1 n fs wO wT kO kT iC vF h0 n0 O0 E_s1 F_s1_coder F_s1_value V_t1 WW) (ww hw 71 rfl) (ww hw 3 rfl) e0 E_s1 [] [] (lenOf pd___I rfl) (D d9_10) ?_
  rintro T1 L1 M1 _ X1 uu1 ⟨rfl, Nq1, kq1⟩
  have N1 := uu1 Nq1
  refine zsk [(.int n)] ?_
  refine zsn 14 #[rv sb, rv s1, iv n] X1 hx (D d9_13) ?_
  refine zan 15 X1 hx (D d9_14) rfl rfl ?_
  refine zan 16 X1 hx (D d9_15) rfl rfl ?_
  refine zgf 19 X1 hx hZ hown (host := "") (Or.inl (ww hw 78 rfl)) Via.refl kq1 F_sb_count (D d9_16) fun T2 X2 e2 => ?_
  refine zin 20 X2 hx (D d9_19) rfl ?_
  refine zad 21 X2 hx (D d9_20) ?_
  obtain ⟨cq3, q3, q3'⟩ := E_sb.cell
  obtain ⟨_, _, ⟨T3, L3, kk3, nn3⟩, -, X3, ⟨Lc3, hQ3, lq3, yq3, zz3⟩, st3⟩ := X2.privateBack hx (y := mq17) hown (mvT hZ (ww hw 80 rfl)) (mvT hZ (ww hw 81 rfl)) (own_selp (mvT hZ (ww hw 83 rfl)) (Cond.privateMethod_at (mvP hZ (ww hw 82 rfl) (args := #[]))) (mvT hZ (ww hw 81 rfl)) (by decide)) (Cond.privateMethod_at (mvP hZ (ww hw 82 rfl) (args := #[]))) (mvT hZ (ww hw 84 rfl)) (by decide) (own_back (W := 0) (gec l Z a0 hw [] sb (c2 + n) t2 k2 Y2 c2 xs wO wT kO kT iC vF h0 n0 O0 lc bd (own_cb lc ln cap bd).1 g_sb g_t2 E_sb F_sb_coder F_sb_value F_sb_count E_t2 V_t2 WW) hZ (ww hw 84 rfl) (ww hw 48 rfl) (by decide) (by decide)) (g := (mkF m 21 #[rv sb, rv s1, iv n] [(.int (c2 + n)), (.ref sb)])) rfl (by rw [hml]; rfl) (Steps.refl _) (a := sb) (by rw [e2]; exact q3) q3' (argsL := [(.int (c2 + n))]) (rest := []) (lenOf pd__I_V rfl) rfl (by show 2 * 0 + _ ≤ _; exact Nat.le_of_eq rfl) (D d9_21) (fun _ _ => ⟨rfl, e2, (by decide : 0 + 1 ≤ _), (by decide : 0 + 200 ≤ _)⟩)
  dsimp only [Pt.U, Pt.locs, Pt.cells, Pt.slots] at X3 lq3 yq3 zz3 st3 hQ3
  subst lq3 yq3 zz3
  obtain ⟨rfl, Nq3, kq3, eq3, cq3, nq3, tt3, kt3, NN3, dz3, fq3, xq3, vq3, ra3, rb3, rc3⟩ := hQ3
  have N3 := Fr.app N1 Nq3
  have ne_sb_tt3 : sb ≠ tt3 := own_dn dz3 nt_sb_t2 lt_sb
  have ne_s1_tt3 : s1 ≠ tt3 := own_dn dz3 nt_s1_t2 lt_s1
  have ne_wO_tt3 : wO ≠ tt3 := own_dn dz3 ne_wO_t2 (Nat.lt_of_lt_of_le lt_wO O0.2.1)
  have ne_wT_tt3 : wT ≠ tt3 := own_dn dz3 ne_wT_t2 (Nat.lt_of_lt_of_le lt_wT O0.2.1)
  have g_tt3 : n0 ≤ tt3 := own_dt dz3 g_t2 (O0.1 ▸ O0.2.1)
  have ik_tt3 : tt3 ∈ [sb, t2] ∨ h0.size ≤ tt3 := own_ik dz3 K0.1
  have dy_tt3 := own_dz dz3 K0.1
  have O3 : Old Z n0 T3.heap := O0.keep kq3 (allS g_sb all0)
  have K3 : Keep h0 T3.heap [sb, t2] := K0.trans kq3 (allS (Or.inl (List.mem_of_getElem? (i := 0) rfl)) all0)
  have lt_tt3 := vq3.lt
  refine Go.tr (f' := (mkF m 24 #[rv sb, rv s1, iv n] [])) st3 ?_
  refine zan 25 X3 hx (D d9_24) rfl rfl ?_
  refine zan 26 X3 hx (D d9_25) rfl rfl ?_
  refine zgf 29 X3 hx hZ hown (host := "") (Or.inl (ww hw 78 rfl)) Via.refl rfl nq3 (D d9_26) fun T4 X4 e4 => ?_
  refine zan 30 X4 hx (D d9_29) rfl rfl ?_
  have ft6 := (E_s1.keep kq3)
  have ft7 := (F_s1_coder.keep kq3 (ninS (Ne.symm ne_sb_s1) nin0))
  have ft8 := (F_s1_value.keep kq3 (ninS (Ne.symm ne_sb_s1) nin0))
  have ft9 := (V_t1.keep kq3 (ninS (Ne.symm nt_sb_t1) nin0))
  obtain ⟨cq5, q5, q5'⟩ := eq3.cell
  obtain ⟨_, _, ⟨T5, L5, kk5, nn5⟩, -, X5, ⟨Lc5, hQ5, lq5, yq5, zz5⟩, st5⟩ := X4.privateBack hx (y := mq21) hown (mvT hZ (ww hw 85 rfl)) (mvT hZ (ww hw 86 rfl)) (own_selp (mvT hZ (ww hw 88 rfl)) (Cond.privateMethod_at (mvP hZ (ww hw 87 rfl) (args := #[]))) (mvT hZ (ww hw 86 rfl)) (by decide)) (Cond.privateMethod_at (mvP hZ (ww hw 87 rfl) (args := #[]))) (mvT hZ (ww hw 89 rfl)) (by decide) (own_back (W := 0) (gps l Z a0 hw [] sb s1 t1 k1 n fs tt3 kt3 NN3 c2 xs wO wT kO kT iC vF T3.heap n0 O3 lc ln (own_ft lc ln cap bd ra3) g_tt3 eq3 cq3 fq3 ft6 ft7 ft8 ft9 xq3 vq3 WW) hZ (ww hw 89 rfl) (ww hw 48 rfl) (by decide) (by decide)) (g := (mkF m 30 #[rv sb, rv s1, iv n] [(.ref s1), (.int c2), (.ref sb)])) rfl (by rw [hml]; rfl) (Steps.refl _) (a := sb) (by rw [e4]; exact q5) q5' (argsL := [(.int c2), (.ref s1)]) (rest := []) (lenOf pd__ILjava_lang_String__V rfl) rfl (by show 2 * 0 + _ ≤ _; exact Nat.le_of_eq rfl) (D d9_30) (fun _ _ => ⟨rfl, e4, (by decide : 1 + 0 ≤ _), (by decide : 200 + 0 ≤ _)⟩)
  dsimp only [Pt.U, Pt.locs, Pt.cells, Pt.slots] at X5 lq5 yq5 zz5 st5 hQ5
  subst lq5 yq5 zz5
  obtain ⟨rfl, Nq5, kq5, vq5⟩ := hQ5
  have N5 := Fr.app N3 Nq5
  have O5 : Old Z n0 T5.heap := O3.keep kq5 (allS g_tt3 all0)
  have K5 : Keep h0 T5.heap [sb, t2] := K3.trans kq5 (allS ik_tt3 all0)
  refine Go.tr (f' := (mkF m 33 #[rv sb, rv s1, iv n] [])) st5 ?_
  refine zan 34 X5 hx (D d9_33) rfl rfl ?_
  refine Go.st (f' := (mkF m 35 #[rv sb, rv s1, iv n] [(.ref sb), (.ref sb)])) (fun _ k => XS.dup X5.here hx rfl (D d9_34) rfl rfl k) ?_
  have ft10 := (nq3.keep kq5 (ninS ne_sb_tt3 nin0))
  refine zgf 38 X5 hx hZ hown (host := "") (Or.inl (ww hw 78 rfl)) Via.refl rfl ft10 (D d9_35) fun T11 X11 e11 => ?_
  refine zin 39 X11 hx (D d9_38) rfl ?_
  refine zad 40 X11 hx (D d9_39) ?_
  have ft12 := (eq3.keep kq5)
  obtain ⟨T13, h13, X13, e13, W13, st13⟩ := putF X11 hx hZ hown (host := "") (Or.inl (ww hw 78 rfl)) Via.refl e11 ft10 ft12 (Or.inl (ww hw 79 rfl)) (ww hw 39 rfl) (ty := .int) (by decide) rfl rfl (g := (mkF m 40 #[rv sb, rv s1, iv n] [(.int (c2 + n)), (.ref sb)])) rfl rfl (D d9_40)
  have N13 := Fr.snoc X13 N5 g_sb
  have O13 : Old Z n0 h13 := O5.wr W13 g_sb
  have K13 : Keep h0 h13 [sb, t2] := K5.wr W13 (Or.inl (List.mem_of_getElem? (i := 0) rfl))
  have Fw13 := ft10.same W13
  refine zst 43 #[rv sb, rv s1, iv n] [] st13 ?_
  refine zan 44 X13 hx (D d9_43) rfl rfl ?_
  refine Go.retV X13 hlk hx (t := (.object "java/lang/AbstractStringBuilder")) hret rfl (Or.inr (Or.inr (Or.inr (Or.inr ⟨rfl, rfl, rfl⟩)))) (D d9_44) e13 ?_ (by decide) (by decide)
  have ft14 := (ft12.wr W13)
  have ft15 := ((cq3.keep kq5 (ninS ne_sb_tt3 nin0)).other W13 (Or.inr (slot_ne (Or.inl (ww hw 55 rfl)) (Or.inl (ww hw 79 rfl)) (by decide) (t := .byte) (t' := .int) (by decide) (by decide))))
  have ft16 := ((fq3.keep kq5 (ninS ne_sb_tt3 nin0)).other W13 (Or.inr (slot_ne (Or.inl (ww hw 53 rfl)) (Or.inl (ww hw 79 rfl)) (by decide) (t := (.array .byte)) (t' := .int) (by decide) (by decide))))
  have ft17 := ((xq3.keep kq5).wr W13)
  have ft18 := (vq5.other W13 (Ne.symm ne_sb_tt3))
  exact ⟨rfl, N13, K13, ft14, ft15, Fw13, tt3, kt3, NN3, dy_tt3, ft16, ft17, ft18, own_bn (N := Y2) lc ln cap ra3 rc3⟩
theorem pn_java_lang_StringBuilder : plainName "java/lang/StringBuilder" = true := by first | (simp [plainName, overriddenIn]; done) | decide +kernel
theorem d8_0 : decode jdk_67_method_7_code 0 = .ok (.aload_n 0, 1) := by decide +kernel
theorem d8_1 : decode jdk_67_method_7_code 1 = .ok (.aload_n 1, 1) := by decide +kernel
theorem d8_2 : decode jdk_67_method_7_code 2 = .ok (.invokespecial 29, 3) := by decide +kernel
theorem pd__Ljava_lang_String__Ljava_lang_AbstractStringBuilder_ : parseMethodDescriptor "(Ljava/lang/String;)Ljava/lang/AbstractStringBuilder;" = some ⟨[(.object "java/lang/String")], some (.object "java/lang/AbstractStringBuilder")⟩ := by decide +kernel
theorem d8_5 : decode jdk_67_method_7_code 5 = .ok (.pop, 1) := by decide +kernel
theorem d8_6 : decode jdk_67_method_7_code 6 = .ok (.aload_n 0, 1) := by decide +kernel
theorem d8_7 : decode jdk_67_method_7_code 7 = .ok (.areturn, 1) := by decide +kernel
set_option maxRecDepth 65536 in
set_option maxHeartbeats 40000000 in
theorem gbs (l : Launch) (Z : State) (a0 : Array Value) (hw : ∀ d ∈ tables_1, d.before a0 Z = true) (ws : List Jvm.Cond) (sb : Addr) (s1 : Addr) (t1 : Addr) (k1 : ClassId) (n : Int32) (fs : List Value) (t2 : Addr) (k2 : ClassId) (Y2 : Int32) (c2 : Int32) (xs : List Value) (wO : Addr) (wT : Addr) (kO : ClassId) (kT : ClassId) (iC : Int32) (vF : Value) (h0 : Heap) (n0 : Nat) (O0 : Old Z n0 h0) (lc : Ln c2 xs) (bd : Bd c2 Y2) (ln : Ln n fs) (cap : xs.length + fs.length ≤ 100) (g_sb : n0 ≤ sb) (g_t2 : n0 ≤ t2) (E_sb : Exa Z h0 sb "java/lang/StringBuilder") (F_sb_coder : Fld Z h0 sb "java/lang/AbstractStringBuilder" "coder" "B" (.int 0)) (F_sb_value : Fld Z h0 sb "java/lang/AbstractStringBuilder" "value" "[B" (.ref t2)) (F_sb_count : Fld Z h0 sb "java/lang/AbstractStringBuilder" "count" "I" (.int c2)) (E_s1 : Exa Z h0 s1 "java/lang/String") (F_s1_coder : Fld Z h0 s1 "java/lang/String" "coder" "B" (.int 0)) (F_s1_value : Fld Z h0 s1 "java/lang/String" "value" "[B" (.ref t1)) (V_t1 : Arv Z h0 t1 k1 .byte n fs (.int 0)) (E_t2 : Exa Z h0 t2 "[B") (V_t2 : Arv Z h0 t2 k2 .byte Y2 xs (.int 0)) (WW : World1 Z wO wT kO kT iC vF) :
    Con l Z mq23 jdk_67_method_7_code 2 (some (.object "java/lang/StringBuilder")) ws ({ frames := 5, cells := 1, slots := 200, locals := 76 } : Room) #[(.ref sb), (.ref s1)] h0 (fun v h L => v = some (.ref sb) ∧ Fr n0 L ∧ Keep h0 h [sb, t2] ∧ Exa Z h sb "java/lang/StringBuilder" ∧ Fld Z h sb "java/lang/AbstractStringBuilder" "coder" "B" (.int 0) ∧ Fld Z h sb "java/lang/AbstractStringBuilder" "count" "I" (.int (c2 + n)) ∧ ∃ (t : Addr) (kt : ClassId) (N : Int32), (t = t2 ∨ h0.size ≤ t) ∧ Fld Z h sb "java/lang/AbstractStringBuilder" "value" "[B" (.ref t) ∧ Exa Z h t "[B" ∧ Arv Z h t kt .byte N (xs ++ fs) (.int 0) ∧ Bd (c2 + n) N) := by
  refine own_body (plainFor_of_name pn_java_lang_StringBuilder) ?_
  intro p e s m below meth c s₁ hx hby hml hZ hown hnm hlk hret X0 e0
  have N0 := Fr.nil n0
  have D := @hb _ _ hby
  have K0 : Keep h0 h0 [sb, t2] := Keep.refl _ _
  refine Go.st (T' := s₁) (f' := (mkF m 0 #[rv sb, rv s1] [])) (fun _ k => castTop (by first | (simp [entryFrame, mkF, argsToLocals, Value.category]; done) | rfl) k) ?_
  have ⟨S_iC, nz_iC, S_vF, r_vF, S_wO, E_wO, S_wT, E_wT, V_wO, V_wT⟩ := WW
  have lt_wO := E_wO.lt
  have lt_wT := E_wT.lt
  have lt_sb := E_sb.lt
  have ne_wO_sb : wO ≠ sb := O0.ne lt_wO g_sb
  have ne_wT_sb : wT ≠ sb := O0.ne lt_wT g_sb
  have lt_s1 := E_s1.lt
  have lt_t1 := V_t1.lt
  have lt_t2 := V_t2.lt
  have ne_wO_t2 : wO ≠ t2 := O0.ne lt_wO g_t2
  have ne_wT_t2 : wT ≠ t2 := O0.ne lt_wT g_t2
  have nt_sb_t2 : sb ≠ t2 := Exa.neArv E_sb V_t2 (ww hw 39 rfl)
  have nt_s1_t2 : s1 ≠ t2 := Exa.neArv E_s1 V_t2 (ww hw 2 rfl)
  have nt_sb_t1 : sb ≠ t1 := Exa.neArv E_sb V_t1 (ww hw 39 rfl)
  have nt_s1_t1 : s1 ≠ t1 := Exa.neArv E_s1 V_t1 (ww hw 2 rfl)
  have ne_sb_s1 := Exa.ne E_sb E_s1 (by decide)
  refine zan 1 X0 hx (D d8_0) rfl rfl ?_
  refine zan 2 X0 hx (D d8_1) rfl rfl ?_
  obtain ⟨_, _, ⟨T1, L1, kk1, nn1⟩, -, X1, ⟨Lc1, hQ1, lq1, yq1, zz1⟩, st1⟩ := superBack X0 hx hZ (y := mq22) hown (ww hw 62 rfl) (own_same (ww hw 83 rfl) (ww hw 63 rfl) rfl (by decide)) (ww hw 63 rfl) (ww hw 64 rfl) (by decide) (own_back (W := 0) (gas l Z a0 hw [] sb s1 t1 k1 n fs t2 k2 Y2 c2 xs wO wT kO kT iC vF h0 n0 O0 lc bd ln cap g_sb g_t2 E_sb F_sb_coder F_sb_value F_sb_count E_s1 F_s1_coder F_s1_value V_t1 E_t2 V_t2 WW) hZ (ww hw 66 rfl) (ww hw 48 rfl) (by decide) (by decide)) e0 (Ins.self E_sb) (g := (mkF m 2 #[rv sb, rv s1] [(.ref s1), (.ref sb)])) rfl (by rw [hml]; rfl) (ww hw 66 rfl) (argsL := [(.ref s1)]) (rest := []) (lenOf pd__Ljava_lang_String__Ljava_lang_AbstractStringBuilder_ rfl) rfl (by show 2 * 0 + _ ≤ _; exact Nat.le_of_eq rfl) (D d8_2) (fun _ _ => ⟨rfl, e0, (by decide : 0 + 1 ≤ _), (by decide : 0 + 200 ≤ _)⟩)
  dsimp only [Pt.U, Pt.locs, Pt.cells, Pt.slots] at X1 lq1 yq1 zz1 st1 hQ1
  subst lq1 yq1 zz1
  obtain ⟨rfl, Nq1, kq1, eq1, cq1, nq1, tt1, kt1, NN1, dz1, fq1, xq1, vq1, bd1⟩ := hQ1
  have N1 := Fr.app N0 Nq1
  have ne_sb_tt1 : sb ≠ tt1 := own_dn dz1 nt_sb_t2 lt_sb
  have ne_s1_tt1 : s1 ≠ tt1 := own_dn dz1 nt_s1_t2 lt_s1
  have ne_wO_tt1 : wO ≠ tt1 := own_dn dz1 ne_wO_t2 (Nat.lt_of_lt_of_le lt_wO O0.2.1)
  have ne_wT_tt1 : wT ≠ tt1 := own_dn dz1 ne_wT_t2 (Nat.lt_of_lt_of_le lt_wT O0.2.1)
  have g_tt1 : n0 ≤ tt1 := own_dt dz1 g_t2 (O0.1 ▸ O0.2.1)
  have ik_tt1 : tt1 ∈ [sb, t2] ∨ h0.size ≤ tt1 := own_ik dz1 K0.1
  have dy_tt1 := own_dz dz1 K0.1
  have O1 : Old Z n0 T1.heap := O0.keep kq1 (allS g_sb (allS g_t2 all0))
  have K1 : Keep h0 T1.heap [sb, t2] := K0.trans kq1 (allS (Or.inl (List.mem_of_getElem? (i := 0) rfl)) (allS (Or.inl (List.mem_of_getElem? (i := 1) rfl)) all0))
  have lt_tt1 := vq1.lt
  have ln1 := own_la lc ln cap
  refine Go.tr (f' := (mkF m 5 #[rv sb, rv s1] [(.ref sb)])) st1 ?_
  refine Go.st (f' := (mkF m 6 #[rv sb, rv s1] [])) (fun _ k => XS.pop X1.here hx rfl (D d8_5) rfl rfl k) ?_
  refine zan 7 X1 hx (D d8_6) rfl rfl ?_
  refine Go.retV X1 hlk hx (t := (.object "java/lang/StringBuilder")) hret rfl (Or.inr (Or.inr (Or.inr (Or.inr ⟨rfl, rfl, rfl⟩)))) (D d8_7) rfl ?_ (by decide) (by decide)
  exact ⟨rfl, N1, K1, eq1, cq1, nq1, tt1, kt1, NN1, dy_tt1, fq1, xq1, vq1, bd1⟩
/-- es with v at place k -/
def lput (es : List Value) (k : Nat) (v d : Value) : List Value := (es ++ List.replicate (k + 1) d).set k v
theorem lput_len (es : List Value) (k : Nat) (d : Value) : k < (es ++ List.replicate (k + 1) d).length := by rw [List.length_append, List.length_replicate]; omega
theorem lput_getD (es : List Value) (k : Nat) (v d : Value) (i : Nat) : (lput es k v d).getD i d = if i = k then v else es.getD i d := by
  unfold lput
  by_cases h : i = k
  · subst h; rw [if_pos rfl]
    simp only [List.getD_eq_getElem?_getD]
    rw [List.getElem?_set_self (lput_len es i d)]; rfl
  · rw [if_neg h, ← pad_rep es d (k + 1) i]
    simp only [List.getD_eq_getElem?_getD]
    rw [List.getElem?_set_ne (fun q => h q.symm)]
theorem l4n : Ln (4 : Int32) [(Value.int (110 : Int32)), (Value.int (117 : Int32)), (Value.int (108 : Int32)), (Value.int (108 : Int32))] := ⟨by decide, by decide⟩
theorem own_k4 {c : Int32} {xs : List Value} (l : Ln c xs) (h : xs.length + 4 ≤ 100) : (c + (1 : Int32)).toInt = c.toInt + 1 ∧ ((c + (1 : Int32)) + (1 : Int32)).toInt = c.toInt + 2 ∧ (((c + (1 : Int32)) + (1 : Int32)) + (1 : Int32)).toInt = c.toInt + 3 ∧ ((((c + (1 : Int32)) + (1 : Int32)) + (1 : Int32)) + (1 : Int32)).toInt = c.toInt + 4 ∧ (c + (4 : Int32)).toInt = c.toInt + 4 := by
  have e1 : (1 : Int32).toInt = 1 := by decide
  have e4 : (4 : Int32).toInt = 4 := by decide
  have a1 := l.1
  have a2 := l.2
  have k : ∀ u : Int32, 0 ≤ u.toInt → u.toInt ≤ 200 → (u + (1 : Int32)).toInt = u.toInt + 1 := fun u h1 h2 => by
    have x := c_iadd u 1
    have r := rng32 (u + 1)
    omega
  have x1 := k c (by omega) (by omega)
  have x2 := k (c + 1) (by omega) (by omega)
  have x3 := k ((c + 1) + 1) (by omega) (by omega)
  have x4 := k (((c + 1) + 1) + 1) (by omega) (by omega)
  have y := c_iadd c 4
  have r := rng32 (c + 4)
  refine ⟨?_, ?_, ?_, ?_, ?_⟩ <;> omega
theorem own_in {j N : Int32} (a : 0 ≤ j.toInt) (b : j.toInt < N.toInt) : ¬ j < (0 : Int32) ∧ j < N := by
  have e0 : (0 : Int32).toInt = 0 := by decide
  rw [Int32.lt_iff_toInt_lt, Int32.lt_iff_toInt_lt]; omega
theorem own_j4 {c N M : Int32} {xs : List Value} (l : Ln c xs) (h : xs.length + 4 ≤ 100) (d : Bd c N) (r : (c + (4 : Int32)).toInt ≤ M.toInt) : (¬ c < (0 : Int32) ∧ c < M) ∧ (¬ (c + (1 : Int32)) < (0 : Int32) ∧ (c + (1 : Int32)) < M) ∧ (¬ ((c + (1 : Int32)) + (1 : Int32)) < (0 : Int32) ∧ ((c + (1 : Int32)) + (1 : Int32)) < M) ∧ (¬ (((c + (1 : Int32)) + (1 : Int32)) + (1 : Int32)) < (0 : Int32) ∧ (((c + (1 : Int32)) + (1 : Int32)) + (1 : Int32)) < M) := by
  have k := own_k4 l h
  have := l.1
  refine ⟨own_in ?_ ?_, own_in ?_ ?_, own_in ?_ ?_, own_in ?_ ?_⟩ <;> omega
theorem own_b4 {c N M : Int32} {xs : List Value} (l : Ln c xs) (h : xs.length + 4 ≤ 100) (d : Bd c N) (r : (c + (4 : Int32)).toInt ≤ M.toInt) (t : M.toInt ≤ 200) : Bd ((((c + (1 : Int32)) + (1 : Int32)) + (1 : Int32)) + (1 : Int32)) M := by
  have k := own_k4 l h
  have := l.1
  refine ⟨?_, ?_, ?_⟩ <;> omega
theorem own_l4 {c : Int32} {xs : List Value} (l : Ln c xs) (h : xs.length + 4 ≤ 100) : Ln ((((c + (1 : Int32)) + (1 : Int32)) + (1 : Int32)) + (1 : Int32)) (xs ++ [(Value.int (110 : Int32)), (Value.int (117 : Int32)), (Value.int (108 : Int32)), (Value.int (108 : Int32))]) := by
  have k := own_k4 l h
  have a1 := l.1
  have a2 := l.2
  refine ⟨by omega, ?_⟩
  rw [List.length_append]; simp only [List.length_cons, List.length_nil]; omega
theorem own_p4 {c : Int32} {xs : List Value} (l : Ln c xs) (h : xs.length + 4 ≤ 100) (i : Nat) : (xs ++ [(Value.int (110 : Int32)), (Value.int (117 : Int32)), (Value.int (108 : Int32)), (Value.int (108 : Int32))]).getD i (.int (0 : Int32)) = (lput (lput (lput (lput xs c.toNatClampNeg (.int (110 : Int32)) (.int (0 : Int32))) (c + (1 : Int32)).toNatClampNeg (.int (117 : Int32)) (.int (0 : Int32))) ((c + (1 : Int32)) + (1 : Int32)).toNatClampNeg (.int (108 : Int32)) (.int (0 : Int32))) (((c + (1 : Int32)) + (1 : Int32)) + (1 : Int32)).toNatClampNeg (.int (108 : Int32)) (.int (0 : Int32))).getD i (.int (0 : Int32)) := by
  have k := own_k4 l h
  have a1 := l.1
  have a2 := l.2
  have n0 : c.toNatClampNeg = xs.length := l.nat
  have n1 : (c + (1 : Int32)).toNatClampNeg = xs.length + 1 := by simp only [Int32.toNatClampNeg]; omega
  have n2 : ((c + (1 : Int32)) + (1 : Int32)).toNatClampNeg = xs.length + 2 := by simp only [Int32.toNatClampNeg]; omega
  have n3 : (((c + (1 : Int32)) + (1 : Int32)) + (1 : Int32)).toNatClampNeg = xs.length + 3 := by simp only [Int32.toNatClampNeg]; omega
  rw [n0, n1, n2, n3, lput_getD, lput_getD, lput_getD, lput_getD]
  simp only [List.getD_eq_getElem?_getD]
  by_cases c0 : i < xs.length
  · rw [List.getElem?_append_left c0, if_neg (by omega), if_neg (by omega), if_neg (by omega), if_neg (by omega)]
  · obtain ⟨j, rfl⟩ : ∃ j, i = xs.length + j := ⟨i - xs.length, by omega⟩
    rw [List.getElem?_append_right (by omega), show xs.length + j - xs.length = j by omega]
    rcases j with _ | _ | _ | _ | j
    · rw [if_neg (by omega), if_neg (by omega), if_neg (by omega), if_pos (by omega)]; rfl
    · rw [if_neg (by omega), if_neg (by omega), if_pos (by omega)]; rfl
    · rw [if_neg (by omega), if_pos (by omega)]; rfl
    · rw [if_pos (by omega)]; rfl
    · rw [if_neg (by omega), if_neg (by omega), if_neg (by omega), if_neg (by omega), List.getElem?_eq_none (l := xs) (by omega)]; rfl
theorem d26_0 : decode jdk_68_method_26_code 0 = .ok (.aload_n 0, 1) := by decide +kernel
theorem d26_1 : decode jdk_68_method_26_code 1 = .ok (.aload_n 0, 1) := by decide +kernel
theorem d26_2 : decode jdk_68_method_26_code 2 = .ok (.getfield 79, 3) := by decide +kernel
theorem d26_5 : decode jdk_68_method_26_code 5 = .ok (.iconst 4, 1) := by decide +kernel
theorem d26_6 : decode jdk_68_method_26_code 6 = .ok (.iadd, 1) := by decide +kernel
theorem d26_7 : decode jdk_68_method_26_code 7 = .ok (.invokevirtual 100, 3) := by decide +kernel
theorem d26_10 : decode jdk_68_method_26_code 10 = .ok (.aload_n 0, 1) := by decide +kernel
theorem d26_11 : decode jdk_68_method_26_code 11 = .ok (.getfield 79, 3) := by decide +kernel
theorem d26_14 : decode jdk_68_method_26_code 14 = .ok (.istore_n 1, 1) := by decide +kernel
theorem d26_15 : decode jdk_68_method_26_code 15 = .ok (.aload_n 0, 1) := by decide +kernel
theorem d26_16 : decode jdk_68_method_26_code 16 = .ok (.getfield 15, 3) := by decide +kernel
theorem d26_19 : decode jdk_68_method_26_code 19 = .ok (.astore_n 2, 1) := by decide +kernel
theorem d26_20 : decode jdk_68_method_26_code 20 = .ok (.aload_n 0, 1) := by decide +kernel
theorem d26_21 : decode jdk_68_method_26_code 21 = .ok (.invokevirtual 83, 3) := by decide +kernel
theorem d26_24 : decode jdk_68_method_26_code 24 = .ok (.ifCond .eq 38, 3) := by decide +kernel
theorem d26_27 : decode jdk_68_method_26_code 27 = .ok (.aload_n 2, 1) := by decide +kernel
theorem d26_28 : decode jdk_68_method_26_code 28 = .ok (.iload_n 1, 1) := by decide +kernel
theorem d26_29 : decode jdk_68_method_26_code 29 = .ok (.iinc 1 1, 3) := by decide +kernel
theorem d26_32 : decode jdk_68_method_26_code 32 = .ok (.bipush 110, 2) := by decide +kernel
theorem d26_34 : decode jdk_68_method_26_code 34 = .ok (.bastore, 1) := by decide +kernel
theorem d26_35 : decode jdk_68_method_26_code 35 = .ok (.aload_n 2, 1) := by decide +kernel
theorem d26_36 : decode jdk_68_method_26_code 36 = .ok (.iload_n 1, 1) := by decide +kernel
theorem d26_37 : decode jdk_68_method_26_code 37 = .ok (.iinc 1 1, 3) := by decide +kernel
theorem d26_40 : decode jdk_68_method_26_code 40 = .ok (.bipush 117, 2) := by decide +kernel
theorem d26_42 : decode jdk_68_method_26_code 42 = .ok (.bastore, 1) := by decide +kernel
theorem d26_43 : decode jdk_68_method_26_code 43 = .ok (.aload_n 2, 1) := by decide +kernel
theorem d26_44 : decode jdk_68_method_26_code 44 = .ok (.iload_n 1, 1) := by decide +kernel
theorem d26_45 : decode jdk_68_method_26_code 45 = .ok (.iinc 1 1, 3) := by decide +kernel
theorem d26_48 : decode jdk_68_method_26_code 48 = .ok (.bipush 108, 2) := by decide +kernel
theorem d26_50 : decode jdk_68_method_26_code 50 = .ok (.bastore, 1) := by decide +kernel
theorem d26_51 : decode jdk_68_method_26_code 51 = .ok (.aload_n 2, 1) := by decide +kernel
theorem d26_52 : decode jdk_68_method_26_code 52 = .ok (.iload_n 1, 1) := by decide +kernel
theorem d26_53 : decode jdk_68_method_26_code 53 = .ok (.iinc 1 1, 3) := by decide +kernel
theorem d26_56 : decode jdk_68_method_26_code 56 = .ok (.bipush 108, 2) := by decide +kernel
theorem d26_58 : decode jdk_68_method_26_code 58 = .ok (.bastore, 1) := by decide +kernel
theorem d26_59 : decode jdk_68_method_26_code 59 = .ok (.goto 17, 3) := by decide +kernel
theorem d26_76 : decode jdk_68_method_26_code 76 = .ok (.aload_n 0, 1) := by decide +kernel
theorem d26_77 : decode jdk_68_method_26_code 77 = .ok (.iload_n 1, 1) := by decide +kernel
theorem d26_78 : decode jdk_68_method_26_code 78 = .ok (.putfield 79, 3) := by decide +kernel
theorem d26_81 : decode jdk_68_method_26_code 81 = .ok (.aload_n 0, 1) := by decide +kernel
theorem d26_82 : decode jdk_68_method_26_code 82 = .ok (.areturn, 1) := by decide +kernel
set_option maxRecDepth 65536 in
set_option maxHeartbeats 40000000 in
theorem gan (l : Launch) (Z : State) (a0 : Array Value) (hw : ∀ d ∈ tables_1, d.before a0 Z = true) (ws : List Jvm.Cond) (sb : Addr) (t2 : Addr) (k2 : ClassId) (Y2 : Int32) (c2 : Int32) (xs : List Value) (wO : Addr) (wT : Addr) (kO : ClassId) (kT : ClassId) (iC : Int32) (vF : Value) (h0 : Heap) (n0 : Nat) (O0 : Old Z n0 h0) (lc : Ln c2 xs) (bd : Bd c2 Y2) (cap : xs.length + 4 ≤ 100) (g_sb : n0 ≤ sb) (g_t2 : n0 ≤ t2) (E_sb : Exa Z h0 sb "java/lang/StringBuilder") (F_sb_coder : Fld Z h0 sb "java/lang/AbstractStringBuilder" "coder" "B" (.int 0)) (F_sb_value : Fld Z h0 sb "java/lang/AbstractStringBuilder" "value" "[B" (.ref t2)) (F_sb_count : Fld Z h0 sb "java/lang/AbstractStringBuilder" "count" "I" (.int c2)) (E_t2 : Exa Z h0 t2 "[B") (V_t2 : Arv Z h0 t2 k2 .byte Y2 xs (.int 0)) (WW : World1 Z wO wT kO kT iC vF) :
    Con l Z mq24 jdk_68_method_26_code 3 (some (.object "java/lang/AbstractStringBuilder")) ws ({ frames := 4, cells := 1, slots := 200, locals := 62 } : Room) #[(.ref sb)] h0 (fun v h L => v = some (.ref sb) ∧ Fr n0 L ∧ Keep h0 h [sb, t2] ∧ Exa Z h sb "java/lang/StringBuilder" ∧ Fld Z h sb "java/lang/AbstractStringBuilder" "coder" "B" (.int 0) ∧ Fld Z h sb "java/lang/AbstractStringBuilder" "count" "I" (.int ((((c2 + (1 : Int32)) + (1 : Int32)) + (1 : Int32)) + (1 : Int32))) ∧ ∃ (t : Addr) (kt : ClassId) (N : Int32), (t = t2 ∨ h0.size ≤ t) ∧ Fld Z h sb "java/lang/AbstractStringBuilder" "value" "[B" (.ref t) ∧ Exa Z h t "[B" ∧ Arv Z h t kt .byte N (xs ++ [(.int 110), (.int 117), (.int 108), (.int 108)]) (.int 0) ∧ Bd ((((c2 + (1 : Int32)) + (1 : Int32)) + (1 : Int32)) + (1 : Int32)) N) := by
  refine own_body (plainFor_of_name pn_java_lang_AbstractStringBuilder) ?_
  intro p e s m below meth c s₁ hx hby hml hZ hown hnm hlk hret X0 e0
  have N0 := Fr.nil n0
  have D := @hb _ _ hby
  have K0 : Keep h0 h0 [sb, t2] := Keep.refl _ _
  refine Go.st (T' := s₁) (f' := (mkF m 0 #[rv sb, .unset, .unset] [])) (fun _ k => castTop (by first | (simp [entryFrame, mkF, argsToLocals, Value.category]; done) | rfl) k) ?_
  have ⟨S_iC, nz_iC, S_vF, r_vF, S_wO, E_wO, S_wT, E_wT, V_wO, V_wT⟩ := WW
  have lt_wO := E_wO.lt
  have lt_wT := E_wT.lt
  have lt_sb := E_sb.lt
  have ne_wO_sb : wO ≠ sb := O0.ne lt_wO g_sb
  have ne_wT_sb : wT ≠ sb := O0.ne lt_wT g_sb
  have lt_t2 := V_t2.lt
  have ne_wO_t2 : wO ≠ t2 := O0.ne lt_wO g_t2
  have ne_wT_t2 : wT ≠ t2 := O0.ne lt_wT g_t2
  have nt_sb_t2 : sb ≠ t2 := Exa.neArv E_sb V_t2 (ww hw 39 rfl)
  refine zan 1 X0 hx (D d26_0) rfl rfl ?_
  refine zan 2 X0 hx (D d26_1) rfl rfl ?_
  refine zgf 5 X0 hx hZ hown (host := "") (Or.inl (ww hw 78 rfl)) Via.refl e0 F_sb_count (D d26_2) fun T1 X1 e1 => ?_
  refine zic 6 4 X1 hx (D d26_5) ?_
  refine zad 7 X1 hx (D d26_6) ?_
  obtain ⟨cq2, q2, q2'⟩ := E_sb.cell
  obtain ⟨_, _, ⟨T2, L2, kk2, nn2⟩, -, X2, ⟨Lc2, hQ2, lq2, yq2, zz2⟩, st2⟩ := X1.privateBack hx (y := mq17) hown (mvT hZ (ww hw 80 rfl)) (mvT hZ (ww hw 81 rfl)) (own_selp (mvT hZ (ww hw 83 rfl)) (Cond.privateMethod_at (mvP hZ (ww hw 82 rfl) (args := #[]))) (mvT hZ (ww hw 81 rfl)) (by decide)) (Cond.privateMethod_at (mvP hZ (ww hw 82 rfl) (args := #[]))) (mvT hZ (ww hw 84 rfl)) (by decide) (own_back (W := 0) (gec l Z a0 hw [] sb (c2 + (4 : Int32)) t2 k2 Y2 c2 xs wO wT kO kT iC vF h0 n0 O0 lc bd (own_cb lc l4n cap bd).1 g_sb g_t2 E_sb F_sb_coder F_sb_value F_sb_count E_t2 V_t2 WW) hZ (ww hw 84 rfl) (ww hw 48 rfl) (by decide) (by decide)) (g := (mkF m 7 #[rv sb, .unset, .unset] [(.int (c2 + (4 : Int32))), (.ref sb)])) rfl (by rw [hml]; rfl) (Steps.refl _) (a := sb) (by rw [e1]; exact q2) q2' (argsL := [(.int (c2 + (4 : Int32)))]) (rest := []) (lenOf pd__I_V rfl) rfl (by show 2 * 0 + _ ≤ _; exact Nat.le_of_eq rfl) (D d26_7) (fun _ _ => ⟨rfl, e1, (by decide : 0 + 1 ≤ _), (by decide : 0 + 200 ≤ _)⟩)
  dsimp only [Pt.U, Pt.locs, Pt.cells, Pt.slots] at X2 lq2 yq2 zz2 st2 hQ2
  subst lq2 yq2 zz2
  obtain ⟨rfl, Nq2, kq2, eq2, cq2, nq2, tt2, kt2, NN2, dz2, fq2, xq2, vq2, ra2, rb2, rc2⟩ := hQ2
  have N2 := Fr.app N0 Nq2
  have ne_sb_tt2 : sb ≠ tt2 := own_dn dz2 nt_sb_t2 lt_sb
  have ne_wO_tt2 : wO ≠ tt2 := own_dn dz2 ne_wO_t2 (Nat.lt_of_lt_of_le lt_wO O0.2.1)
  have ne_wT_tt2 : wT ≠ tt2 := own_dn dz2 ne_wT_t2 (Nat.lt_of_lt_of_le lt_wT O0.2.1)
  have g_tt2 : n0 ≤ tt2 := own_dt dz2 g_t2 (O0.1 ▸ O0.2.1)
  have ik_tt2 : tt2 ∈ [sb, t2] ∨ h0.size ≤ tt2 := own_ik dz2 K0.1
  have dy_tt2 := own_dz dz2 K0.1
  have O2 : Old Z n0 T2.heap := O0.keep kq2 (allS g_sb all0)
  have K2 : Keep h0 T2.heap [sb, t2] := K0.trans kq2 (allS (Or.inl (List.mem_of_getElem? (i := 0) rfl)) all0)
  have lt_tt2 := vq2.lt
  refine Go.tr (f' := (mkF m 10 #[rv sb, .unset, .unset] [])) st2 ?_
  refine zan 11 X2 hx (D d26_10) rfl rfl ?_
  refine zgf 14 X2 hx hZ hown (host := "") (Or.inl (ww hw 78 rfl)) Via.refl rfl nq2 (D d26_11) fun T3 X3 e3 => ?_
  refine zsn 15 #[rv sb, iv c2, .unset] X3 hx (D d26_14) ?_
  refine zan 16 X3 hx (D d26_15) rfl rfl ?_
  refine zgf 19 X3 hx hZ hown (host := "") (Or.inl (ww hw 52 rfl)) Via.refl e3 fq2 (D d26_16) fun T4 X4 e4 => ?_
  refine zrn 20 #[rv sb, iv c2, rv tt2] X4 hx (D d26_19) rfl ?_
  refine zan 21 X4 hx (D d26_20) rfl rfl ?_
  refine gV 24 0 1 200 X4 N2 hx hZ (y := mq19) hown hml (ww hw 118 rfl) (ww hw 119 rfl) (ww hw 121 rfl) (ww hw 120 rfl) (gla l Z a0 hw [] sb wO wT kO kT iC vF T2.heap n0 O2 eq2 cq2 WW) (ww hw 122 rfl) (ww hw 48 rfl) e4 eq2 [] [] (lenOf pd___Z rfl) (D d26_21) ?_
  rintro T5 L5 M5 _ X5 uu5 ⟨rfl, Nq5, kq5⟩
  have N5 := uu5 Nq5
  refine zsk [(.int 1)] ?_
  refine zfn 27 X5 hx (D d26_24) (by decide) ?_
  refine zan 28 X5 hx (D d26_27) rfl rfl ?_
  refine zin 29 X5 hx (D d26_28) rfl ?_
  refine zii 32 #[rv sb, .val (.int (c2 + (1 : Int32))), rv tt2] X5 hx (D d26_29) rfl ?_
  refine zbp 34 110 X5 hx (D d26_32) ?_
  obtain ⟨cl6, Ar6, q6, S6, Nx6, H6, G6⟩ := Arv.pad vq2 (pad_rep xs (.int (0 : Int32)) ((c2).toNatClampNeg + 1))
  have hin6 : ¬ (c2 < 0 ∨ cl6.slots.size ≤ (c2).toNatClampNeg) := inb_of S6 ⟨(own_j4 lc cap bd ra2).1.1, (own_j4 lc cap bd ra2).1.2⟩
  obtain ⟨T7, h7, X7, e7, W7, st7⟩ := stB X5 hx hZ kq5 Ar6 (j := c2) hin6 (g := (mkF m 34 #[rv sb, .val (.int (c2 + (1 : Int32))), rv tt2] [(.int 110), (.int c2), (.ref tt2)])) rfl rfl (D d26_34)
  have V_tt2_7 : Arv Z h7 tt2 kt2 .byte NN2 (lput xs (c2).toNatClampNeg (.int (110 : Int32)) (.int (0 : Int32))) (.int (0 : Int32)) := Arv.set Ar6 q6 S6 Nx6 H6 G6 (by decide) W7 _ rfl (lput_len _ _ _)
  have N7 := Fr.snoc X7 N5 g_tt2
  have O7 : Old Z n0 h7 := O2.wr W7 g_tt2
  have K7 : Keep h0 h7 [sb, t2] := K2.wr W7 ik_tt2
  refine zst 35 #[rv sb, .val (.int (c2 + (1 : Int32))), rv tt2] [] st7 ?_
  refine zan 36 X7 hx (D d26_35) rfl rfl ?_
  refine zin 37 X7 hx (D d26_36) rfl ?_
  refine zii 40 #[rv sb, .val (.int ((c2 + (1 : Int32)) + (1 : Int32))), rv tt2] X7 hx (D d26_37) rfl ?_
  refine zbp 42 117 X7 hx (D d26_40) ?_
  obtain ⟨cl8, Ar8, q8, S8, Nx8, H8, G8⟩ := Arv.pad V_tt2_7 (pad_rep (lput xs (c2).toNatClampNeg (.int (110 : Int32)) (.int (0 : Int32))) (.int (0 : Int32)) (((c2 + (1 : Int32))).toNatClampNeg + 1))
  have hin8 : ¬ ((c2 + (1 : Int32)) < 0 ∨ cl8.slots.size ≤ ((c2 + (1 : Int32))).toNatClampNeg) := inb_of S8 ⟨(own_j4 lc cap bd ra2).2.1.1, (own_j4 lc cap bd ra2).2.1.2⟩
  obtain ⟨T9, h9, X9, e9, W9, st9⟩ := stB X7 hx hZ e7 Ar8 (j := (c2 + (1 : Int32))) hin8 (g := (mkF m 42 #[rv sb, .val (.int ((c2 + (1 : Int32)) + (1 : Int32))), rv tt2] [(.int 117), (.int (c2 + (1 : Int32))), (.ref tt2)])) rfl rfl (D d26_42)
  have V_tt2_9 : Arv Z h9 tt2 kt2 .byte NN2 (lput (lput xs (c2).toNatClampNeg (.int (110 : Int32)) (.int (0 : Int32))) ((c2 + (1 : Int32))).toNatClampNeg (.int (117 : Int32)) (.int (0 : Int32))) (.int (0 : Int32)) := Arv.set Ar8 q8 S8 Nx8 H8 G8 (by decide) W9 _ rfl (lput_len _ _ _)
  have N9 := Fr.snoc X9 N7 g_tt2
  have O9 : Old Z n0 h9 := O7.wr W9 g_tt2
  have K9 : Keep h0 h9 [sb, t2] := K7.wr W9 ik_tt2
  refine zst 43 #[rv sb, .val (.int ((c2 + (1 : Int32)) + (1 : Int32))), rv tt2] [] st9 ?_
  refine zan 44 X9 hx (D d26_43) rfl rfl ?_
  refine zin 45 X9 hx (D d26_44) rfl ?_
  refine zii 48 #[rv sb, .val (.int (((c2 + (1 : Int32)) + (1 : Int32)) + (1 : Int32))), rv tt2] X9 hx (D d26_45) rfl ?_
  refine zbp 50 108 X9 hx (D d26_48) ?_
  obtain ⟨cl10, Ar10, q10, S10, Nx10, H10, G10⟩ := Arv.pad V_tt2_9 (pad_rep (lput (lput xs (c2).toNatClampNeg (.int (110 : Int32)) (.int (0 : Int32))) ((c2 + (1 : Int32))).toNatClampNeg (.int (117 : Int32)) (.int (0 : Int32))) (.int (0 : Int32)) ((((c2 + (1 : Int32)) + (1 : Int32))).toNatClampNeg + 1))
  have hin10 : ¬ (((c2 + (1 : Int32)) + (1 : Int32)) < 0 ∨ cl10.slots.size ≤ (((c2 + (1 : Int32)) + (1 : Int32))).toNatClampNeg) := inb_of S10 ⟨(own_j4 lc cap bd ra2).2.2.1.1, (own_j4 lc cap bd ra2).2.2.1.2⟩
  obtain ⟨T11, h11, X11, e11, W11, st11⟩ := stB X9 hx hZ e9 Ar10 (j := ((c2 + (1 : Int32)) + (1 : Int32))) hin10 (g := (mkF m 50 #[rv sb, .val (.int (((c2 + (1 : Int32)) + (1 : Int32)) + (1 : Int32))), rv tt2] [(.int 108), (.int ((c2 + (1 : Int32)) + (1 : Int32))), (.ref tt2)])) rfl rfl (D d26_50)
  have V_tt2_11 : Arv Z h11 tt2 kt2 .byte NN2 (lput (lput (lput xs (c2).toNatClampNeg (.int (110 : Int32)) (.int (0 : Int32))) ((c2 + (1 : Int32))).toNatClampNeg (.int (117 : Int32)) (.int (0 : Int32))) (((c2 + (1 : Int32)) + (1 : Int32))).toNatClampNeg (.int (108 : Int32)) (.int (0 : Int32))) (.int (0 : Int32)) := Arv.set Ar10 q10 S10 Nx10 H10 G10 (by decide) W11 _ rfl (lput_len _ _ _)
  have N11 := Fr.snoc X11 N9 g_tt2
  have O11 : Old Z n0 h11 := O9.wr W11 g_tt2
  have K11 : Keep h0 h11 [sb, t2] := K9.wr W11 ik_tt2
  refine zst 51 #[rv sb, .val (.int (((c2 + (1 : Int32)) + (1 : Int32)) + (1 : Int32))), rv tt2] [] st11 ?_
  refine zan 52 X11 hx (D d26_51) rfl rfl ?_
  refine zin 53 X11 hx (D d26_52) rfl ?_
  refine zii 56 #[rv sb, .val (.int ((((c2 + (1 : Int32)) + (1 : Int32)) + (1 : Int32)) + (1 : Int32))), rv tt2] X11 hx (D d26_53) rfl ?_
  refine zbp 58 108 X11 hx (D d26_56) ?_
  obtain ⟨cl12, Ar12, q12, S12, Nx12, H12, G12⟩ := Arv.pad V_tt2_11 (pad_rep (lput (lput (lput xs (c2).toNatClampNeg (.int (110 : Int32)) (.int (0 : Int32))) ((c2 + (1 : Int32))).toNatClampNeg (.int (117 : Int32)) (.int (0 : Int32))) (((c2 + (1 : Int32)) + (1 : Int32))).toNatClampNeg (.int (108 : Int32)) (.int (0 : Int32))) (.int (0 : Int32)) (((((c2 + (1 : Int32)) + (1 : Int32)) + (1 : Int32))).toNatClampNeg + 1))
  have hin12 : ¬ ((((c2 + (1 : Int32)) + (1 : Int32)) + (1 : Int32)) < 0 ∨ cl12.slots.size ≤ ((((c2 + (1 : Int32)) + (1 : Int32)) + (1 : Int32))).toNatClampNeg) := inb_of S12 ⟨(own_j4 lc cap bd ra2).2.2.2.1, (own_j4 lc cap bd ra2).2.2.2.2⟩
  obtain ⟨T13, h13, X13, e13, W13, st13⟩ := stB X11 hx hZ e11 Ar12 (j := (((c2 + (1 : Int32)) + (1 : Int32)) + (1 : Int32))) hin12 (g := (mkF m 58 #[rv sb, .val (.int ((((c2 + (1 : Int32)) + (1 : Int32)) + (1 : Int32)) + (1 : Int32))), rv tt2] [(.int 108), (.int (((c2 + (1 : Int32)) + (1 : Int32)) + (1 : Int32))), (.ref tt2)])) rfl rfl (D d26_58)
  have V_tt2_13 : Arv Z h13 tt2 kt2 .byte NN2 (lput (lput (lput (lput xs (c2).toNatClampNeg (.int (110 : Int32)) (.int (0 : Int32))) ((c2 + (1 : Int32))).toNatClampNeg (.int (117 : Int32)) (.int (0 : Int32))) (((c2 + (1 : Int32)) + (1 : Int32))).toNatClampNeg (.int (108 : Int32)) (.int (0 : Int32))) ((((c2 + (1 : Int32)) + (1 : Int32)) + (1 : Int32))).toNatClampNeg (.int (108 : Int32)) (.int (0 : Int32))) (.int (0 : Int32)) := Arv.set Ar12 q12 S12 Nx12 H12 G12 (by decide) W13 _ rfl (lput_len _ _ _)
  have N13 := Fr.snoc X13 N11 g_tt2
  have O13 : Old Z n0 h13 := O11.wr W13 g_tt2
  have K13 : Keep h0 h13 [sb, t2] := K11.wr W13 ik_tt2
  refine zst 59 #[rv sb, .val (.int ((((c2 + (1 : Int32)) + (1 : Int32)) + (1 : Int32)) + (1 : Int32))), rv tt2] [] st13 ?_
  refine zgo 76 X13 hx (D d26_59) ?_
  refine zan 77 X13 hx (D d26_76) rfl rfl ?_
  refine zin 78 X13 hx (D d26_77) rfl ?_
  have ft14 := ((((eq2.wr W7).wr W9).wr W11).wr W13)
  have ft15 := ((((nq2.other W7 (Or.inl ne_sb_tt2)).other W9 (Or.inl ne_sb_tt2)).other W11 (Or.inl ne_sb_tt2)).other W13 (Or.inl ne_sb_tt2))
  obtain ⟨T16, h16, X16, e16, W16, st16⟩ := putF X13 hx hZ hown (host := "") (Or.inl (ww hw 78 rfl)) Via.refl e13 ft15 ft14 (Or.inl (ww hw 79 rfl)) (ww hw 39 rfl) (ty := .int) (by decide) rfl rfl (g := (mkF m 78 #[rv sb, .val (.int ((((c2 + (1 : Int32)) + (1 : Int32)) + (1 : Int32)) + (1 : Int32))), rv tt2] [(.int ((((c2 + (1 : Int32)) + (1 : Int32)) + (1 : Int32)) + (1 : Int32))), (.ref sb)])) rfl rfl (D d26_78)
  have N16 := Fr.snoc X16 N13 g_sb
  have O16 : Old Z n0 h16 := O13.wr W16 g_sb
  have K16 : Keep h0 h16 [sb, t2] := K13.wr W16 (Or.inl (List.mem_of_getElem? (i := 0) rfl))
  have Fw16 := ft15.same W16
  refine zst 81 #[rv sb, .val (.int ((((c2 + (1 : Int32)) + (1 : Int32)) + (1 : Int32)) + (1 : Int32))), rv tt2] [] st16 ?_
  refine zan 82 X16 hx (D d26_81) rfl rfl ?_
  refine Go.retV X16 hlk hx (t := (.object "java/lang/AbstractStringBuilder")) hret rfl (Or.inr (Or.inr (Or.inr (Or.inr ⟨rfl, rfl, rfl⟩)))) (D d26_82) e16 ?_ (by decide) (by decide)
  have ft17 := (ft14.wr W16)
  have ft18 := (((((cq2.other W7 (Or.inl ne_sb_tt2)).other W9 (Or.inl ne_sb_tt2)).other W11 (Or.inl ne_sb_tt2)).other W13 (Or.inl ne_sb_tt2)).other W16 (Or.inr (slot_ne (Or.inl (ww hw 55 rfl)) (Or.inl (ww hw 79 rfl)) (by decide) (t := .byte) (t' := .int) (by decide) (by decide))))
  have ft19 := (((((fq2.other W7 (Or.inl ne_sb_tt2)).other W9 (Or.inl ne_sb_tt2)).other W11 (Or.inl ne_sb_tt2)).other W13 (Or.inl ne_sb_tt2)).other W16 (Or.inr (slot_ne (Or.inl (ww hw 53 rfl)) (Or.inl (ww hw 79 rfl)) (by decide) (t := (.array .byte)) (t' := .int) (by decide) (by decide))))
  have ft20 := (((((xq2.wr W7).wr W9).wr W11).wr W13).wr W16)
  have ft21 := (V_tt2_13.other W16 (Ne.symm ne_sb_tt2))
  exact ⟨rfl, N16, K16, ft17, ft18, Fw16, tt2, kt2, NN2, dy_tt2, ft19, ft20, (ft21.pad (own_p4 lc cap)), own_b4 lc cap bd ra2 rc2⟩
theorem d9_4 : decode jdk_68_method_22_code 4 = .ok (.aload_n 0, 1) := by decide +kernel
theorem d9_5 : decode jdk_68_method_22_code 5 = .ok (.invokevirtual 204, 3) := by decide +kernel
theorem pd___Ljava_lang_AbstractStringBuilder_ : parseMethodDescriptor "()Ljava/lang/AbstractStringBuilder;" = some ⟨[], some (.object "java/lang/AbstractStringBuilder")⟩ := by decide +kernel
theorem d9_8 : decode jdk_68_method_22_code 8 = .ok (.areturn, 1) := by decide +kernel
set_option maxRecDepth 65536 in
set_option maxHeartbeats 40000000 in
theorem gaN (l : Launch) (Z : State) (a0 : Array Value) (hw : ∀ d ∈ tables_1, d.before a0 Z = true) (ws : List Jvm.Cond) (sb : Addr) (t2 : Addr) (k2 : ClassId) (Y2 : Int32) (c2 : Int32) (xs : List Value) (wO : Addr) (wT : Addr) (kO : ClassId) (kT : ClassId) (iC : Int32) (vF : Value) (h0 : Heap) (n0 : Nat) (O0 : Old Z n0 h0) (lc : Ln c2 xs) (bd : Bd c2 Y2) (cap : xs.length + 4 ≤ 100) (g_sb : n0 ≤ sb) (g_t2 : n0 ≤ t2) (E_sb : Exa Z h0 sb "java/lang/StringBuilder") (F_sb_coder : Fld Z h0 sb "java/lang/AbstractStringBuilder" "coder" "B" (.int 0)) (F_sb_value : Fld Z h0 sb "java/lang/AbstractStringBuilder" "value" "[B" (.ref t2)) (F_sb_count : Fld Z h0 sb "java/lang/AbstractStringBuilder" "count" "I" (.int c2)) (E_t2 : Exa Z h0 t2 "[B") (V_t2 : Arv Z h0 t2 k2 .byte Y2 xs (.int 0)) (WW : World1 Z wO wT kO kT iC vF) :
    Con l Z mq22 jdk_68_method_22_code 3 (some (.object "java/lang/AbstractStringBuilder")) ws ({ frames := 5, cells := 1, slots := 200, locals := 76 } : Room) #[(.ref sb), .null] h0 (fun v h L => v = some (.ref sb) ∧ Fr n0 L ∧ Keep h0 h [sb, t2] ∧ Exa Z h sb "java/lang/StringBuilder" ∧ Fld Z h sb "java/lang/AbstractStringBuilder" "coder" "B" (.int 0) ∧ Fld Z h sb "java/lang/AbstractStringBuilder" "count" "I" (.int ((((c2 + (1 : Int32)) + (1 : Int32)) + (1 : Int32)) + (1 : Int32))) ∧ ∃ (t : Addr) (kt : ClassId) (N : Int32), (t = t2 ∨ h0.size ≤ t) ∧ Fld Z h sb "java/lang/AbstractStringBuilder" "value" "[B" (.ref t) ∧ Exa Z h t "[B" ∧ Arv Z h t kt .byte N (xs ++ [(.int 110), (.int 117), (.int 108), (.int 108)]) (.int 0) ∧ Bd ((((c2 + (1 : Int32)) + (1 : Int32)) + (1 : Int32)) + (1 : Int32)) N) := by
  refine own_body (plainFor_of_name pn_java_lang_AbstractStringBuilder) ?_
  intro p e s m below meth c s₁ hx hby hml hZ hown hnm hlk hret X0 e0
  have N0 := Fr.nil n0
  have D := @hb _ _ hby
  have K0 : Keep h0 h0 [sb, t2] := Keep.refl _ _
  refine Go.st (T' := s₁) (f' := (mkF m 0 #[rv sb, .val .null, .unset] [])) (fun _ k => castTop (by first | (simp [entryFrame, mkF, argsToLocals, Value.category]; done) | rfl) k) ?_
  have ⟨S_iC, nz_iC, S_vF, r_vF, S_wO, E_wO, S_wT, E_wT, V_wO, V_wT⟩ := WW
  have lt_wO := E_wO.lt
  have lt_wT := E_wT.lt
  have lt_sb := E_sb.lt
  have ne_wO_sb : wO ≠ sb := O0.ne lt_wO g_sb
  have ne_wT_sb : wT ≠ sb := O0.ne lt_wT g_sb
  have lt_t2 := V_t2.lt
  have ne_wO_t2 : wO ≠ t2 := O0.ne lt_wO g_t2
  have ne_wT_t2 : wT ≠ t2 := O0.ne lt_wT g_t2
  have nt_sb_t2 : sb ≠ t2 := Exa.neArv E_sb V_t2 (ww hw 39 rfl)
  refine zan 1 X0 hx (D d9_0) rfl rfl ?_
  refine Go.st (f' := (mkF m 4 #[rv sb, .val .null, .unset] [])) (fun _ k => XS.ifnonnullNo X0.here hx rfl (D d9_1) rfl k) ?_
  refine zan 5 X0 hx (D d9_4) rfl rfl ?_
  obtain ⟨cq1, q1, q1'⟩ := E_sb.cell
  obtain ⟨_, _, ⟨T1, L1, kk1, nn1⟩, -, X1, ⟨Lc1, hQ1, lq1, yq1, zz1⟩, st1⟩ := X0.privateBack hx (y := mq24) hown (mvT hZ (ww hw 151 rfl)) (mvT hZ (ww hw 152 rfl)) (own_selp (mvT hZ (ww hw 154 rfl)) (Cond.privateMethod_at (mvP hZ (ww hw 153 rfl) (args := #[]))) (mvT hZ (ww hw 152 rfl)) (by decide)) (Cond.privateMethod_at (mvP hZ (ww hw 153 rfl) (args := #[]))) (mvT hZ (ww hw 155 rfl)) (by decide) (own_back (W := 0) (gan l Z a0 hw [] sb t2 k2 Y2 c2 xs wO wT kO kT iC vF h0 n0 O0 lc bd cap g_sb g_t2 E_sb F_sb_coder F_sb_value F_sb_count E_t2 V_t2 WW) hZ (ww hw 155 rfl) (ww hw 48 rfl) (by decide) (by decide)) (g := (mkF m 5 #[rv sb, .val .null, .unset] [(.ref sb)])) rfl (by rw [hml]; rfl) (Steps.refl _) (a := sb) (by rw [e0]; exact q1) q1' (argsL := []) (rest := []) (lenOf pd___Ljava_lang_AbstractStringBuilder_ rfl) rfl (by show 2 * 0 + _ ≤ _; exact Nat.le_of_eq rfl) (D d9_5) (fun _ _ => ⟨rfl, e0, (by decide : 0 + 1 ≤ _), (by decide : 0 + 200 ≤ _)⟩)
  dsimp only [Pt.U, Pt.locs, Pt.cells, Pt.slots] at X1 lq1 yq1 zz1 st1 hQ1
  subst lq1 yq1 zz1
  obtain ⟨rfl, Nq1, kq1, eq1, cq1, nq1, tt1, kt1, NN1, dz1, fq1, xq1, vq1, bd1⟩ := hQ1
  have N1 := Fr.app N0 Nq1
  have ne_sb_tt1 : sb ≠ tt1 := own_dn dz1 nt_sb_t2 lt_sb
  have ne_wO_tt1 : wO ≠ tt1 := own_dn dz1 ne_wO_t2 (Nat.lt_of_lt_of_le lt_wO O0.2.1)
  have ne_wT_tt1 : wT ≠ tt1 := own_dn dz1 ne_wT_t2 (Nat.lt_of_lt_of_le lt_wT O0.2.1)
  have g_tt1 : n0 ≤ tt1 := own_dt dz1 g_t2 (O0.1 ▸ O0.2.1)
  have ik_tt1 : tt1 ∈ [sb, t2] ∨ h0.size ≤ tt1 := own_ik dz1 K0.1
  have dy_tt1 := own_dz dz1 K0.1
  have O1 : Old Z n0 T1.heap := O0.keep kq1 (allS g_sb (allS g_t2 all0))
  have K1 : Keep h0 T1.heap [sb, t2] := K0.trans kq1 (allS (Or.inl (List.mem_of_getElem? (i := 0) rfl)) (allS (Or.inl (List.mem_of_getElem? (i := 1) rfl)) all0))
  have lt_tt1 := vq1.lt
  have ln1 := own_l4 lc cap
  refine Go.tr (f' := (mkF m 8 #[rv sb, .val .null, .unset] [(.ref sb)])) st1 ?_
  refine Go.retV X1 hlk hx (t := (.object "java/lang/AbstractStringBuilder")) hret rfl (Or.inr (Or.inr (Or.inr (Or.inr ⟨rfl, rfl, rfl⟩)))) (D d9_8) rfl ?_ (by decide) (by decide)
  exact ⟨rfl, N1, K1, eq1, cq1, nq1, tt1, kt1, NN1, dy_tt1, fq1, xq1, vq1, bd1⟩
set_option maxRecDepth 65536 in
set_option maxHeartbeats 40000000 in
theorem gbN (l : Launch) (Z : State) (a0 : Array Value) (hw : ∀ d ∈ tables_1, d.before a0 Z = true) (ws : List Jvm.Cond) (sb : Addr) (t2 : Addr) (k2 : ClassId) (Y2 : Int32) (c2 : Int32) (xs : List Value) (wO : Addr) (wT : Addr) (kO : ClassId) (kT : ClassId) (iC : Int32) (vF : Value) (h0 : Heap) (n0 : Nat) (O0 : Old Z n0 h0) (lc : Ln c2 xs) (bd : Bd c2 Y2) (cap : xs.length + 4 ≤ 100) (g_sb : n0 ≤ sb) (g_t2 : n0 ≤ t2) (E_sb : Exa Z h0 sb "java/lang/StringBuilder") (F_sb_coder : Fld Z h0 sb "java/lang/AbstractStringBuilder" "coder" "B" (.int 0)) (F_sb_value : Fld Z h0 sb "java/lang/AbstractStringBuilder" "value" "[B" (.ref t2)) (F_sb_count : Fld Z h0 sb "java/lang/AbstractStringBuilder" "count" "I" (.int c2)) (E_t2 : Exa Z h0 t2 "[B") (V_t2 : Arv Z h0 t2 k2 .byte Y2 xs (.int 0)) (WW : World1 Z wO wT kO kT iC vF) :
    Con l Z mq23 jdk_67_method_7_code 2 (some (.object "java/lang/StringBuilder")) ws ({ frames := 6, cells := 1, slots := 200, locals := 90 } : Room) #[(.ref sb), .null] h0 (fun v h L => v = some (.ref sb) ∧ Fr n0 L ∧ Keep h0 h [sb, t2] ∧ Exa Z h sb "java/lang/StringBuilder" ∧ Fld Z h sb "java/lang/AbstractStringBuilder" "coder" "B" (.int 0) ∧ Fld Z h sb "java/lang/AbstractStringBuilder" "count" "I" (.int ((((c2 + (1 : Int32)) + (1 : Int32)) + (1 : Int32)) + (1 : Int32))) ∧ ∃ (t : Addr) (kt : ClassId) (N : Int32), (t = t2 ∨ h0.size ≤ t) ∧ Fld Z h sb "java/lang/AbstractStringBuilder" "value" "[B" (.ref t) ∧ Exa Z h t "[B" ∧ Arv Z h t kt .byte N (xs ++ [(.int 110), (.int 117), (.int 108), (.int 108)]) (.int 0) ∧ Bd ((((c2 + (1 : Int32)) + (1 : Int32)) + (1 : Int32)) + (1 : Int32)) N) := by
  refine own_body (plainFor_of_name pn_java_lang_StringBuilder) ?_
  intro p e s m below meth c s₁ hx hby hml hZ hown hnm hlk hret X0 e0
  have N0 := Fr.nil n0
  have D := @hb _ _ hby
  have K0 : Keep h0 h0 [sb, t2] := Keep.refl _ _
  refine Go.st (T' := s₁) (f' := (mkF m 0 #[rv sb, .val .null] [])) (fun _ k => castTop (by first | (simp [entryFrame, mkF, argsToLocals, Value.category]; done) | rfl) k) ?_
  have ⟨S_iC, nz_iC, S_vF, r_vF, S_wO, E_wO, S_wT, E_wT, V_wO, V_wT⟩ := WW
  have lt_wO := E_wO.lt
  have lt_wT := E_wT.lt
  have lt_sb := E_sb.lt
  have ne_wO_sb : wO ≠ sb := O0.ne lt_wO g_sb
  have ne_wT_sb : wT ≠ sb := O0.ne lt_wT g_sb
  have lt_t2 := V_t2.lt
  have ne_wO_t2 : wO ≠ t2 := O0.ne lt_wO g_t2
  have ne_wT_t2 : wT ≠ t2 := O0.ne lt_wT g_t2
  have nt_sb_t2 : sb ≠ t2 := Exa.neArv E_sb V_t2 (ww hw 39 rfl)
  refine zan 1 X0 hx (D d8_0) rfl rfl ?_
  refine zan 2 X0 hx (D d8_1) rfl rfl ?_
  obtain ⟨_, _, ⟨T1, L1, kk1, nn1⟩, -, X1, ⟨Lc1, hQ1, lq1, yq1, zz1⟩, st1⟩ := superBack X0 hx hZ (y := mq22) hown (ww hw 62 rfl) (own_same (ww hw 83 rfl) (ww hw 63 rfl) rfl (by decide)) (ww hw 63 rfl) (ww hw 64 rfl) (by decide) (own_back (W := 0) (gaN l Z a0 hw [] sb t2 k2 Y2 c2 xs wO wT kO kT iC vF h0 n0 O0 lc bd cap g_sb g_t2 E_sb F_sb_coder F_sb_value F_sb_count E_t2 V_t2 WW) hZ (ww hw 66 rfl) (ww hw 48 rfl) (by decide) (by decide)) e0 (Ins.self E_sb) (g := (mkF m 2 #[rv sb, .val .null] [.null, (.ref sb)])) rfl (by rw [hml]; rfl) (ww hw 66 rfl) (argsL := [.null]) (rest := []) (lenOf pd__Ljava_lang_String__Ljava_lang_AbstractStringBuilder_ rfl) rfl (by show 2 * 0 + _ ≤ _; exact Nat.le_of_eq rfl) (D d8_2) (fun _ _ => ⟨rfl, e0, (by decide : 0 + 1 ≤ _), (by decide : 0 + 200 ≤ _)⟩)
  dsimp only [Pt.U, Pt.locs, Pt.cells, Pt.slots] at X1 lq1 yq1 zz1 st1 hQ1
  subst lq1 yq1 zz1
  obtain ⟨rfl, Nq1, kq1, eq1, cq1, nq1, tt1, kt1, NN1, dz1, fq1, xq1, vq1, bd1⟩ := hQ1
  have N1 := Fr.app N0 Nq1
  have ne_sb_tt1 : sb ≠ tt1 := own_dn dz1 nt_sb_t2 lt_sb
  have ne_wO_tt1 : wO ≠ tt1 := own_dn dz1 ne_wO_t2 (Nat.lt_of_lt_of_le lt_wO O0.2.1)
  have ne_wT_tt1 : wT ≠ tt1 := own_dn dz1 ne_wT_t2 (Nat.lt_of_lt_of_le lt_wT O0.2.1)
  have g_tt1 : n0 ≤ tt1 := own_dt dz1 g_t2 (O0.1 ▸ O0.2.1)
  have ik_tt1 : tt1 ∈ [sb, t2] ∨ h0.size ≤ tt1 := own_ik dz1 K0.1
  have dy_tt1 := own_dz dz1 K0.1
  have O1 : Old Z n0 T1.heap := O0.keep kq1 (allS g_sb (allS g_t2 all0))
  have K1 : Keep h0 T1.heap [sb, t2] := K0.trans kq1 (allS (Or.inl (List.mem_of_getElem? (i := 0) rfl)) (allS (Or.inl (List.mem_of_getElem? (i := 1) rfl)) all0))
  have lt_tt1 := vq1.lt
  have ln1 := own_l4 lc cap
  refine Go.tr (f' := (mkF m 5 #[rv sb, .val .null] [(.ref sb)])) st1 ?_
  refine Go.st (f' := (mkF m 6 #[rv sb, .val .null] [])) (fun _ k => XS.pop X1.here hx rfl (D d8_5) rfl rfl k) ?_
  refine zan 7 X1 hx (D d8_6) rfl rfl ?_
  refine Go.retV X1 hlk hx (t := (.object "java/lang/StringBuilder")) hret rfl (Or.inr (Or.inr (Or.inr (Or.inr ⟨rfl, rfl, rfl⟩)))) (D d8_7) rfl ?_ (by decide) (by decide)
  exact ⟨rfl, N1, K1, eq1, cq1, nq1, tt1, kt1, NN1, dy_tt1, fq1, xq1, vq1, bd1⟩
/-- a number without its sign; its digits; its text -/
def nAbs (x : Int32) : Nat := x.toInt.natAbs
def dgv (n j : Nat) : Value := .int (Int32.ofNat (48 + n / 10 ^ j % 10))
def dgs (n : Nat) : Nat := Jvm.Free.SBG.digits n
theorem dgs_d (n : Nat) : dgs n = Jvm.Free.SBG.digits n := rfl
def dsL (x : Int32) : List Value := (if x < 0 then [Value.int (45 : Int32)] else []) ++ (List.range (dgs (nAbs x))).map (fun i => dgv (nAbs x) (dgs (nAbs x) - 1 - i))
theorem dsL_len (x : Int32) : (dsL x).length = dgs (nAbs x) + (if x < 0 then 1 else 0) := by
  unfold dsL; rw [List.length_append, List.length_map, List.length_range]; split <;> simp <;> omega
theorem nAbs_le (x : Int32) : nAbs x ≤ 2 ^ 31 := by have r := rng32 x; unfold nAbs; omega
theorem dgk1 {n : Nat} (h : n < 10) : dgs n = 1 := by
  rw [dgs_d]; unfold Jvm.Free.SBG.digits
  rw [if_pos h]
theorem dgk2 {n : Nat} (l : 10 ≤ n) (h : n < 100) : dgs n = 2 := by
  rw [dgs_d]; unfold Jvm.Free.SBG.digits
  rw [if_neg (by omega), if_pos h]
theorem dgk3 {n : Nat} (l : 100 ≤ n) (h : n < 1000) : dgs n = 3 := by
  rw [dgs_d]; unfold Jvm.Free.SBG.digits
  rw [if_neg (by omega), if_neg (by omega), if_pos h]
theorem dgk4 {n : Nat} (l : 1000 ≤ n) (h : n < 10000) : dgs n = 4 := by
  rw [dgs_d]; unfold Jvm.Free.SBG.digits
  rw [if_neg (by omega), if_neg (by omega), if_neg (by omega), if_pos h]
theorem dgk5 {n : Nat} (l : 10000 ≤ n) (h : n < 100000) : dgs n = 5 := by
  rw [dgs_d]; unfold Jvm.Free.SBG.digits
  rw [if_neg (by omega), if_neg (by omega), if_neg (by omega), if_neg (by omega), if_pos h]
theorem dgk6 {n : Nat} (l : 100000 ≤ n) (h : n < 1000000) : dgs n = 6 := by
  rw [dgs_d]; unfold Jvm.Free.SBG.digits
  rw [if_neg (by omega), if_neg (by omega), if_neg (by omega), if_neg (by omega), if_neg (by omega), if_pos h]
theorem dgk7 {n : Nat} (l : 1000000 ≤ n) (h : n < 10000000) : dgs n = 7 := by
  rw [dgs_d]; unfold Jvm.Free.SBG.digits
  rw [if_neg (by omega), if_neg (by omega), if_neg (by omega), if_neg (by omega), if_neg (by omega), if_neg (by omega), if_pos h]
theorem dgk8 {n : Nat} (l : 10000000 ≤ n) (h : n < 100000000) : dgs n = 8 := by
  rw [dgs_d]; unfold Jvm.Free.SBG.digits
  rw [if_neg (by omega), if_neg (by omega), if_neg (by omega), if_neg (by omega), if_neg (by omega), if_neg (by omega), if_neg (by omega), if_pos h]
theorem dgk9 {n : Nat} (l : 100000000 ≤ n) (h : n < 1000000000) : dgs n = 9 := by
  rw [dgs_d]; unfold Jvm.Free.SBG.digits
  rw [if_neg (by omega), if_neg (by omega), if_neg (by omega), if_neg (by omega), if_neg (by omega), if_neg (by omega), if_neg (by omega), if_neg (by omega), if_pos h]
theorem dgk10 {n : Nat} (l : 1000000000 ≤ n) : dgs n = 10 := by
  rw [dgs_d]; unfold Jvm.Free.SBG.digits
  rw [if_neg (by omega), if_neg (by omega), if_neg (by omega), if_neg (by omega), if_neg (by omega), if_neg (by omega), if_neg (by omega), if_neg (by omega), if_neg (by omega)]
theorem dgs_of {n k : Nat} (h1 : 1 ≤ k) (h10 : k ≤ 10) (lo : k = 1 ∨ 10 ^ (k - 1) ≤ n) (hi : k = 10 ∨ n < 10 ^ k) : dgs n = k := by
  have c : k = 1 ∨ k = 2 ∨ k = 3 ∨ k = 4 ∨ k = 5 ∨ k = 6 ∨ k = 7 ∨ k = 8 ∨ k = 9 ∨ k = 10 := by omega
  rcases c with rfl | rfl | rfl | rfl | rfl | rfl | rfl | rfl | rfl | rfl
  · exact dgk1 (hi.elim (fun h => absurd h (by decide)) (fun h => by rw [show (10 : Nat) ^ 1 = 10 from by decide] at h; exact h))
  · exact dgk2 (lo.elim (fun h => absurd h (by decide)) (fun h => by rw [show (10 : Nat) ^ (2 - 1) = 10 from by decide] at h; exact h)) (hi.elim (fun h => absurd h (by decide)) (fun h => by rw [show (10 : Nat) ^ 2 = 100 from by decide] at h; exact h))
  · exact dgk3 (lo.elim (fun h => absurd h (by decide)) (fun h => by rw [show (10 : Nat) ^ (3 - 1) = 100 from by decide] at h; exact h)) (hi.elim (fun h => absurd h (by decide)) (fun h => by rw [show (10 : Nat) ^ 3 = 1000 from by decide] at h; exact h))
  · exact dgk4 (lo.elim (fun h => absurd h (by decide)) (fun h => by rw [show (10 : Nat) ^ (4 - 1) = 1000 from by decide] at h; exact h)) (hi.elim (fun h => absurd h (by decide)) (fun h => by rw [show (10 : Nat) ^ 4 = 10000 from by decide] at h; exact h))
  · exact dgk5 (lo.elim (fun h => absurd h (by decide)) (fun h => by rw [show (10 : Nat) ^ (5 - 1) = 10000 from by decide] at h; exact h)) (hi.elim (fun h => absurd h (by decide)) (fun h => by rw [show (10 : Nat) ^ 5 = 100000 from by decide] at h; exact h))
  · exact dgk6 (lo.elim (fun h => absurd h (by decide)) (fun h => by rw [show (10 : Nat) ^ (6 - 1) = 100000 from by decide] at h; exact h)) (hi.elim (fun h => absurd h (by decide)) (fun h => by rw [show (10 : Nat) ^ 6 = 1000000 from by decide] at h; exact h))
  · exact dgk7 (lo.elim (fun h => absurd h (by decide)) (fun h => by rw [show (10 : Nat) ^ (7 - 1) = 1000000 from by decide] at h; exact h)) (hi.elim (fun h => absurd h (by decide)) (fun h => by rw [show (10 : Nat) ^ 7 = 10000000 from by decide] at h; exact h))
  · exact dgk8 (lo.elim (fun h => absurd h (by decide)) (fun h => by rw [show (10 : Nat) ^ (8 - 1) = 10000000 from by decide] at h; exact h)) (hi.elim (fun h => absurd h (by decide)) (fun h => by rw [show (10 : Nat) ^ 8 = 100000000 from by decide] at h; exact h))
  · exact dgk9 (lo.elim (fun h => absurd h (by decide)) (fun h => by rw [show (10 : Nat) ^ (9 - 1) = 100000000 from by decide] at h; exact h)) (hi.elim (fun h => absurd h (by decide)) (fun h => by rw [show (10 : Nat) ^ 9 = 1000000000 from by decide] at h; exact h))
  · exact dgk10 (lo.elim (fun h => absurd h (by decide)) (fun h => by rw [show (10 : Nat) ^ (10 - 1) = 1000000000 from by decide] at h; exact h))
theorem dgs_b (n : Nat) : 1 ≤ dgs n ∧ dgs n ≤ 10 := by rw [dgs_d]; exact Jvm.Free.SBG.digits_pos n
theorem dsL_b (x : Int32) : (dsL x).length ≤ 11 := by rw [dsL_len]; have := dgs_b (nAbs x); split <;> omega
theorem own_cd {xs : List Value} {x : Int32} (h : xs.length ≤ 88) : xs.length + (dsL x).length ≤ 100 := by have := dsL_b x; omega
theorem own_szN {x r : Int32} (k : Nat) (hx : x < 0) (h1 : 1 ≤ k) (h10 : k ≤ 10) (lo : k = 1 ∨ x.toInt ≤ -((10 ^ (k - 1) : Nat) : Int)) (hi : k = 10 ∨ -((10 ^ k : Nat) : Int) < x.toInt) (hr : r.toInt = (k : Int) + 1) : Ln r (dsL x) := by
  have hn : (nAbs x : Int) = -x.toInt := by
    have hx' := hx; rw [Int32.lt_iff_toInt_lt] at hx'; have e0 : (0 : Int32).toInt = 0 := by decide
    unfold nAbs; omega
  have e := dgs_of (n := nAbs x) h1 h10 (lo.imp id (fun h => by omega)) (hi.imp id (fun h => by omega))
  refine ⟨by omega, ?_⟩
  rw [dsL_len, e, if_pos hx, hr]; omega
theorem own_neg {x : Int32} (hx : ¬ x < 0) : (-x).toInt = -x.toInt ∧ 0 ≤ x.toInt := by
  have e0 : (0 : Int32).toInt = 0 := by decide
  rw [Int32.lt_iff_toInt_lt] at hx
  have e : -x = 0 - x := by rw [Int32.sub_eq_add_neg, Int32.zero_add]
  have q := c_isub 0 x
  have r := rng32 (0 - x)
  have r2 := rng32 x
  rw [e]; omega
theorem own_szP {x r : Int32} (k : Nat) (hx : ¬ x < 0) (h1 : 1 ≤ k) (h10 : k ≤ 10) (lo : k = 1 ∨ (-x).toInt ≤ -((10 ^ (k - 1) : Nat) : Int)) (hi : k = 10 ∨ -((10 ^ k : Nat) : Int) < (-x).toInt) (hr : r.toInt = (k : Int)) : Ln r (dsL x) := by
  have q := own_neg hx
  have hn : (nAbs x : Int) = x.toInt := by unfold nAbs; omega
  have e := dgs_of (n := nAbs x) h1 h10 (lo.imp id (fun h => by omega)) (hi.imp id (fun h => by omega))
  refine ⟨by omega, ?_⟩
  rw [dsL_len, e, if_neg hx, hr]; rfl
theorem own_ge {c x : Int32} {m : Int} (h : ¬ c < x) (e : c.toInt = m) : x.toInt ≤ m := by rw [Int32.lt_iff_toInt_lt] at h; omega
theorem own_gt {c x : Int32} {m : Int} (h : c < x) (e : c.toInt = m) : m < x.toInt := by rw [Int32.lt_iff_toInt_lt] at h; omega

theorem pn_java_lang_Integer : plainName "java/lang/Integer" = true := by first | (simp [plainName, overriddenIn]; done) | decide +kernel
theorem d18_0 : decode jdk_33_method_13_code 0 = .ok (.iconst 1, 1) := by decide +kernel
theorem d18_1 : decode jdk_33_method_13_code 1 = .ok (.istore_n 1, 1) := by decide +kernel
theorem d18_2 : decode jdk_33_method_13_code 2 = .ok (.iload_n 0, 1) := by decide +kernel
theorem d18_3 : decode jdk_33_method_13_code 3 = .ok (.ifCond .lt 8, 3) := by decide +kernel
theorem d18_11 : decode jdk_33_method_13_code 11 = .ok (.bipush (-10), 2) := by decide +kernel
theorem d18_13 : decode jdk_33_method_13_code 13 = .ok (.istore_n 2, 1) := by decide +kernel
theorem d18_14 : decode jdk_33_method_13_code 14 = .ok (.iconst 1, 1) := by decide +kernel
theorem d18_15 : decode jdk_33_method_13_code 15 = .ok (.istore_n 3, 1) := by decide +kernel
theorem d18_16 : decode jdk_33_method_13_code 16 = .ok (.iload_n 3, 1) := by decide +kernel
theorem d18_17 : decode jdk_33_method_13_code 17 = .ok (.bipush 10, 2) := by decide +kernel
theorem d18_19 : decode jdk_33_method_13_code 19 = .ok (.if_icmp .ge 23, 3) := by decide +kernel
theorem d18_22 : decode jdk_33_method_13_code 22 = .ok (.iload_n 0, 1) := by decide +kernel
theorem d18_23 : decode jdk_33_method_13_code 23 = .ok (.iload_n 2, 1) := by decide +kernel
theorem d18_24 : decode jdk_33_method_13_code 24 = .ok (.if_icmp .le 7, 3) := by decide +kernel
theorem d18_27 : decode jdk_33_method_13_code 27 = .ok (.iload_n 3, 1) := by decide +kernel
theorem d18_28 : decode jdk_33_method_13_code 28 = .ok (.iload_n 1, 1) := by decide +kernel
theorem d18_29 : decode jdk_33_method_13_code 29 = .ok (.iadd, 1) := by decide +kernel
theorem d18_30 : decode jdk_33_method_13_code 30 = .ok (.ireturn, 1) := by decide +kernel
theorem d18_31 : decode jdk_33_method_13_code 31 = .ok (.bipush 10, 2) := by decide +kernel
theorem d18_33 : decode jdk_33_method_13_code 33 = .ok (.iload_n 2, 1) := by decide +kernel
theorem d18_34 : decode jdk_33_method_13_code 34 = .ok (.imul, 1) := by decide +kernel
theorem d18_35 : decode jdk_33_method_13_code 35 = .ok (.istore_n 2, 1) := by decide +kernel
theorem d18_36 : decode jdk_33_method_13_code 36 = .ok (.iinc 3 1, 3) := by decide +kernel
theorem d18_39 : decode jdk_33_method_13_code 39 = .ok (.goto (-23), 3) := by decide +kernel
theorem d18_42 : decode jdk_33_method_13_code 42 = .ok (.bipush 10, 2) := by decide +kernel
theorem d18_44 : decode jdk_33_method_13_code 44 = .ok (.iload_n 1, 1) := by decide +kernel
theorem d18_45 : decode jdk_33_method_13_code 45 = .ok (.iadd, 1) := by decide +kernel
theorem d18_46 : decode jdk_33_method_13_code 46 = .ok (.ireturn, 1) := by decide +kernel
theorem d18_6 : decode jdk_33_method_13_code 6 = .ok (.iconst 0, 1) := by decide +kernel
theorem d18_7 : decode jdk_33_method_13_code 7 = .ok (.istore_n 1, 1) := by decide +kernel
theorem d18_8 : decode jdk_33_method_13_code 8 = .ok (.iload_n 0, 1) := by decide +kernel
theorem d18_9 : decode jdk_33_method_13_code 9 = .ok (.ineg, 1) := by decide +kernel
theorem d18_10 : decode jdk_33_method_13_code 10 = .ok (.istore_n 0, 1) := by decide +kernel
set_option maxRecDepth 65536 in
set_option maxHeartbeats 40000000 in
theorem gss (l : Launch) (Z : State) (a0 : Array Value) (hw : ∀ d ∈ tables_1, d.before a0 Z = true) (ws : List Jvm.Cond) (x : Int32) (h0 : Heap) (n0 : Nat) (O0 : Old Z n0 h0)  :
    Con l Z mq25 jdk_33_method_13_code 4 (some .int) ws ({ frames := 0, cells := 0, slots := 0, locals := 0 } : Room) #[(.int x)] h0 (fun v h L => ∃ r : Int32, v = some (.int r) ∧ Fr n0 L ∧ h = h0 ∧ Ln r (dsL x)) := by
  refine own_body (plainFor_of_name pn_java_lang_Integer) ?_
  intro p e s m below meth c s₁ hx hby hml hZ hown hnm hlk hret X0 e0
  have N0 := Fr.nil n0
  have D := @hb _ _ hby
  refine Go.st (T' := s₁) (f' := (mkF m 0 #[iv x, .unset, .unset, .unset] [])) (fun _ k => castTop (by first | (simp [entryFrame, mkF, argsToLocals, Value.category]; done) | rfl) k) ?_
  refine zic 1 1 X0 hx (D d18_0) ?_
  refine zsn 2 #[iv x, iv 1, .unset, .unset] X0 hx (D d18_1) ?_
  refine zin 3 X0 hx (D d18_2) rfl ?_
  by_cases cd1 : x < (0 : Int32)
  · refine zfy 11 X0 hx (D d18_3) ((if0 _ _).trans (tlt cd1).1) ?_
    refine zbp 13 (-10) X0 hx (D d18_11) ?_
    refine zsn 14 #[iv x, iv 1, .val (.int (-10)), .unset] X0 hx (D d18_13) ?_
    refine zic 15 1 X0 hx (D d18_14) ?_
    refine zsn 16 #[iv x, iv 1, .val (.int (-10)), iv 1] X0 hx (D d18_15) ?_
    refine zin 17 X0 hx (D d18_16) rfl ?_
    refine zbp 19 10 X0 hx (D d18_17) ?_
    refine zcn 22 X0 hx (D d18_19) (by decide) ?_
    refine zin 23 X0 hx (D d18_22) rfl ?_
    refine zin 24 X0 hx (D d18_23) rfl ?_
    by_cases cd2 : (-10 : Int32) < x
    · refine zcn 27 X0 hx (D d18_24) (tlt cd2).2.2.2 ?_
      refine zin 28 X0 hx (D d18_27) rfl ?_
      refine zin 29 X0 hx (D d18_28) rfl ?_
      refine Go.st (f' := (mkF m 30 #[iv x, iv 1, .val (.int (-10)), iv 1] [(.int 2)])) (fun _ k => XS.iadd X0.here hx rfl (D d18_29) rfl k) ?_
      refine Go.retV X0 hlk hx (t := .int) hret rfl (Or.inl ⟨rfl, Or.inl rfl, _, rfl⟩) (D d18_30) e0 ?_ (by decide) (by decide)
      exact ⟨_, rfl, N0, rfl, own_szN 1 cd1 (by decide) (by decide) (Or.inl rfl) (Or.inr (own_gt cd2 (by decide))) (by decide)⟩
    · refine zcy 31 X0 hx (D d18_24) (flt cd2).2.2.2 ?_
      refine zbp 33 10 X0 hx (D d18_31) ?_
      refine zin 34 X0 hx (D d18_33) rfl ?_
      refine Go.st (f' := (mkF m 35 #[iv x, iv 1, .val (.int (-10)), iv 1] [(.int (-100))])) (fun _ k => XS.imul X0.here hx rfl (D d18_34) rfl k) ?_
      refine zsn 36 #[iv x, iv 1, .val (.int (-100)), iv 1] X0 hx (D d18_35) ?_
      refine zii 39 #[iv x, iv 1, .val (.int (-100)), iv 2] X0 hx (D d18_36) rfl ?_
      refine zgo 16 X0 hx (D d18_39) ?_
      refine zin 17 X0 hx (D d18_16) rfl ?_
      refine zbp 19 10 X0 hx (D d18_17) ?_
      refine zcn 22 X0 hx (D d18_19) (by decide) ?_
      refine zin 23 X0 hx (D d18_22) rfl ?_
      refine zin 24 X0 hx (D d18_23) rfl ?_
      by_cases cd3 : (-100 : Int32) < x
      · refine zcn 27 X0 hx (D d18_24) (tlt cd3).2.2.2 ?_
        refine zin 28 X0 hx (D d18_27) rfl ?_
        refine zin 29 X0 hx (D d18_28) rfl ?_
        refine Go.st (f' := (mkF m 30 #[iv x, iv 1, .val (.int (-100)), iv 2] [(.int 3)])) (fun _ k => XS.iadd X0.here hx rfl (D d18_29) rfl k) ?_
        refine Go.retV X0 hlk hx (t := .int) hret rfl (Or.inl ⟨rfl, Or.inl rfl, _, rfl⟩) (D d18_30) e0 ?_ (by decide) (by decide)
        exact ⟨_, rfl, N0, rfl, own_szN 2 cd1 (by decide) (by decide) (Or.inr (own_ge cd2 (by decide))) (Or.inr (own_gt cd3 (by decide))) (by decide)⟩
      · refine zcy 31 X0 hx (D d18_24) (flt cd3).2.2.2 ?_
        refine zbp 33 10 X0 hx (D d18_31) ?_
        refine zin 34 X0 hx (D d18_33) rfl ?_
        refine Go.st (f' := (mkF m 35 #[iv x, iv 1, .val (.int (-100)), iv 2] [(.int (-1000))])) (fun _ k => XS.imul X0.here hx rfl (D d18_34) rfl k) ?_
        refine zsn 36 #[iv x, iv 1, .val (.int (-1000)), iv 2] X0 hx (D d18_35) ?_
        refine zii 39 #[iv x, iv 1, .val (.int (-1000)), iv 3] X0 hx (D d18_36) rfl ?_
        refine zgo 16 X0 hx (D d18_39) ?_
        refine zin 17 X0 hx (D d18_16) rfl ?_
        refine zbp 19 10 X0 hx (D d18_17) ?_
        refine zcn 22 X0 hx (D d18_19) (by decide) ?_
        refine zin 23 X0 hx (D d18_22) rfl ?_
        refine zin 24 X0 hx (D d18_23) rfl ?_
        by_cases cd4 : (-1000 : Int32) < x
        · refine zcn 27 X0 hx (D d18_24) (tlt cd4).2.2.2 ?_
          refine zin 28 X0 hx (D d18_27) rfl ?_
          refine zin 29 X0 hx (D d18_28) rfl ?_
          refine Go.st (f' := (mkF m 30 #[iv x, iv 1, .val (.int (-1000)), iv 3] [(.int 4)])) (fun _ k => XS.iadd X0.here hx rfl (D d18_29) rfl k) ?_
          refine Go.retV X0 hlk hx (t := .int) hret rfl (Or.inl ⟨rfl, Or.inl rfl, _, rfl⟩) (D d18_30) e0 ?_ (by decide) (by decide)
          exact ⟨_, rfl, N0, rfl, own_szN 3 cd1 (by decide) (by decide) (Or.inr (own_ge cd3 (by decide))) (Or.inr (own_gt cd4 (by decide))) (by decide)⟩
        · refine zcy 31 X0 hx (D d18_24) (flt cd4).2.2.2 ?_
          refine zbp 33 10 X0 hx (D d18_31) ?_
          refine zin 34 X0 hx (D d18_33) rfl ?_
          refine Go.st (f' := (mkF m 35 #[iv x, iv 1, .val (.int (-1000)), iv 3] [(.int (-10000))])) (fun _ k => XS.imul X0.here hx rfl (D d18_34) rfl k) ?_
          refine zsn 36 #[iv x, iv 1, .val (.int (-10000)), iv 3] X0 hx (D d18_35) ?_
          refine zii 39 #[iv x, iv 1, .val (.int (-10000)), iv 4] X0 hx (D d18_36) rfl ?_
          refine zgo 16 X0 hx (D d18_39) ?_
          refine zin 17 X0 hx (D d18_16) rfl ?_
          refine zbp 19 10 X0 hx (D d18_17) ?_
          refine zcn 22 X0 hx (D d18_19) (by decide) ?_
          refine zin 23 X0 hx (D d18_22) rfl ?_
          refine zin 24 X0 hx (D d18_23) rfl ?_
          by_cases cd5 : (-10000 : Int32) < x
          · refine zcn 27 X0 hx (D d18_24) (tlt cd5).2.2.2 ?_
            refine zin 28 X0 hx (D d18_27) rfl ?_
            refine zin 29 X0 hx (D d18_28) rfl ?_
            refine Go.st (f' := (mkF m 30 #[iv x, iv 1, .val (.int (-10000)), iv 4] [(.int 5)])) (fun _ k => XS.iadd X0.here hx rfl (D d18_29) rfl k) ?_
            refine Go.retV X0 hlk hx (t := .int) hret rfl (Or.inl ⟨rfl, Or.inl rfl, _, rfl⟩) (D d18_30) e0 ?_ (by decide) (by decide)
            exact ⟨_, rfl, N0, rfl, own_szN 4 cd1 (by decide) (by decide) (Or.inr (own_ge cd4 (by decide))) (Or.inr (own_gt cd5 (by decide))) (by decide)⟩
          · refine zcy 31 X0 hx (D d18_24) (flt cd5).2.2.2 ?_
            refine zbp 33 10 X0 hx (D d18_31) ?_
            refine zin 34 X0 hx (D d18_33) rfl ?_
            refine Go.st (f' := (mkF m 35 #[iv x, iv 1, .val (.int (-10000)), iv 4] [(.int (-100000))])) (fun _ k => XS.imul X0.here hx rfl (D d18_34) rfl k) ?_
            refine zsn 36 #[iv x, iv 1, .val (.int (-100000)), iv 4] X0 hx (D d18_35) ?_
            refine zii 39 #[iv x, iv 1, .val (.int (-100000)), iv 5] X0 hx (D d18_36) rfl ?_
            refine zgo 16 X0 hx (D d18_39) ?_
            refine zin 17 X0 hx (D d18_16) rfl ?_
            refine zbp 19 10 X0 hx (D d18_17) ?_
            refine zcn 22 X0 hx (D d18_19) (by decide) ?_
            refine zin 23 X0 hx (D d18_22) rfl ?_
            refine zin 24 X0 hx (D d18_23) rfl ?_
            by_cases cd6 : (-100000 : Int32) < x
            · refine zcn 27 X0 hx (D d18_24) (tlt cd6).2.2.2 ?_
              refine zin 28 X0 hx (D d18_27) rfl ?_
              refine zin 29 X0 hx (D d18_28) rfl ?_
              refine Go.st (f' := (mkF m 30 #[iv x, iv 1, .val (.int (-100000)), iv 5] [(.int 6)])) (fun _ k => XS.iadd X0.here hx rfl (D d18_29) rfl k) ?_
              refine Go.retV X0 hlk hx (t := .int) hret rfl (Or.inl ⟨rfl, Or.inl rfl, _, rfl⟩) (D d18_30) e0 ?_ (by decide) (by decide)
              exact ⟨_, rfl, N0, rfl, own_szN 5 cd1 (by decide) (by decide) (Or.inr (own_ge cd5 (by decide))) (Or.inr (own_gt cd6 (by decide))) (by decide)⟩
            · refine zcy 31 X0 hx (D d18_24) (flt cd6).2.2.2 ?_
              refine zbp 33 10 X0 hx (D d18_31) ?_
              refine zin 34 X0 hx (D d18_33) rfl ?_
              refine Go.st (f' := (mkF m 35 #[iv x, iv 1, .val (.int (-100000)), iv 5] [(.int (-1000000))])) (fun _ k => XS.imul X0.here hx rfl (D d18_34) rfl k) ?_
              refine zsn 36 #[iv x, iv 1, .val (.int (-1000000)), iv 5] X0 hx (D d18_35) ?_
              refine zii 39 #[iv x, iv 1, .val (.int (-1000000)), iv 6] X0 hx (D d18_36) rfl ?_
              refine zgo 16 X0 hx (D d18_39) ?_
              refine zin 17 X0 hx (D d18_16) rfl ?_
              refine zbp 19 10 X0 hx (D d18_17) ?_
              refine zcn 22 X0 hx (D d18_19) (by decide) ?_
              refine zin 23 X0 hx (D d18_22) rfl ?_
              refine zin 24 X0 hx (D d18_23) rfl ?_
              by_cases cd7 : (-1000000 : Int32) < x
              · refine zcn 27 X0 hx (D d18_24) (tlt cd7).2.2.2 ?_
                refine zin 28 X0 hx (D d18_27) rfl ?_
                refine zin 29 X0 hx (D d18_28) rfl ?_
                refine Go.st (f' := (mkF m 30 #[iv x, iv 1, .val (.int (-1000000)), iv 6] [(.int 7)])) (fun _ k => XS.iadd X0.here hx rfl (D d18_29) rfl k) ?_
                refine Go.retV X0 hlk hx (t := .int) hret rfl (Or.inl ⟨rfl, Or.inl rfl, _, rfl⟩) (D d18_30) e0 ?_ (by decide) (by decide)
                exact ⟨_, rfl, N0, rfl, own_szN 6 cd1 (by decide) (by decide) (Or.inr (own_ge cd6 (by decide))) (Or.inr (own_gt cd7 (by decide))) (by decide)⟩
              · refine zcy 31 X0 hx (D d18_24) (flt cd7).2.2.2 ?_
                refine zbp 33 10 X0 hx (D d18_31) ?_
                refine zin 34 X0 hx (D d18_33) rfl ?_
                refine Go.st (f' := (mkF m 35 #[iv x, iv 1, .val (.int (-1000000)), iv 6] [(.int (-10000000))])) (fun _ k => XS.imul X0.here hx rfl (D d18_34) rfl k) ?_
                refine zsn 36 #[iv x, iv 1, .val (.int (-10000000)), iv 6] X0 hx (D d18_35) ?_
                refine zii 39 #[iv x, iv 1, .val (.int (-10000000)), iv 7] X0 hx (D d18_36) rfl ?_
                refine zgo 16 X0 hx (D d18_39) ?_
                refine zin 17 X0 hx (D d18_16) rfl ?_
                refine zbp 19 10 X0 hx (D d18_17) ?_
                refine zcn 22 X0 hx (D d18_19) (by decide) ?_
                refine zin 23 X0 hx (D d18_22) rfl ?_
                refine zin 24 X0 hx (D d18_23) rfl ?_
                by_cases cd8 : (-10000000 : Int32) < x
                · refine zcn 27 X0 hx (D d18_24) (tlt cd8).2.2.2 ?_
                  refine zin 28 X0 hx (D d18_27) rfl ?_
                  refine zin 29 X0 hx (D d18_28) rfl ?_
                  refine Go.st (f' := (mkF m 30 #[iv x, iv 1, .val (.int (-10000000)), iv 7] [(.int 8)])) (fun _ k => XS.iadd X0.here hx rfl (D d18_29) rfl k) ?_
                  refine Go.retV X0 hlk hx (t := .int) hret rfl (Or.inl ⟨rfl, Or.inl rfl, _, rfl⟩) (D d18_30) e0 ?_ (by decide) (by decide)
                  exact ⟨_, rfl, N0, rfl, own_szN 7 cd1 (by decide) (by decide) (Or.inr (own_ge cd7 (by decide))) (Or.inr (own_gt cd8 (by decide))) (by decide)⟩
                · refine zcy 31 X0 hx (D d18_24) (flt cd8).2.2.2 ?_
                  refine zbp 33 10 X0 hx (D d18_31) ?_
                  refine zin 34 X0 hx (D d18_33) rfl ?_
                  refine Go.st (f' := (mkF m 35 #[iv x, iv 1, .val (.int (-10000000)), iv 7] [(.int (-100000000))])) (fun _ k => XS.imul X0.here hx rfl (D d18_34) rfl k) ?_
                  refine zsn 36 #[iv x, iv 1, .val (.int (-100000000)), iv 7] X0 hx (D d18_35) ?_
                  refine zii 39 #[iv x, iv 1, .val (.int (-100000000)), iv 8] X0 hx (D d18_36) rfl ?_
                  refine zgo 16 X0 hx (D d18_39) ?_
                  refine zin 17 X0 hx (D d18_16) rfl ?_
                  refine zbp 19 10 X0 hx (D d18_17) ?_
                  refine zcn 22 X0 hx (D d18_19) (by decide) ?_
                  refine zin 23 X0 hx (D d18_22) rfl ?_
                  refine zin 24 X0 hx (D d18_23) rfl ?_
                  by_cases cd9 : (-100000000 : Int32) < x
                  · refine zcn 27 X0 hx (D d18_24) (tlt cd9).2.2.2 ?_
                    refine zin 28 X0 hx (D d18_27) rfl ?_
                    refine zin 29 X0 hx (D d18_28) rfl ?_
                    refine Go.st (f' := (mkF m 30 #[iv x, iv 1, .val (.int (-100000000)), iv 8] [(.int 9)])) (fun _ k => XS.iadd X0.here hx rfl (D d18_29) rfl k) ?_
                    refine Go.retV X0 hlk hx (t := .int) hret rfl (Or.inl ⟨rfl, Or.inl rfl, _, rfl⟩) (D d18_30) e0 ?_ (by decide) (by decide)
                    exact ⟨_, rfl, N0, rfl, own_szN 8 cd1 (by decide) (by decide) (Or.inr (own_ge cd8 (by decide))) (Or.inr (own_gt cd9 (by decide))) (by decide)⟩
                  · refine zcy 31 X0 hx (D d18_24) (flt cd9).2.2.2 ?_
                    refine zbp 33 10 X0 hx (D d18_31) ?_
                    refine zin 34 X0 hx (D d18_33) rfl ?_
                    refine Go.st (f' := (mkF m 35 #[iv x, iv 1, .val (.int (-100000000)), iv 8] [(.int (-1000000000))])) (fun _ k => XS.imul X0.here hx rfl (D d18_34) rfl k) ?_
                    refine zsn 36 #[iv x, iv 1, .val (.int (-1000000000)), iv 8] X0 hx (D d18_35) ?_
                    refine zii 39 #[iv x, iv 1, .val (.int (-1000000000)), iv 9] X0 hx (D d18_36) rfl ?_
                    refine zgo 16 X0 hx (D d18_39) ?_
                    refine zin 17 X0 hx (D d18_16) rfl ?_
                    refine zbp 19 10 X0 hx (D d18_17) ?_
                    refine zcn 22 X0 hx (D d18_19) (by decide) ?_
                    refine zin 23 X0 hx (D d18_22) rfl ?_
                    refine zin 24 X0 hx (D d18_23) rfl ?_
                    by_cases cd10 : (-1000000000 : Int32) < x
                    · refine zcn 27 X0 hx (D d18_24) (tlt cd10).2.2.2 ?_
                      refine zin 28 X0 hx (D d18_27) rfl ?_
                      refine zin 29 X0 hx (D d18_28) rfl ?_
                      refine Go.st (f' := (mkF m 30 #[iv x, iv 1, .val (.int (-1000000000)), iv 9] [(.int 10)])) (fun _ k => XS.iadd X0.here hx rfl (D d18_29) rfl k) ?_
                      refine Go.retV X0 hlk hx (t := .int) hret rfl (Or.inl ⟨rfl, Or.inl rfl, _, rfl⟩) (D d18_30) e0 ?_ (by decide) (by decide)
                      exact ⟨_, rfl, N0, rfl, own_szN 9 cd1 (by decide) (by decide) (Or.inr (own_ge cd9 (by decide))) (Or.inr (own_gt cd10 (by decide))) (by decide)⟩
                    · refine zcy 31 X0 hx (D d18_24) (flt cd10).2.2.2 ?_
                      refine zbp 33 10 X0 hx (D d18_31) ?_
                      refine zin 34 X0 hx (D d18_33) rfl ?_
                      refine Go.st (f' := (mkF m 35 #[iv x, iv 1, .val (.int (-1000000000)), iv 9] [(.int (-1410065408))])) (fun _ k => XS.imul X0.here hx rfl (D d18_34) rfl k) ?_
                      refine zsn 36 #[iv x, iv 1, .val (.int (-1410065408)), iv 9] X0 hx (D d18_35) ?_
                      refine zii 39 #[iv x, iv 1, .val (.int (-1410065408)), iv 10] X0 hx (D d18_36) rfl ?_
                      refine zgo 16 X0 hx (D d18_39) ?_
                      refine zin 17 X0 hx (D d18_16) rfl ?_
                      refine zbp 19 10 X0 hx (D d18_17) ?_
                      refine zcy 42 X0 hx (D d18_19) (by decide) ?_
                      refine zbp 44 10 X0 hx (D d18_42) ?_
                      refine zin 45 X0 hx (D d18_44) rfl ?_
                      refine Go.st (f' := (mkF m 46 #[iv x, iv 1, .val (.int (-1410065408)), iv 10] [(.int 11)])) (fun _ k => XS.iadd X0.here hx rfl (D d18_45) rfl k) ?_
                      refine Go.retV X0 hlk hx (t := .int) hret rfl (Or.inl ⟨rfl, Or.inl rfl, _, rfl⟩) (D d18_46) e0 ?_ (by decide) (by decide)
                      exact ⟨_, rfl, N0, rfl, own_szN 10 cd1 (by decide) (by decide) (Or.inr (own_ge cd10 (by decide))) (Or.inl rfl) (by decide)⟩
  · refine zfn 6 X0 hx (D d18_3) ((if0 _ _).trans (flt cd1).1) ?_
    refine zic 7 0 X0 hx (D d18_6) ?_
    refine zsn 8 #[iv x, iv 0, .unset, .unset] X0 hx (D d18_7) ?_
    refine zin 9 X0 hx (D d18_8) rfl ?_
    refine Go.st (f' := (mkF m 10 #[iv x, iv 0, .unset, .unset] [(.int (-x))])) (fun _ k => XS.ineg X0.here hx rfl (D d18_9) rfl k) ?_
    refine zsn 11 #[.val (.int (-x)), iv 0, .unset, .unset] X0 hx (D d18_10) ?_
    refine zbp 13 (-10) X0 hx (D d18_11) ?_
    refine zsn 14 #[.val (.int (-x)), iv 0, .val (.int (-10)), .unset] X0 hx (D d18_13) ?_
    refine zic 15 1 X0 hx (D d18_14) ?_
    refine zsn 16 #[.val (.int (-x)), iv 0, .val (.int (-10)), iv 1] X0 hx (D d18_15) ?_
    refine zin 17 X0 hx (D d18_16) rfl ?_
    refine zbp 19 10 X0 hx (D d18_17) ?_
    refine zcn 22 X0 hx (D d18_19) (by decide) ?_
    refine zin 23 X0 hx (D d18_22) rfl ?_
    refine zin 24 X0 hx (D d18_23) rfl ?_
    by_cases cd11 : (-10 : Int32) < (-x)
    · refine zcn 27 X0 hx (D d18_24) (tlt cd11).2.2.2 ?_
      refine zin 28 X0 hx (D d18_27) rfl ?_
      refine zin 29 X0 hx (D d18_28) rfl ?_
      refine Go.st (f' := (mkF m 30 #[.val (.int (-x)), iv 0, .val (.int (-10)), iv 1] [(.int 1)])) (fun _ k => XS.iadd X0.here hx rfl (D d18_29) rfl k) ?_
      refine Go.retV X0 hlk hx (t := .int) hret rfl (Or.inl ⟨rfl, Or.inl rfl, _, rfl⟩) (D d18_30) e0 ?_ (by decide) (by decide)
      exact ⟨_, rfl, N0, rfl, own_szP 1 cd1 (by decide) (by decide) (Or.inl rfl) (Or.inr (own_gt cd11 (by decide))) (by decide)⟩
    · refine zcy 31 X0 hx (D d18_24) (flt cd11).2.2.2 ?_
      refine zbp 33 10 X0 hx (D d18_31) ?_
      refine zin 34 X0 hx (D d18_33) rfl ?_
      refine Go.st (f' := (mkF m 35 #[.val (.int (-x)), iv 0, .val (.int (-10)), iv 1] [(.int (-100))])) (fun _ k => XS.imul X0.here hx rfl (D d18_34) rfl k) ?_
      refine zsn 36 #[.val (.int (-x)), iv 0, .val (.int (-100)), iv 1] X0 hx (D d18_35) ?_
      refine zii 39 #[.val (.int (-x)), iv 0, .val (.int (-100)), iv 2] X0 hx (D d18_36) rfl ?_
      refine zgo 16 X0 hx (D d18_39) ?_
      refine zin 17 X0 hx (D d18_16) rfl ?_
      refine zbp 19 10 X0 hx (D d18_17) ?_
      refine zcn 22 X0 hx (D d18_19) (by decide) ?_
      refine zin 23 X0 hx (D d18_22) rfl ?_
      refine zin 24 X0 hx (D d18_23) rfl ?_
      by_cases cd12 : (-100 : Int32) < (-x)
      · refine zcn 27 X0 hx (D d18_24) (tlt cd12).2.2.2 ?_
        refine zin 28 X0 hx (D d18_27) rfl ?_
        refine zin 29 X0 hx (D d18_28) rfl ?_
        refine Go.st (f' := (mkF m 30 #[.val (.int (-x)), iv 0, .val (.int (-100)), iv 2] [(.int 2)])) (fun _ k => XS.iadd X0.here hx rfl (D d18_29) rfl k) ?_
        refine Go.retV X0 hlk hx (t := .int) hret rfl (Or.inl ⟨rfl, Or.inl rfl, _, rfl⟩) (D d18_30) e0 ?_ (by decide) (by decide)
        exact ⟨_, rfl, N0, rfl, own_szP 2 cd1 (by decide) (by decide) (Or.inr (own_ge cd11 (by decide))) (Or.inr (own_gt cd12 (by decide))) (by decide)⟩
      · refine zcy 31 X0 hx (D d18_24) (flt cd12).2.2.2 ?_
        refine zbp 33 10 X0 hx (D d18_31) ?_
        refine zin 34 X0 hx (D d18_33) rfl ?_
        refine Go.st (f' := (mkF m 35 #[.val (.int (-x)), iv 0, .val (.int (-100)), iv 2] [(.int (-1000))])) (fun _ k => XS.imul X0.here hx rfl (D d18_34) rfl k) ?_
        refine zsn 36 #[.val (.int (-x)), iv 0, .val (.int (-1000)), iv 2] X0 hx (D d18_35) ?_
        refine zii 39 #[.val (.int (-x)), iv 0, .val (.int (-1000)), iv 3] X0 hx (D d18_36) rfl ?_
        refine zgo 16 X0 hx (D d18_39) ?_
        refine zin 17 X0 hx (D d18_16) rfl ?_
        refine zbp 19 10 X0 hx (D d18_17) ?_
        refine zcn 22 X0 hx (D d18_19) (by decide) ?_
        refine zin 23 X0 hx (D d18_22) rfl ?_
        refine zin 24 X0 hx (D d18_23) rfl ?_
        by_cases cd13 : (-1000 : Int32) < (-x)
        · refine zcn 27 X0 hx (D d18_24) (tlt cd13).2.2.2 ?_
          refine zin 28 X0 hx (D d18_27) rfl ?_
          refine zin 29 X0 hx (D d18_28) rfl ?_
          refine Go.st (f' := (mkF m 30 #[.val (.int (-x)), iv 0, .val (.int (-1000)), iv 3] [(.int 3)])) (fun _ k => XS.iadd X0.here hx rfl (D d18_29) rfl k) ?_
          refine Go.retV X0 hlk hx (t := .int) hret rfl (Or.inl ⟨rfl, Or.inl rfl, _, rfl⟩) (D d18_30) e0 ?_ (by decide) (by decide)
          exact ⟨_, rfl, N0, rfl, own_szP 3 cd1 (by decide) (by decide) (Or.inr (own_ge cd12 (by decide))) (Or.inr (own_gt cd13 (by decide))) (by decide)⟩
        · refine zcy 31 X0 hx (D d18_24) (flt cd13).2.2.2 ?_
          refine zbp 33 10 X0 hx (D d18_31) ?_
          refine zin 34 X0 hx (D d18_33) rfl ?_
          refine Go.st (f' := (mkF m 35 #[.val (.int (-x)), iv 0, .val (.int (-1000)), iv 3] [(.int (-10000))])) (fun _ k => XS.imul X0.here hx rfl (D d18_34) rfl k) ?_
          refine zsn 36 #[.val (.int (-x)), iv 0, .val (.int (-10000)), iv 3] X0 hx (D d18_35) ?_
          refine zii 39 #[.val (.int (-x)), iv 0, .val (.int (-10000)), iv 4] X0 hx (D d18_36) rfl ?_
          refine zgo 16 X0 hx (D d18_39) ?_
          refine zin 17 X0 hx (D d18_16) rfl ?_
          refine zbp 19 10 X0 hx (D d18_17) ?_
          refine zcn 22 X0 hx (D d18_19) (by decide) ?_
          refine zin 23 X0 hx (D d18_22) rfl ?_
          refine zin 24 X0 hx (D d18_23) rfl ?_
          by_cases cd14 : (-10000 : Int32) < (-x)
          · refine zcn 27 X0 hx (D d18_24) (tlt cd14).2.2.2 ?_
            refine zin 28 X0 hx (D d18_27) rfl ?_
            refine zin 29 X0 hx (D d18_28) rfl ?_
            refine Go.st (f' := (mkF m 30 #[.val (.int (-x)), iv 0, .val (.int (-10000)), iv 4] [(.int 4)])) (fun _ k => XS.iadd X0.here hx rfl (D d18_29) rfl k) ?_
            refine Go.retV X0 hlk hx (t := .int) hret rfl (Or.inl ⟨rfl, Or.inl rfl, _, rfl⟩) (D d18_30) e0 ?_ (by decide) (by decide)
            exact ⟨_, rfl, N0, rfl, own_szP 4 cd1 (by decide) (by decide) (Or.inr (own_ge cd13 (by decide))) (Or.inr (own_gt cd14 (by decide))) (by decide)⟩
          · refine zcy 31 X0 hx (D d18_24) (flt cd14).2.2.2 ?_
            refine zbp 33 10 X0 hx (D d18_31) ?_
            refine zin 34 X0 hx (D d18_33) rfl ?_
            refine Go.st (f' := (mkF m 35 #[.val (.int (-x)), iv 0, .val (.int (-10000)), iv 4] [(.int (-100000))])) (fun _ k => XS.imul X0.here hx rfl (D d18_34) rfl k) ?_
            refine zsn 36 #[.val (.int (-x)), iv 0, .val (.int (-100000)), iv 4] X0 hx (D d18_35) ?_
            refine zii 39 #[.val (.int (-x)), iv 0, .val (.int (-100000)), iv 5] X0 hx (D d18_36) rfl ?_
            refine zgo 16 X0 hx (D d18_39) ?_
            refine zin 17 X0 hx (D d18_16) rfl ?_
            refine zbp 19 10 X0 hx (D d18_17) ?_
            refine zcn 22 X0 hx (D d18_19) (by decide) ?_
            refine zin 23 X0 hx (D d18_22) rfl ?_
            refine zin 24 X0 hx (D d18_23) rfl ?_
            by_cases cd15 : (-100000 : Int32) < (-x)
            · refine zcn 27 X0 hx (D d18_24) (tlt cd15).2.2.2 ?_
              refine zin 28 X0 hx (D d18_27) rfl ?_
              refine zin 29 X0 hx (D d18_28) rfl ?_
              refine Go.st (f' := (mkF m 30 #[.val (.int (-x)), iv 0, .val (.int (-100000)), iv 5] [(.int 5)])) (fun _ k => XS.iadd X0.here hx rfl (D d18_29) rfl k) ?_
              refine Go.retV X0 hlk hx (t := .int) hret rfl (Or.inl ⟨rfl, Or.inl rfl, _, rfl⟩) (D d18_30) e0 ?_ (by decide) (by decide)
              exact ⟨_, rfl, N0, rfl, own_szP 5 cd1 (by decide) (by decide) (Or.inr (own_ge cd14 (by decide))) (Or.inr (own_gt cd15 (by decide))) (by decide)⟩
            · refine zcy 31 X0 hx (D d18_24) (flt cd15).2.2.2 ?_
              refine zbp 33 10 X0 hx (D d18_31) ?_
              refine zin 34 X0 hx (D d18_33) rfl ?_
              refine Go.st (f' := (mkF m 35 #[.val (.int (-x)), iv 0, .val (.int (-100000)), iv 5] [(.int (-1000000))])) (fun _ k => XS.imul X0.here hx rfl (D d18_34) rfl k) ?_
              refine zsn 36 #[.val (.int (-x)), iv 0, .val (.int (-1000000)), iv 5] X0 hx (D d18_35) ?_
              refine zii 39 #[.val (.int (-x)), iv 0, .val (.int (-1000000)), iv 6] X0 hx (D d18_36) rfl ?_
              refine zgo 16 X0 hx (D d18_39) ?_
              refine zin 17 X0 hx (D d18_16) rfl ?_
              refine zbp 19 10 X0 hx (D d18_17) ?_
              refine zcn 22 X0 hx (D d18_19) (by decide) ?_
              refine zin 23 X0 hx (D d18_22) rfl ?_
              refine zin 24 X0 hx (D d18_23) rfl ?_
              by_cases cd16 : (-1000000 : Int32) < (-x)
              · refine zcn 27 X0 hx (D d18_24) (tlt cd16).2.2.2 ?_
                refine zin 28 X0 hx (D d18_27) rfl ?_
                refine zin 29 X0 hx (D d18_28) rfl ?_
                refine Go.st (f' := (mkF m 30 #[.val (.int (-x)), iv 0, .val (.int (-1000000)), iv 6] [(.int 6)])) (fun _ k => XS.iadd X0.here hx rfl (D d18_29) rfl k) ?_
                refine Go.retV X0 hlk hx (t := .int) hret rfl (Or.inl ⟨rfl, Or.inl rfl, _, rfl⟩) (D d18_30) e0 ?_ (by decide) (by decide)
                exact ⟨_, rfl, N0, rfl, own_szP 6 cd1 (by decide) (by decide) (Or.inr (own_ge cd15 (by decide))) (Or.inr (own_gt cd16 (by decide))) (by decide)⟩
              · refine zcy 31 X0 hx (D d18_24) (flt cd16).2.2.2 ?_
                refine zbp 33 10 X0 hx (D d18_31) ?_
                refine zin 34 X0 hx (D d18_33) rfl ?_
                refine Go.st (f' := (mkF m 35 #[.val (.int (-x)), iv 0, .val (.int (-1000000)), iv 6] [(.int (-10000000))])) (fun _ k => XS.imul X0.here hx rfl (D d18_34) rfl k) ?_
                refine zsn 36 #[.val (.int (-x)), iv 0, .val (.int (-10000000)), iv 6] X0 hx (D d18_35) ?_
                refine zii 39 #[.val (.int (-x)), iv 0, .val (.int (-10000000)), iv 7] X0 hx (D d18_36) rfl ?_
                refine zgo 16 X0 hx (D d18_39) ?_
                refine zin 17 X0 hx (D d18_16) rfl ?_
                refine zbp 19 10 X0 hx (D d18_17) ?_
                refine zcn 22 X0 hx (D d18_19) (by decide) ?_
                refine zin 23 X0 hx (D d18_22) rfl ?_
                refine zin 24 X0 hx (D d18_23) rfl ?_
                by_cases cd17 : (-10000000 : Int32) < (-x)
                · refine zcn 27 X0 hx (D d18_24) (tlt cd17).2.2.2 ?_
                  refine zin 28 X0 hx (D d18_27) rfl ?_
                  refine zin 29 X0 hx (D d18_28) rfl ?_
                  refine Go.st (f' := (mkF m 30 #[.val (.int (-x)), iv 0, .val (.int (-10000000)), iv 7] [(.int 7)])) (fun _ k => XS.iadd X0.here hx rfl (D d18_29) rfl k) ?_
                  refine Go.retV X0 hlk hx (t := .int) hret rfl (Or.inl ⟨rfl, Or.inl rfl, _, rfl⟩) (D d18_30) e0 ?_ (by decide) (by decide)
                  exact ⟨_, rfl, N0, rfl, own_szP 7 cd1 (by decide) (by decide) (Or.inr (own_ge cd16 (by decide))) (Or.inr (own_gt cd17 (by decide))) (by decide)⟩
                · refine zcy 31 X0 hx (D d18_24) (flt cd17).2.2.2 ?_
                  refine zbp 33 10 X0 hx (D d18_31) ?_
                  refine zin 34 X0 hx (D d18_33) rfl ?_
                  refine Go.st (f' := (mkF m 35 #[.val (.int (-x)), iv 0, .val (.int (-10000000)), iv 7] [(.int (-100000000))])) (fun _ k => XS.imul X0.here hx rfl (D d18_34) rfl k) ?_
                  refine zsn 36 #[.val (.int (-x)), iv 0, .val (.int (-100000000)), iv 7] X0 hx (D d18_35) ?_
                  refine zii 39 #[.val (.int (-x)), iv 0, .val (.int (-100000000)), iv 8] X0 hx (D d18_36) rfl ?_
                  refine zgo 16 X0 hx (D d18_39) ?_
                  refine zin 17 X0 hx (D d18_16) rfl ?_
                  refine zbp 19 10 X0 hx (D d18_17) ?_
                  refine zcn 22 X0 hx (D d18_19) (by decide) ?_
                  refine zin 23 X0 hx (D d18_22) rfl ?_
                  refine zin 24 X0 hx (D d18_23) rfl ?_
                  by_cases cd18 : (-100000000 : Int32) < (-x)
                  · refine zcn 27 X0 hx (D d18_24) (tlt cd18).2.2.2 ?_
                    refine zin 28 X0 hx (D d18_27) rfl ?_
                    refine zin 29 X0 hx (D d18_28) rfl ?_
                    refine Go.st (f' := (mkF m 30 #[.val (.int (-x)), iv 0, .val (.int (-100000000)), iv 8] [(.int 8)])) (fun _ k => XS.iadd X0.here hx rfl (D d18_29) rfl k) ?_
                    refine Go.retV X0 hlk hx (t := .int) hret rfl (Or.inl ⟨rfl, Or.inl rfl, _, rfl⟩) (D d18_30) e0 ?_ (by decide) (by decide)
                    exact ⟨_, rfl, N0, rfl, own_szP 8 cd1 (by decide) (by decide) (Or.inr (own_ge cd17 (by decide))) (Or.inr (own_gt cd18 (by decide))) (by decide)⟩
                  · refine zcy 31 X0 hx (D d18_24) (flt cd18).2.2.2 ?_
                    refine zbp 33 10 X0 hx (D d18_31) ?_
                    refine zin 34 X0 hx (D d18_33) rfl ?_
                    refine Go.st (f' := (mkF m 35 #[.val (.int (-x)), iv 0, .val (.int (-100000000)), iv 8] [(.int (-1000000000))])) (fun _ k => XS.imul X0.here hx rfl (D d18_34) rfl k) ?_
                    refine zsn 36 #[.val (.int (-x)), iv 0, .val (.int (-1000000000)), iv 8] X0 hx (D d18_35) ?_
                    refine zii 39 #[.val (.int (-x)), iv 0, .val (.int (-1000000000)), iv 9] X0 hx (D d18_36) rfl ?_
                    refine zgo 16 X0 hx (D d18_39) ?_
                    refine zin 17 X0 hx (D d18_16) rfl ?_
                    refine zbp 19 10 X0 hx (D d18_17) ?_
                    refine zcn 22 X0 hx (D d18_19) (by decide) ?_
                    refine zin 23 X0 hx (D d18_22) rfl ?_
                    refine zin 24 X0 hx (D d18_23) rfl ?_
                    by_cases cd19 : (-1000000000 : Int32) < (-x)
                    · refine zcn 27 X0 hx (D d18_24) (tlt cd19).2.2.2 ?_
                      refine zin 28 X0 hx (D d18_27) rfl ?_
                      refine zin 29 X0 hx (D d18_28) rfl ?_
                      refine Go.st (f' := (mkF m 30 #[.val (.int (-x)), iv 0, .val (.int (-1000000000)), iv 9] [(.int 9)])) (fun _ k => XS.iadd X0.here hx rfl (D d18_29) rfl k) ?_
                      refine Go.retV X0 hlk hx (t := .int) hret rfl (Or.inl ⟨rfl, Or.inl rfl, _, rfl⟩) (D d18_30) e0 ?_ (by decide) (by decide)
                      exact ⟨_, rfl, N0, rfl, own_szP 9 cd1 (by decide) (by decide) (Or.inr (own_ge cd18 (by decide))) (Or.inr (own_gt cd19 (by decide))) (by decide)⟩
                    · refine zcy 31 X0 hx (D d18_24) (flt cd19).2.2.2 ?_
                      refine zbp 33 10 X0 hx (D d18_31) ?_
                      refine zin 34 X0 hx (D d18_33) rfl ?_
                      refine Go.st (f' := (mkF m 35 #[.val (.int (-x)), iv 0, .val (.int (-1000000000)), iv 9] [(.int (-1410065408))])) (fun _ k => XS.imul X0.here hx rfl (D d18_34) rfl k) ?_
                      refine zsn 36 #[.val (.int (-x)), iv 0, .val (.int (-1410065408)), iv 9] X0 hx (D d18_35) ?_
                      refine zii 39 #[.val (.int (-x)), iv 0, .val (.int (-1410065408)), iv 10] X0 hx (D d18_36) rfl ?_
                      refine zgo 16 X0 hx (D d18_39) ?_
                      refine zin 17 X0 hx (D d18_16) rfl ?_
                      refine zbp 19 10 X0 hx (D d18_17) ?_
                      refine zcy 42 X0 hx (D d18_19) (by decide) ?_
                      refine zbp 44 10 X0 hx (D d18_42) ?_
                      refine zin 45 X0 hx (D d18_44) rfl ?_
                      refine Go.st (f' := (mkF m 46 #[.val (.int (-x)), iv 0, .val (.int (-1410065408)), iv 10] [(.int 10)])) (fun _ k => XS.iadd X0.here hx rfl (D d18_45) rfl k) ?_
                      refine Go.retV X0 hlk hx (t := .int) hret rfl (Or.inl ⟨rfl, Or.inl rfl, _, rfl⟩) (D d18_46) e0 ?_ (by decide) (by decide)
                      exact ⟨_, rfl, N0, rfl, own_szP 10 cd1 (by decide) (by decide) (Or.inr (own_ge cd19 (by decide))) (Or.inl rfl) (by decide)⟩
theorem own_tb {f : Nat → Value} {j : Int32} {r : Nat} {d : Value} (h : j = Int32.ofNat r) (hr : r < 100) : ((List.range 100).map f).getD j.toNatClampNeg d = f r ∧ ¬ j < (0 : Int32) ∧ j < (100 : Int32) := by
  have e0 : (0 : Int32).toInt = 0 := by decide
  have e1 : (100 : Int32).toInt = 100 := by decide
  have t : j.toInt = (r : Int) := by rw [h]; exact Int32.toInt_ofNat_of_lt (by omega)
  have k : j.toNatClampNeg = r := by simp only [Int32.toNatClampNeg]; omega
  refine ⟨?_, ?_, ?_⟩
  · rw [k]; simp [List.getD, hr]
  · rw [Int32.lt_iff_toInt_lt]; omega
  · rw [Int32.lt_iff_toInt_lt]; omega
theorem own_nb {k : Nat} (h : k < 10) : nar .byte (Int32.ofNat (48 + k)) = Int32.ofNat (48 + k) := by
  have q : ∀ k : Fin 10, nar .byte (Int32.ofNat (48 + k.val)) = Int32.ofNat (48 + k.val) := by decide
  exact q ⟨k, h⟩
/-- es is xs with the w last of the number's digits before place I -/
def Jv (xs es : List Value) (n I w : Nat) : Prop := ∀ i, es.getD i (.int (0 : Int32)) = if I - w ≤ i ∧ i < I then dgv n (I - 1 - i) else xs.getD i (.int (0 : Int32))
theorem Jv.zero {xs : List Value} {n I : Nat} : Jv xs xs n I 0 := fun i => by rw [if_neg (by omega)]
theorem Jv.put {xs es : List Value} {n I w k : Nat} {v : Value} (h : Jv xs es n I w) (hw : w + 1 ≤ I) (hk : k = I - w - 1) (hv : v = dgv n w) : Jv xs (lput es k v (.int (0 : Int32))) n I (w + 1) := fun i => by
  rw [lput_getD]
  by_cases c : i = k
  · rw [if_pos c, if_pos (by omega), hv]; congr 1; omega
  · rw [if_neg c, h i]
    by_cases c2 : I - w ≤ i ∧ i < I
    · rw [if_pos c2, if_pos (by omega)]
    · rw [if_neg c2, if_neg (by omega)]
def Fx (x q1 c2 Y2 : Int32) (xs : List Value) : Prop := Ln c2 xs ∧ q1.toInt = c2.toInt + ((dsL x).length : Int) ∧ q1.toInt ≤ Y2.toInt ∧ Y2.toInt ≤ 200
/-- w digits stand; ps is where they begin; i is what is left of the number, negated -/
def Gp (x q1 i ps : Int32) (w : Nat) : Prop := i = Jvm.Free.SBG.negI (nAbs x / 10 ^ w) ∧ ps.toInt + (w : Int) = q1.toInt ∧ w + dgs (nAbs x / 10 ^ w) = dgs (nAbs x)
theorem gp_m (x : Int32) (w : Nat) : nAbs x / 10 ^ w ≤ 2 ^ 31 := Nat.le_trans (Nat.div_le_self _ _) (nAbs_le x)
theorem gp_100 {x q1 i ps : Int32} {w : Nat} (G : Gp x q1 i ps w) : (-100 : Int32) < i ↔ nAbs x / 10 ^ w < 100 := by
  rw [G.1, show (-100 : Int32) = Jvm.Free.SBG.negI 100 by decide +kernel]; exact Jvm.Free.SBG.negI_lt (gp_m x w) 100 (by decide)
theorem gp_9 {x q1 i ps : Int32} {w : Nat} (G : Gp x q1 i ps w) : i < (-9 : Int32) ↔ 9 < nAbs x / 10 ^ w := by
  have h1 := Jvm.Free.SBG.negI_toInt (gp_m x w)
  have e : (-9 : Int32).toInt = -9 := by decide
  rw [G.1, Int32.lt_iff_toInt_lt, h1, e]; generalize nAbs x / 10 ^ w = m; omega
theorem gp_pos {x q1 c2 Y2 ps : Int32} {xs : List Value} {w : Nat} (F : Fx x q1 c2 Y2 xs) (hp : ps.toInt + (w : Int) = q1.toInt) (hw : w + 1 ≤ (dsL x).length) : (¬ (ps + (-1 : Int32)) < (0 : Int32) ∧ (ps + (-1 : Int32)) < Y2) ∧ (ps + (-1 : Int32)).toNatClampNeg = q1.toNatClampNeg - w - 1 ∧ w + 1 ≤ q1.toNatClampNeg ∧ (ps + (-1 : Int32)).toInt + ((w + 1 : Nat) : Int) = q1.toInt := by
  obtain ⟨l, h1, h2, h3⟩ := F
  have l1 := l.1
  have b : 0 ≤ ps.toInt - 1 ∧ ps.toInt - 1 < 200 ∧ ps.toInt - 1 < Y2.toInt := by omega
  have hs : (ps + (-1 : Int32)).toInt = ps.toInt - 1 := by
    have a := c_iadd ps (-1)
    have r := rng32 (ps + (-1))
    have e : (-1 : Int32).toInt = -1 := by decide
    rw [e] at a
    clear hp hw h1 h2 h3 l1
    omega
  have e0 : (0 : Int32).toInt = 0 := by decide
  generalize (ps + (-1 : Int32)) = y at *
  refine ⟨⟨?_, ?_⟩, ?_, ?_, ?_⟩
  · rw [Int32.lt_iff_toInt_lt]; omega
  · rw [Int32.lt_iff_toInt_lt]; omega
  · simp only [Int32.toNatClampNeg]; omega
  · simp only [Int32.toNatClampNeg]; omega
  · omega
theorem dgs_1 {m : Nat} (h : m < 10) : dgs m = 1 := dgk1 h
theorem dgs_2 {m : Nat} (h : ¬ m < 10) (g : m < 100) : dgs m = 2 := dgk2 (by omega) g
theorem dgs_100 {m : Nat} (h : ¬ m < 100) (g : m ≤ 2 ^ 31) : dgs m = dgs (m / 100) + 2 := by
  rcases (by omega : m < 1000 ∨ (1000 ≤ m ∧ m < 10000) ∨ (10000 ≤ m ∧ m < 100000) ∨ (100000 ≤ m ∧ m < 1000000) ∨ (1000000 ≤ m ∧ m < 10000000) ∨ (10000000 ≤ m ∧ m < 100000000) ∨ (100000000 ≤ m ∧ m < 1000000000) ∨ 1000000000 ≤ m) with h1 | h1 | h1 | h1 | h1 | h1 | h1 | h1
  · rw [dgk3 (by omega) h1, dgk1 (by omega)]
  · rw [dgk4 h1.1 h1.2, dgk2 (by omega) (by omega)]
  · rw [dgk5 h1.1 h1.2, dgk3 (by omega) (by omega)]
  · rw [dgk6 h1.1 h1.2, dgk4 (by omega) (by omega)]
  · rw [dgk7 h1.1 h1.2, dgk5 (by omega) (by omega)]
  · rw [dgk8 h1.1 h1.2, dgk6 (by omega) (by omega)]
  · rw [dgk9 h1.1 h1.2, dgk7 (by omega) (by omega)]
  · rw [dgk10 h1, dgk8 (by omega) (by omega)]
theorem dsL_ge (x : Int32) : dgs (nAbs x) ≤ (dsL x).length := by rw [dsL_len]; omega
theorem ar1 {w A B N L : Nat} (d1 : A = B + 2) (g3 : w + A = N) (b : 1 ≤ B) (dl : N ≤ L) : w + 1 ≤ L ∧ w + 1 + 1 ≤ L ∧ w + 2 + B = N := by omega
theorem ar2 {w A N L : Nat} (g3 : w + A = N) (b : 1 ≤ A) (dl : N ≤ L) : w + 1 ≤ L := by omega
theorem ar3 (m : Nat) : m % 100 % 10 = m % 10 := by omega
theorem ar4 (m : Nat) : m % 100 / 10 = m / 10 % 10 := by omega
theorem ar5 {w A N L : Nat} (g3 : w + A = N) (b : A = 2) (dl : N ≤ L) : w + 1 + 1 ≤ L ∧ N = w + 1 + 1 := by omega
theorem ar6 {w A N : Nat} (g3 : w + A = N) (b : A = 1) : N = w + 1 := by omega
theorem ar7 {m : Nat} (h : m < 100) : m / 10 < 10 := by omega
theorem ar8 {m : Nat} (h : 9 < m) : ¬ m < 10 := by omega
theorem ar9 {m : Nat} (h : ¬ 9 < m) : m < 10 := by omega
theorem ar10 {m : Nat} (h : m < 100) : m < 2 ^ 31 := by omega
/-- one round of the loop: two digits -/
theorem gp_step {x q1 c2 Y2 i ps : Int32} {w : Nat} {xs es : List Value} (F : Fx x q1 c2 Y2 xs) (G : Gp x q1 i ps w) (J : Jv xs es (nAbs x) q1.toNatClampNeg w) (h : ¬ nAbs x / 10 ^ w < 100) {a b : Int32} (ha : a = i / (100 : Int32)) (hb : b = ((a * (100 : Int32)) - i)) :
    b = Int32.ofNat (nAbs x / 10 ^ w % 100) ∧ (¬ (ps + (-1 : Int32)) < (0 : Int32) ∧ (ps + (-1 : Int32)) < Y2) ∧ (¬ ((ps + (-1 : Int32)) + (-1 : Int32)) < (0 : Int32) ∧ ((ps + (-1 : Int32)) + (-1 : Int32)) < Y2) ∧ Gp x q1 a ((ps + (-1 : Int32)) + (-1 : Int32)) (w + 2) ∧
    Jv xs (lput (lput es (ps + (-1 : Int32)).toNatClampNeg (.int (nar .byte (Int32.ofNat (48 + nAbs x / 10 ^ w % 100 % 10)))) (.int (0 : Int32))) ((ps + (-1 : Int32)) + (-1 : Int32)).toNatClampNeg (.int (nar .byte (Int32.ofNat (48 + nAbs x / 10 ^ w % 100 / 10)))) (.int (0 : Int32))) (nAbs x) q1.toNatClampNeg (w + 2) := by
  have gm := gp_m x w
  have d1 := dgs_100 h gm
  have d2 := dgs_b (nAbs x / 10 ^ w / 100)
  have dl := dsL_ge x
  obtain ⟨g1, g2, g3⟩ := G
  have ar := ar1 d1 g3 d2.1 dl
  have p1 := gp_pos F g2 ar.1
  have p2 := gp_pos F p1.2.2.2 ar.2.1
  have ea : a = Jvm.Free.SBG.negI (nAbs x / 10 ^ w / 100) := by rw [ha, g1]; exact Jvm.Free.SBG.negI_div100 gm
  have eq2 : nAbs x / 10 ^ (w + 2) = nAbs x / 10 ^ w / 100 := by rw [Nat.pow_add, ← Nat.div_div_eq_div_mul]
  have eq1 : nAbs x / 10 ^ (w + 1) = nAbs x / 10 ^ w / 10 := by rw [Nat.pow_add, ← Nat.div_div_eq_div_mul]
  have m1 : nAbs x / 10 ^ w % 100 % 10 = nAbs x / 10 ^ w % 10 := ar3 _
  have m2 : nAbs x / 10 ^ w % 100 / 10 = nAbs x / 10 ^ (w + 1) % 10 := by rw [eq1]; exact ar4 _
  refine ⟨by rw [hb, ea, g1]; exact Jvm.Free.SBG.negI_rem gm, p1.1, p2.1, ⟨by rw [eq2]; exact ea, p2.2.2.2, by rw [eq2]; exact ar.2.2⟩, ?_⟩
  refine Jv.put (Jv.put J p1.2.2.1 p1.2.1 ?_) p2.2.2.1 p2.2.1 ?_
  · rw [own_nb (Nat.mod_lt _ (by decide)), m1]; rfl
  · rw [m2, own_nb (Nat.mod_lt _ (by decide))]; rfl
/-- the way out: one digit more, or two -/
theorem gp_out {x q1 c2 Y2 i ps : Int32} {w : Nat} {xs es : List Value} (F : Fx x q1 c2 Y2 xs) (G : Gp x q1 i ps w) (J : Jv xs es (nAbs x) q1.toNatClampNeg w) (h : nAbs x / 10 ^ w < 100) :
    (-i) = Int32.ofNat (nAbs x / 10 ^ w) ∧ (¬ (ps + (-1 : Int32)) < (0 : Int32) ∧ (ps + (-1 : Int32)) < Y2) ∧ Jv xs (lput es (ps + (-1 : Int32)).toNatClampNeg (.int (nar .byte (Int32.ofNat (48 + nAbs x / 10 ^ w % 10)))) (.int (0 : Int32))) (nAbs x) q1.toNatClampNeg (w + 1) ∧ (ps + (-1 : Int32)).toInt + ((w + 1 : Nat) : Int) = q1.toInt := by
  obtain ⟨g1, g2, g3⟩ := G
  have dl := dsL_ge x
  have d2 := dgs_b (nAbs x / 10 ^ w)
  have p1 := gp_pos F g2 (ar2 g3 d2.1 dl)
  refine ⟨by rw [g1]; exact Jvm.Free.SBG.neg_negI (ar10 h), p1.1, Jv.put J p1.2.2.1 p1.2.1 ?_, p1.2.2.2⟩
  rw [own_nb (Nat.mod_lt _ (by decide))]; rfl
theorem gp_out2 {x q1 c2 Y2 i ps : Int32} {w : Nat} {xs es : List Value} (F : Fx x q1 c2 Y2 xs) (G : Gp x q1 i ps w) (h : nAbs x / 10 ^ w < 100) (h9 : 9 < nAbs x / 10 ^ w) (J : Jv xs es (nAbs x) q1.toNatClampNeg (w + 1)) (hp : (ps + (-1 : Int32)).toInt + ((w + 1 : Nat) : Int) = q1.toInt) :
    (¬ ((ps + (-1 : Int32)) + (-1 : Int32)) < (0 : Int32) ∧ ((ps + (-1 : Int32)) + (-1 : Int32)) < Y2) ∧ Jv xs (lput es ((ps + (-1 : Int32)) + (-1 : Int32)).toNatClampNeg (.int (nar .byte (Int32.ofNat (48 + nAbs x / 10 ^ w / 10)))) (.int (0 : Int32))) (nAbs x) q1.toNatClampNeg (dgs (nAbs x)) ∧ ((ps + (-1 : Int32)) + (-1 : Int32)).toInt + ((dgs (nAbs x) : Nat) : Int) = q1.toInt := by
  obtain ⟨g1, g2, g3⟩ := G
  have dl := dsL_ge x
  have d2 := dgs_2 (m := nAbs x / 10 ^ w) (ar8 h9) h
  have ar := ar5 g3 d2 dl
  have p2 := gp_pos F hp ar.1
  have ew : dgs (nAbs x) = w + 1 + 1 := ar.2
  have eq1 : nAbs x / 10 ^ (w + 1) = nAbs x / 10 ^ w / 10 := by rw [Nat.pow_add, ← Nat.div_div_eq_div_mul]
  rw [ew]
  refine ⟨p2.1, Jv.put J p2.2.2.1 p2.2.1 ?_, p2.2.2.2⟩
  rw [own_nb (ar7 h)]; unfold dgv; rw [eq1, Nat.mod_eq_of_lt (ar7 h)]
theorem gp_out1 {x q1 i ps : Int32} {w : Nat} {xs es : List Value} (G : Gp x q1 i ps w) (h9 : ¬ 9 < nAbs x / 10 ^ w) (J : Jv xs es (nAbs x) q1.toNatClampNeg (w + 1)) (hp : (ps + (-1 : Int32)).toInt + ((w + 1 : Nat) : Int) = q1.toInt) :
    Jv xs es (nAbs x) q1.toNatClampNeg (dgs (nAbs x)) ∧ (ps + (-1 : Int32)).toInt + ((dgs (nAbs x) : Nat) : Int) = q1.toInt := by
  obtain ⟨g1, g2, g3⟩ := G
  have d1 := dgs_1 (m := nAbs x / 10 ^ w) (ar9 h9)
  have ew : dgs (nAbs x) = w + 1 := ar6 g3 d1
  rw [ew]; exact ⟨J, hp⟩
theorem gp_sgn {x q1 c2 Y2 ps : Int32} {xs : List Value} (F : Fx x q1 c2 Y2 xs) (hx : x < 0) (hp : ps.toInt + ((dgs (nAbs x) : Nat) : Int) = q1.toInt) : ¬ (ps + (-1 : Int32)) < (0 : Int32) ∧ (ps + (-1 : Int32)) < Y2 := (gp_pos F hp (by rw [dsL_len, if_pos hx]; omega)).1
theorem dsL_at (x : Int32) (j : Nat) (d : Value) (hj : j < dgs (nAbs x)) : (dsL x).getD ((if x < 0 then 1 else 0) + j) d = dgv (nAbs x) (dgs (nAbs x) - 1 - j) := by
  unfold dsL
  simp only [List.getD_eq_getElem?_getD]
  split
  · rw [List.getElem?_append_right (by simp)]
    simp [hj]
  · simp [hj]
theorem gp_finP {x q1 c2 Y2 : Int32} {xs es : List Value} (F : Fx x q1 c2 Y2 xs) (hx : ¬ x < 0) (J : Jv xs es (nAbs x) q1.toNatClampNeg (dgs (nAbs x))) (i : Nat) : (xs ++ dsL x).getD i (.int (0 : Int32)) = es.getD i (.int (0 : Int32)) := by
  obtain ⟨l, h1, h2, h3⟩ := F
  have l1 := l.1
  have l2 := l.2
  have hl := dsL_len x
  rw [if_neg hx] at hl
  have hI : q1.toNatClampNeg = xs.length + dgs (nAbs x) := by simp only [Int32.toNatClampNeg]; omega
  rw [J i, hI]
  by_cases c0 : i < xs.length
  · rw [if_neg (by omega)]; simp only [List.getD_eq_getElem?_getD]; rw [List.getElem?_append_left c0]
  · obtain ⟨j, rfl⟩ : ∃ j, i = xs.length + j := ⟨i - xs.length, by omega⟩
    have e : (xs ++ dsL x).getD (xs.length + j) (.int (0 : Int32)) = (dsL x).getD j (.int (0 : Int32)) := by simp only [List.getD_eq_getElem?_getD]; rw [List.getElem?_append_right (by omega), show xs.length + j - xs.length = j by omega]
    rw [e]
    by_cases c1 : j < dgs (nAbs x)
    · have q := dsL_at x j (.int (0 : Int32)) c1
      rw [if_neg hx, Nat.zero_add] at q
      rw [q, if_pos (by omega)]; congr 1; omega
    · rw [if_neg (by omega)]; simp only [List.getD_eq_getElem?_getD]; rw [List.getElem?_eq_none (by omega), List.getElem?_eq_none (by omega)]
theorem gp_finN {x q1 c2 Y2 ps : Int32} {xs es : List Value} (F : Fx x q1 c2 Y2 xs) (hx : x < 0) (J : Jv xs es (nAbs x) q1.toNatClampNeg (dgs (nAbs x))) (hp : ps.toInt + ((dgs (nAbs x) : Nat) : Int) = q1.toInt) (i : Nat) : (xs ++ dsL x).getD i (.int (0 : Int32)) = (lput es (ps + (-1 : Int32)).toNatClampNeg (.int (45 : Int32)) (.int (0 : Int32))).getD i (.int (0 : Int32)) := by
  have hl := dsL_len x
  rw [if_pos hx] at hl
  have p := gp_pos F hp (by omega)
  obtain ⟨l, h1, h2, h3⟩ := F
  have l1 := l.1
  have l2 := l.2
  have hI : q1.toNatClampNeg = xs.length + dgs (nAbs x) + 1 := by simp only [Int32.toNatClampNeg]; omega
  rw [p.2.1, lput_getD, J i, hI]
  by_cases c0 : i < xs.length
  · rw [if_neg (by omega), if_neg (by omega)]; simp only [List.getD_eq_getElem?_getD]; rw [List.getElem?_append_left c0]
  · obtain ⟨j, rfl⟩ : ∃ j, i = xs.length + j := ⟨i - xs.length, by omega⟩
    have e : (xs ++ dsL x).getD (xs.length + j) (.int (0 : Int32)) = (dsL x).getD j (.int (0 : Int32)) := by simp only [List.getD_eq_getElem?_getD]; rw [List.getElem?_append_right (by omega), show xs.length + j - xs.length = j by omega]
    rw [e]
    rcases j with _ | j
    · rw [if_pos (by omega)]; unfold dsL; rw [if_pos hx]; rfl
    · rw [if_neg (by omega)]
      by_cases c1 : j < dgs (nAbs x)
      · have q := dsL_at x j (.int (0 : Int32)) c1
        rw [if_pos hx, Nat.add_comm] at q
        rw [q, if_pos (by omega)]; congr 1; omega
      · rw [if_neg (by omega)]; simp only [List.getD_eq_getElem?_getD]; rw [List.getElem?_eq_none (by omega), List.getElem?_eq_none (by omega)]
theorem gp_start {x q1 : Int32} : Gp x q1 (if x < 0 then x else -x) q1 0 := by
  refine ⟨?_, by omega, by rw [Nat.pow_zero, Nat.div_one]; omega⟩
  rw [Nat.pow_zero, Nat.div_one, ← Int32.toInt_inj, Jvm.Free.SBG.negI_toInt (nAbs_le x)]
  by_cases h : x < 0
  · rw [if_pos h]; rw [Int32.lt_iff_toInt_lt] at h; have e0 : (0 : Int32).toInt = 0 := by decide
    unfold nAbs; omega
  · rw [if_neg h]; have q := own_neg h; unfold nAbs; omega
theorem gp_fu {n w f : Nat} (h : n / 10 ^ w < 100 ^ (f + 1)) : n / 10 ^ (w + 2) < 100 ^ f := by
  rw [Nat.pow_add, ← Nat.div_div_eq_div_mul]; rw [Nat.pow_succ] at h
  exact Nat.div_lt_of_lt_mul (by show _ < 10 ^ 2 * _; rw [Nat.mul_comm]; exact h)
theorem gp_f0 {n w : Nat} (h : n / 10 ^ w < 100 ^ 0) : n / 10 ^ w < 100 := by rw [Nat.pow_zero] at h; omega
theorem gp_f5 (x : Int32) : nAbs x / 10 ^ 0 < 100 ^ (4 + 1) := by
  rw [Nat.pow_zero, Nat.div_one]; have := nAbs_le x
  have e : (100 : Nat) ^ (4 + 1) = 10000000000 := by decide
  omega
theorem d20_72 : decode jdk_33_method_12_code 72 = .ok (.aload_n 2, 1) := by decide +kernel
theorem d20_73 : decode jdk_33_method_12_code 73 = .ok (.iinc 5 (-1), 3) := by decide +kernel
theorem d20_76 : decode jdk_33_method_12_code 76 = .ok (.iload 5, 2) := by decide +kernel
theorem d20_78 : decode jdk_33_method_12_code 78 = .ok (.getstatic 83, 3) := by decide +kernel
theorem d20_81 : decode jdk_33_method_12_code 81 = .ok (.iload_n 0, 1) := by decide +kernel
theorem d20_82 : decode jdk_33_method_12_code 82 = .ok (.ineg, 1) := by decide +kernel
theorem d20_83 : decode jdk_33_method_12_code 83 = .ok (.baload, 1) := by decide +kernel
theorem d20_84 : decode jdk_33_method_12_code 84 = .ok (.bastore, 1) := by decide +kernel
theorem d20_85 : decode jdk_33_method_12_code 85 = .ok (.iload_n 0, 1) := by decide +kernel
theorem d20_86 : decode jdk_33_method_12_code 86 = .ok (.bipush (-9), 2) := by decide +kernel
theorem d20_88 : decode jdk_33_method_12_code 88 = .ok (.if_icmp .ge 16, 3) := by decide +kernel
theorem d20_91 : decode jdk_33_method_12_code 91 = .ok (.aload_n 2, 1) := by decide +kernel
theorem d20_92 : decode jdk_33_method_12_code 92 = .ok (.iinc 5 (-1), 3) := by decide +kernel
theorem d20_95 : decode jdk_33_method_12_code 95 = .ok (.iload 5, 2) := by decide +kernel
theorem d20_97 : decode jdk_33_method_12_code 97 = .ok (.getstatic 87, 3) := by decide +kernel
theorem d20_100 : decode jdk_33_method_12_code 100 = .ok (.iload_n 0, 1) := by decide +kernel
theorem d20_101 : decode jdk_33_method_12_code 101 = .ok (.ineg, 1) := by decide +kernel
theorem d20_102 : decode jdk_33_method_12_code 102 = .ok (.baload, 1) := by decide +kernel
theorem d20_103 : decode jdk_33_method_12_code 103 = .ok (.bastore, 1) := by decide +kernel
theorem d20_104 : decode jdk_33_method_12_code 104 = .ok (.iload 6, 2) := by decide +kernel
theorem d20_106 : decode jdk_33_method_12_code 106 = .ok (.ifCond .eq 12, 3) := by decide +kernel
theorem d20_118 : decode jdk_33_method_12_code 118 = .ok (.iload 5, 2) := by decide +kernel
theorem d20_120 : decode jdk_33_method_12_code 120 = .ok (.ireturn, 1) := by decide +kernel
theorem d20_109 : decode jdk_33_method_12_code 109 = .ok (.aload_n 2, 1) := by decide +kernel
theorem d20_110 : decode jdk_33_method_12_code 110 = .ok (.iinc 5 (-1), 3) := by decide +kernel
theorem d20_113 : decode jdk_33_method_12_code 113 = .ok (.iload 5, 2) := by decide +kernel
theorem d20_115 : decode jdk_33_method_12_code 115 = .ok (.bipush 45, 2) := by decide +kernel
theorem d20_117 : decode jdk_33_method_12_code 117 = .ok (.bastore, 1) := by decide +kernel
theorem d20_22 : decode jdk_33_method_12_code 22 = .ok (.iload_n 0, 1) := by decide +kernel
theorem d20_23 : decode jdk_33_method_12_code 23 = .ok (.bipush (-100), 2) := by decide +kernel
theorem d20_25 : decode jdk_33_method_12_code 25 = .ok (.if_icmp .gt 47, 3) := by decide +kernel
theorem d20_28 : decode jdk_33_method_12_code 28 = .ok (.iload_n 0, 1) := by decide +kernel
theorem d20_29 : decode jdk_33_method_12_code 29 = .ok (.bipush 100, 2) := by decide +kernel
theorem d20_31 : decode jdk_33_method_12_code 31 = .ok (.idiv, 1) := by decide +kernel
theorem d20_32 : decode jdk_33_method_12_code 32 = .ok (.istore_n 3, 1) := by decide +kernel
theorem d20_33 : decode jdk_33_method_12_code 33 = .ok (.iload_n 3, 1) := by decide +kernel
theorem d20_34 : decode jdk_33_method_12_code 34 = .ok (.bipush 100, 2) := by decide +kernel
theorem d20_36 : decode jdk_33_method_12_code 36 = .ok (.imul, 1) := by decide +kernel
theorem d20_37 : decode jdk_33_method_12_code 37 = .ok (.iload_n 0, 1) := by decide +kernel
theorem d20_38 : decode jdk_33_method_12_code 38 = .ok (.isub, 1) := by decide +kernel
theorem d20_39 : decode jdk_33_method_12_code 39 = .ok (.istore 4, 2) := by decide +kernel
theorem d20_41 : decode jdk_33_method_12_code 41 = .ok (.iload_n 3, 1) := by decide +kernel
theorem d20_42 : decode jdk_33_method_12_code 42 = .ok (.istore_n 0, 1) := by decide +kernel
theorem d20_43 : decode jdk_33_method_12_code 43 = .ok (.aload_n 2, 1) := by decide +kernel
theorem d20_44 : decode jdk_33_method_12_code 44 = .ok (.iinc 5 (-1), 3) := by decide +kernel
theorem d20_47 : decode jdk_33_method_12_code 47 = .ok (.iload 5, 2) := by decide +kernel
theorem d20_49 : decode jdk_33_method_12_code 49 = .ok (.getstatic 83, 3) := by decide +kernel
theorem d20_52 : decode jdk_33_method_12_code 52 = .ok (.iload 4, 2) := by decide +kernel
theorem d20_54 : decode jdk_33_method_12_code 54 = .ok (.baload, 1) := by decide +kernel
theorem d20_55 : decode jdk_33_method_12_code 55 = .ok (.bastore, 1) := by decide +kernel
theorem d20_56 : decode jdk_33_method_12_code 56 = .ok (.aload_n 2, 1) := by decide +kernel
theorem d20_57 : decode jdk_33_method_12_code 57 = .ok (.iinc 5 (-1), 3) := by decide +kernel
theorem d20_60 : decode jdk_33_method_12_code 60 = .ok (.iload 5, 2) := by decide +kernel
theorem d20_62 : decode jdk_33_method_12_code 62 = .ok (.getstatic 87, 3) := by decide +kernel
theorem d20_65 : decode jdk_33_method_12_code 65 = .ok (.iload 4, 2) := by decide +kernel
theorem d20_67 : decode jdk_33_method_12_code 67 = .ok (.baload, 1) := by decide +kernel
theorem d20_68 : decode jdk_33_method_12_code 68 = .ok (.bastore, 1) := by decide +kernel
theorem d20_69 : decode jdk_33_method_12_code 69 = .ok (.goto (-47), 3) := by decide +kernel
theorem d20_0 : decode jdk_33_method_12_code 0 = .ok (.iload_n 1, 1) := by decide +kernel
theorem d20_1 : decode jdk_33_method_12_code 1 = .ok (.istore 5, 2) := by decide +kernel
theorem d20_3 : decode jdk_33_method_12_code 3 = .ok (.iload_n 0, 1) := by decide +kernel
theorem d20_4 : decode jdk_33_method_12_code 4 = .ok (.ifCond .ge 7, 3) := by decide +kernel
theorem d20_7 : decode jdk_33_method_12_code 7 = .ok (.iconst 1, 1) := by decide +kernel
theorem d20_8 : decode jdk_33_method_12_code 8 = .ok (.goto 4, 3) := by decide +kernel
theorem d20_12 : decode jdk_33_method_12_code 12 = .ok (.istore 6, 2) := by decide +kernel
theorem d20_14 : decode jdk_33_method_12_code 14 = .ok (.iload 6, 2) := by decide +kernel
theorem d20_16 : decode jdk_33_method_12_code 16 = .ok (.ifCond .ne 6, 3) := by decide +kernel
theorem d20_11 : decode jdk_33_method_12_code 11 = .ok (.iconst 0, 1) := by decide +kernel
theorem d20_19 : decode jdk_33_method_12_code 19 = .ok (.iload_n 0, 1) := by decide +kernel
theorem d20_20 : decode jdk_33_method_12_code 20 = .ok (.ineg, 1) := by decide +kernel
theorem d20_21 : decode jdk_33_method_12_code 21 = .ok (.istore_n 0, 1) := by decide +kernel
set_option maxRecDepth 65536 in
set_option maxHeartbeats 40000000 in
theorem ggc (l : Launch) (Z : State) (a0 : Array Value) (hw : ∀ d ∈ tables_1, d.before a0 Z = true) (ws : List Jvm.Cond) (x : Int32) (q1 : Int32) (t2 : Addr) (k2 : ClassId) (Y2 : Int32) (c2 : Int32) (xs : List Value) (wO : Addr) (wT : Addr) (kO : ClassId) (kT : ClassId) (iC : Int32) (vF : Value) (h0 : Heap) (n0 : Nat) (O0 : Old Z n0 h0) (F : Fx x q1 c2 Y2 xs) (g_t2 : n0 ≤ t2) (E_t2 : Exa Z h0 t2 "[B") (V_t2 : Arv Z h0 t2 k2 .byte Y2 xs (.int 0)) (WW : World1 Z wO wT kO kT iC vF) :
    Con l Z mq26 jdk_33_method_12_code 7 (some .int) ws ({ frames := 0, cells := 0, slots := 0, locals := 0 } : Room) #[(.int x), (.int q1), (.ref t2)] h0 (fun v h L => ∃ r : Int32, v = some (.int r) ∧ Fr n0 L ∧ Keep h0 h [t2] ∧ Arv Z h t2 k2 .byte Y2 (xs ++ dsL x) (.int 0)) := by
  refine own_body (plainFor_of_name pn_java_lang_Integer) ?_
  intro p e s m below meth c s₁ hx hby hml hZ hown hnm hlk hret X0 e0
  have N0 := Fr.nil n0
  have D := @hb _ _ hby
  have K0 : Keep h0 h0 [t2] := Keep.refl _ _
  refine Go.st (T' := s₁) (f' := (mkF m 0 #[iv x, iv q1, rv t2, .unset, .unset, .unset, .unset] [])) (fun _ k => castTop (by first | (simp [entryFrame, mkF, argsToLocals, Value.category]; done) | rfl) k) ?_
  have ⟨S_iC, nz_iC, S_vF, r_vF, S_wO, E_wO, S_wT, E_wT, V_wO, V_wT⟩ := WW
  have lt_wO := E_wO.lt
  have lt_wT := E_wT.lt
  have lt_t2 := V_t2.lt
  have ne_wO_t2 : wO ≠ t2 := O0.ne lt_wO g_t2
  have ne_wT_t2 : wT ≠ t2 := O0.ne lt_wT g_t2
  have GE : ∀ (TJ1 : State) (hJ1 : Heap) (LJ1 : List Loc) (i : Int32) (ps : Int32) (ng : Int32) (u3 : Slot) (u4 : Slot) (es : List Value) (w : Nat), (Stand p l e ({ frames := 0, cells := 0, slots := 0, locals := 0 } : Room) s m #[(.int x), (.int q1), (.ref t2)] below meth c TJ1 LJ1 0 0) → (TJ1.heap = hJ1) → (Old Z n0 hJ1) → (Fr n0 LJ1) → (Keep h0 hJ1 [t2]) → (Arv Z hJ1 t2 k2 .byte Y2 es (.int (0 : Int32))) → (nAbs x / 10 ^ w < 100) → (Gp x q1 i ps w) → (Jv xs es (nAbs x) q1.toNatClampNeg w) → ((x < (0 : Int32) ∧ ng = (1 : Int32)) ∨ (¬ x < (0 : Int32) ∧ ng = (0 : Int32))) → Go p e below (Done s (fun v h L => ∃ r : Int32, v = some (.int r) ∧ Fr n0 L ∧ Keep h0 h [t2] ∧ Arv Z h t2 k2 .byte Y2 (xs ++ dsL x) (.int (0 : Int32))) ({ frames := 0, cells := 0, slots := 0, locals := 0 } : Room).cells ({ frames := 0, cells := 0, slots := 0, locals := 0 } : Room).slots) TJ1 (mkF m 72 #[iv i, iv q1, rv t2, (u3), (u4), iv ps, iv ng] []) := by
   intro TJ1 hJ1 LJ1 i ps ng u3 u4 es w XJ1 eJ1 OJ1 NJ1 KJ1 hv hm G J hng
   have lt_t2J := hv.lt
   have go := gp_out F G J hm
   have tb := own_tb (f := fun r => .int (Int32.ofNat (48 + r % 10))) (d := .int (0 : Int32)) go.1 hm
   have tc := own_tb (f := fun r => .int (Int32.ofNat (48 + r / 10))) (d := .int (0 : Int32)) go.1 hm
   refine zan 73 XJ1 hx (D d20_72) rfl rfl ?_
   refine zii 76 #[iv i, iv q1, rv t2, (u3), (u4), .val (.int (ps + (-1 : Int32))), iv ng] XJ1 hx (D d20_73) rfl ?_
   refine zil 78 XJ1 hx (D d20_76) rfl ?_
   obtain ⟨T2, X2, e2, st2⟩ := getS2 XJ1 hx hZ hown (host := "") (Or.inl (ww hw 126 rfl)) Via.refl eJ1 (S_wO.ext OJ1.2) (g := (mkF m 78 #[iv i, iv q1, rv t2, (u3), (u4), .val (.int (ps + (-1 : Int32))), iv ng] [(.int (ps + (-1 : Int32))), (.ref t2)])) rfl (D d20_78)
   refine zst 81 #[iv i, iv q1, rv t2, (u3), (u4), .val (.int (ps + (-1 : Int32))), iv ng] [(.ref wO), (.int (ps + (-1 : Int32))), (.ref t2)] st2 ?_
   refine zin 82 X2 hx (D d20_81) rfl ?_
   refine Go.st (f' := (mkF m 83 #[iv i, iv q1, rv t2, (u3), (u4), .val (.int (ps + (-1 : Int32))), iv ng] [(.int (-i)), (.ref wO), (.int (ps + (-1 : Int32))), (.ref t2)])) (fun _ k => XS.ineg X2.here hx rfl (D d20_82) rfl k) ?_
   obtain ⟨cl3, Ar3, -, S3, -, H3, -⟩ := id (V_wO.ext OJ1.2)
   have hin3 : ¬ ((-i) < 0 ∨ cl3.slots.size ≤ ((-i)).toNatClampNeg) := inb_of S3 ⟨tb.2.1, tb.2.2⟩
   have hat3 : cl3.slots[((-i)).toNatClampNeg]? = some (.int (Int32.ofNat (48 + nAbs x / 10 ^ w % 10))) := H3.at hin3 tb.1
   refine Go.st (f' := (mkF m 84 #[iv i, iv q1, rv t2, (u3), (u4), .val (.int (ps + (-1 : Int32))), iv ng] [(.int (Int32.ofNat (48 + nAbs x / 10 ^ w % 10))), (.int (ps + (-1 : Int32))), (.ref t2)])) (fun _ k => X2.baloadBytes hx (j := (-i)) (v := (.int (Int32.ofNat (48 + nAbs x / 10 ^ w % 10)))) (by rw [e2]; exact Ar3.1) (State.isArrayOf_alike hZ.alike Ar3.2.1) Ar3.2.2 hin3 hat3 (g := (mkF m 83 #[iv i, iv q1, rv t2, (u3), (u4), .val (.int (ps + (-1 : Int32))), iv ng] [(.int (-i)), (.ref wO), (.int (ps + (-1 : Int32))), (.ref t2)])) rfl rfl (D d20_83) _ k) ?_
   obtain ⟨cl4, Ar4, q4, S4, Nx4, H4, G4⟩ := Arv.pad hv (pad_rep es (.int (0 : Int32)) (((ps + (-1 : Int32))).toNatClampNeg + 1))
   have hin4 : ¬ ((ps + (-1 : Int32)) < 0 ∨ cl4.slots.size ≤ ((ps + (-1 : Int32))).toNatClampNeg) := inb_of S4 ⟨go.2.1.1, go.2.1.2⟩
   obtain ⟨T5, h5, X5, e5, W5, st5⟩ := stB X2 hx hZ e2 Ar4 (j := (ps + (-1 : Int32))) hin4 (g := (mkF m 84 #[iv i, iv q1, rv t2, (u3), (u4), .val (.int (ps + (-1 : Int32))), iv ng] [(.int (Int32.ofNat (48 + nAbs x / 10 ^ w % 10))), (.int (ps + (-1 : Int32))), (.ref t2)])) rfl rfl (D d20_84)
   have V_t2_5 : Arv Z h5 t2 k2 .byte Y2 (lput es ((ps + (-1 : Int32))).toNatClampNeg (.int (nar .byte (Int32.ofNat (48 + nAbs x / 10 ^ w % 10)))) (.int (0 : Int32))) (.int (0 : Int32)) := Arv.set Ar4 q4 S4 Nx4 H4 G4 (fits_nar_byte _) W5 _ rfl (lput_len _ _ _)
   have N5 := Fr.snoc X5 NJ1 g_t2
   have O5 : Old Z n0 h5 := OJ1.wr W5 g_t2
   have K5 : Keep h0 h5 [t2] := KJ1.wr W5 (Or.inl (List.mem_of_getElem? (i := 0) rfl))
   refine zst 85 #[iv i, iv q1, rv t2, (u3), (u4), .val (.int (ps + (-1 : Int32))), iv ng] [] st5 ?_
   refine zin 86 X5 hx (D d20_85) rfl ?_
   refine zbp 88 (-9) X5 hx (D d20_86) ?_
   by_cases cd6 : i < (-9 : Int32)
   · refine zcn 91 X5 hx (D d20_88) (tlt cd6).2.1 ?_
     have g2 := gp_out2 F G hm ((gp_9 G).mp cd6) go.2.2.1 go.2.2.2
     refine zan 92 X5 hx (D d20_91) rfl rfl ?_
     refine zii 95 #[iv i, iv q1, rv t2, (u3), (u4), .val (.int ((ps + (-1 : Int32)) + (-1 : Int32))), iv ng] X5 hx (D d20_92) rfl ?_
     refine zil 97 X5 hx (D d20_95) rfl ?_
     obtain ⟨T7, X7, e7, st7⟩ := getS2 X5 hx hZ hown (host := "") (Or.inl (ww hw 242 rfl)) Via.refl e5 (S_wT.ext O5.2) (g := (mkF m 97 #[iv i, iv q1, rv t2, (u3), (u4), .val (.int ((ps + (-1 : Int32)) + (-1 : Int32))), iv ng] [(.int ((ps + (-1 : Int32)) + (-1 : Int32))), (.ref t2)])) rfl (D d20_97)
     refine zst 100 #[iv i, iv q1, rv t2, (u3), (u4), .val (.int ((ps + (-1 : Int32)) + (-1 : Int32))), iv ng] [(.ref wT), (.int ((ps + (-1 : Int32)) + (-1 : Int32))), (.ref t2)] st7 ?_
     refine zin 101 X7 hx (D d20_100) rfl ?_
     refine Go.st (f' := (mkF m 102 #[iv i, iv q1, rv t2, (u3), (u4), .val (.int ((ps + (-1 : Int32)) + (-1 : Int32))), iv ng] [(.int (-i)), (.ref wT), (.int ((ps + (-1 : Int32)) + (-1 : Int32))), (.ref t2)])) (fun _ k => XS.ineg X7.here hx rfl (D d20_101) rfl k) ?_
     obtain ⟨cl8, Ar8, -, S8, -, H8, -⟩ := id (V_wT.ext O5.2)
     have hin8 : ¬ ((-i) < 0 ∨ cl8.slots.size ≤ ((-i)).toNatClampNeg) := inb_of S8 ⟨tb.2.1, tb.2.2⟩
     have hat8 : cl8.slots[((-i)).toNatClampNeg]? = some (.int (Int32.ofNat (48 + nAbs x / 10 ^ w / 10))) := H8.at hin8 tc.1
     refine Go.st (f' := (mkF m 103 #[iv i, iv q1, rv t2, (u3), (u4), .val (.int ((ps + (-1 : Int32)) + (-1 : Int32))), iv ng] [(.int (Int32.ofNat (48 + nAbs x / 10 ^ w / 10))), (.int ((ps + (-1 : Int32)) + (-1 : Int32))), (.ref t2)])) (fun _ k => X7.baloadBytes hx (j := (-i)) (v := (.int (Int32.ofNat (48 + nAbs x / 10 ^ w / 10)))) (by rw [e7]; exact Ar8.1) (State.isArrayOf_alike hZ.alike Ar8.2.1) Ar8.2.2 hin8 hat8 (g := (mkF m 102 #[iv i, iv q1, rv t2, (u3), (u4), .val (.int ((ps + (-1 : Int32)) + (-1 : Int32))), iv ng] [(.int (-i)), (.ref wT), (.int ((ps + (-1 : Int32)) + (-1 : Int32))), (.ref t2)])) rfl rfl (D d20_102) _ k) ?_
     obtain ⟨cl9, Ar9, q9, S9, Nx9, H9, G9⟩ := Arv.pad V_t2_5 (pad_rep (lput es ((ps + (-1 : Int32))).toNatClampNeg (.int (nar .byte (Int32.ofNat (48 + nAbs x / 10 ^ w % 10)))) (.int (0 : Int32))) (.int (0 : Int32)) ((((ps + (-1 : Int32)) + (-1 : Int32))).toNatClampNeg + 1))
     have hin9 : ¬ (((ps + (-1 : Int32)) + (-1 : Int32)) < 0 ∨ cl9.slots.size ≤ (((ps + (-1 : Int32)) + (-1 : Int32))).toNatClampNeg) := inb_of S9 ⟨g2.1.1, g2.1.2⟩
     obtain ⟨T10, h10, X10, e10, W10, st10⟩ := stB X7 hx hZ e7 Ar9 (j := ((ps + (-1 : Int32)) + (-1 : Int32))) hin9 (g := (mkF m 103 #[iv i, iv q1, rv t2, (u3), (u4), .val (.int ((ps + (-1 : Int32)) + (-1 : Int32))), iv ng] [(.int (Int32.ofNat (48 + nAbs x / 10 ^ w / 10))), (.int ((ps + (-1 : Int32)) + (-1 : Int32))), (.ref t2)])) rfl rfl (D d20_103)
     have V_t2_10 : Arv Z h10 t2 k2 .byte Y2 (lput (lput es ((ps + (-1 : Int32))).toNatClampNeg (.int (nar .byte (Int32.ofNat (48 + nAbs x / 10 ^ w % 10)))) (.int (0 : Int32))) (((ps + (-1 : Int32)) + (-1 : Int32))).toNatClampNeg (.int (nar .byte (Int32.ofNat (48 + nAbs x / 10 ^ w / 10)))) (.int (0 : Int32))) (.int (0 : Int32)) := Arv.set Ar9 q9 S9 Nx9 H9 G9 (fits_nar_byte _) W10 _ rfl (lput_len _ _ _)
     have N10 := Fr.snoc X10 N5 g_t2
     have O10 : Old Z n0 h10 := O5.wr W10 g_t2
     have K10 : Keep h0 h10 [t2] := K5.wr W10 (Or.inl (List.mem_of_getElem? (i := 0) rfl))
     refine zst 104 #[iv i, iv q1, rv t2, (u3), (u4), .val (.int ((ps + (-1 : Int32)) + (-1 : Int32))), iv ng] [] st10 ?_
     refine zil 106 X10 hx (D d20_104) rfl ?_
     by_cases cd11 : ng = (0 : Int32)
     · refine zfy 118 X10 hx (D d20_106) ((if0 _ _).trans (teq cd11).1) ?_
       refine zil 120 X10 hx (D d20_118) rfl ?_
       refine Go.retV X10 hlk hx (t := .int) hret rfl (Or.inl ⟨rfl, Or.inl rfl, _, rfl⟩) (D d20_120) e10 ?_ (by decide) (by decide)
       have hx0 : ¬ x < (0 : Int32) := hng.elim (fun q => absurd (q.2.symm.trans cd11) (by decide)) (·.1)
       exact ⟨_, rfl, N10, K10, V_t2_10.pad (gp_finP F hx0 g2.2.1)⟩
     · refine zfn 109 X10 hx (D d20_106) ((if0 _ _).trans (feq cd11).1) ?_
       have hx0 : x < (0 : Int32) := hng.elim (·.1) (fun q => absurd q.2 cd11)
       refine zan 110 X10 hx (D d20_109) rfl rfl ?_
       refine zii 113 #[iv i, iv q1, rv t2, (u3), (u4), .val (.int (((ps + (-1 : Int32)) + (-1 : Int32)) + (-1 : Int32))), iv ng] X10 hx (D d20_110) rfl ?_
       refine zil 115 X10 hx (D d20_113) rfl ?_
       refine zbp 117 45 X10 hx (D d20_115) ?_
       obtain ⟨cl12, Ar12, q12, S12, Nx12, H12, G12⟩ := Arv.pad V_t2_10 (pad_rep (lput (lput es ((ps + (-1 : Int32))).toNatClampNeg (.int (nar .byte (Int32.ofNat (48 + nAbs x / 10 ^ w % 10)))) (.int (0 : Int32))) (((ps + (-1 : Int32)) + (-1 : Int32))).toNatClampNeg (.int (nar .byte (Int32.ofNat (48 + nAbs x / 10 ^ w / 10)))) (.int (0 : Int32))) (.int (0 : Int32)) (((((ps + (-1 : Int32)) + (-1 : Int32)) + (-1 : Int32))).toNatClampNeg + 1))
       have hin12 : ¬ ((((ps + (-1 : Int32)) + (-1 : Int32)) + (-1 : Int32)) < 0 ∨ cl12.slots.size ≤ ((((ps + (-1 : Int32)) + (-1 : Int32)) + (-1 : Int32))).toNatClampNeg) := inb_of S12 ⟨(gp_sgn F hx0 g2.2.2).1, (gp_sgn F hx0 g2.2.2).2⟩
       obtain ⟨T13, h13, X13, e13, W13, st13⟩ := stB X10 hx hZ e10 Ar12 (j := (((ps + (-1 : Int32)) + (-1 : Int32)) + (-1 : Int32))) hin12 (g := (mkF m 117 #[iv i, iv q1, rv t2, (u3), (u4), .val (.int (((ps + (-1 : Int32)) + (-1 : Int32)) + (-1 : Int32))), iv ng] [(.int 45), (.int (((ps + (-1 : Int32)) + (-1 : Int32)) + (-1 : Int32))), (.ref t2)])) rfl rfl (D d20_117)
       have V_t2_13 : Arv Z h13 t2 k2 .byte Y2 (lput (lput (lput es ((ps + (-1 : Int32))).toNatClampNeg (.int (nar .byte (Int32.ofNat (48 + nAbs x / 10 ^ w % 10)))) (.int (0 : Int32))) (((ps + (-1 : Int32)) + (-1 : Int32))).toNatClampNeg (.int (nar .byte (Int32.ofNat (48 + nAbs x / 10 ^ w / 10)))) (.int (0 : Int32))) ((((ps + (-1 : Int32)) + (-1 : Int32)) + (-1 : Int32))).toNatClampNeg (.int (45 : Int32)) (.int (0 : Int32))) (.int (0 : Int32)) := Arv.set Ar12 q12 S12 Nx12 H12 G12 (by decide) W13 _ rfl (lput_len _ _ _)
       have N13 := Fr.snoc X13 N10 g_t2
       have O13 : Old Z n0 h13 := O10.wr W13 g_t2
       have K13 : Keep h0 h13 [t2] := K10.wr W13 (Or.inl (List.mem_of_getElem? (i := 0) rfl))
       refine zst 118 #[iv i, iv q1, rv t2, (u3), (u4), .val (.int (((ps + (-1 : Int32)) + (-1 : Int32)) + (-1 : Int32))), iv ng] [] st13 ?_
       refine zil 120 X13 hx (D d20_118) rfl ?_
       refine Go.retV X13 hlk hx (t := .int) hret rfl (Or.inl ⟨rfl, Or.inl rfl, _, rfl⟩) (D d20_120) e13 ?_ (by decide) (by decide)
       exact ⟨_, rfl, N13, K13, V_t2_13.pad (gp_finN F hx0 g2.2.1 g2.2.2)⟩
   · refine zcy 104 X5 hx (D d20_88) (flt cd6).2.1 ?_
     have g2 := And.intro trivial (gp_out1 G (fun q => cd6 ((gp_9 G).mpr q)) go.2.2.1 go.2.2.2)
     refine zil 106 X5 hx (D d20_104) rfl ?_
     by_cases cd14 : ng = (0 : Int32)
     · refine zfy 118 X5 hx (D d20_106) ((if0 _ _).trans (teq cd14).1) ?_
       refine zil 120 X5 hx (D d20_118) rfl ?_
       refine Go.retV X5 hlk hx (t := .int) hret rfl (Or.inl ⟨rfl, Or.inl rfl, _, rfl⟩) (D d20_120) e5 ?_ (by decide) (by decide)
       have hx0 : ¬ x < (0 : Int32) := hng.elim (fun q => absurd (q.2.symm.trans cd14) (by decide)) (·.1)
       exact ⟨_, rfl, N5, K5, V_t2_5.pad (gp_finP F hx0 g2.2.1)⟩
     · refine zfn 109 X5 hx (D d20_106) ((if0 _ _).trans (feq cd14).1) ?_
       have hx0 : x < (0 : Int32) := hng.elim (·.1) (fun q => absurd q.2 cd14)
       refine zan 110 X5 hx (D d20_109) rfl rfl ?_
       refine zii 113 #[iv i, iv q1, rv t2, (u3), (u4), .val (.int ((ps + (-1 : Int32)) + (-1 : Int32))), iv ng] X5 hx (D d20_110) rfl ?_
       refine zil 115 X5 hx (D d20_113) rfl ?_
       refine zbp 117 45 X5 hx (D d20_115) ?_
       obtain ⟨cl15, Ar15, q15, S15, Nx15, H15, G15⟩ := Arv.pad V_t2_5 (pad_rep (lput es ((ps + (-1 : Int32))).toNatClampNeg (.int (nar .byte (Int32.ofNat (48 + nAbs x / 10 ^ w % 10)))) (.int (0 : Int32))) (.int (0 : Int32)) ((((ps + (-1 : Int32)) + (-1 : Int32))).toNatClampNeg + 1))
       have hin15 : ¬ (((ps + (-1 : Int32)) + (-1 : Int32)) < 0 ∨ cl15.slots.size ≤ (((ps + (-1 : Int32)) + (-1 : Int32))).toNatClampNeg) := inb_of S15 ⟨(gp_sgn F hx0 g2.2.2).1, (gp_sgn F hx0 g2.2.2).2⟩
       obtain ⟨T16, h16, X16, e16, W16, st16⟩ := stB X5 hx hZ e5 Ar15 (j := ((ps + (-1 : Int32)) + (-1 : Int32))) hin15 (g := (mkF m 117 #[iv i, iv q1, rv t2, (u3), (u4), .val (.int ((ps + (-1 : Int32)) + (-1 : Int32))), iv ng] [(.int 45), (.int ((ps + (-1 : Int32)) + (-1 : Int32))), (.ref t2)])) rfl rfl (D d20_117)
       have V_t2_16 : Arv Z h16 t2 k2 .byte Y2 (lput (lput es ((ps + (-1 : Int32))).toNatClampNeg (.int (nar .byte (Int32.ofNat (48 + nAbs x / 10 ^ w % 10)))) (.int (0 : Int32))) (((ps + (-1 : Int32)) + (-1 : Int32))).toNatClampNeg (.int (45 : Int32)) (.int (0 : Int32))) (.int (0 : Int32)) := Arv.set Ar15 q15 S15 Nx15 H15 G15 (by decide) W16 _ rfl (lput_len _ _ _)
       have N16 := Fr.snoc X16 N5 g_t2
       have O16 : Old Z n0 h16 := O5.wr W16 g_t2
       have K16 : Keep h0 h16 [t2] := K5.wr W16 (Or.inl (List.mem_of_getElem? (i := 0) rfl))
       refine zst 118 #[iv i, iv q1, rv t2, (u3), (u4), .val (.int ((ps + (-1 : Int32)) + (-1 : Int32))), iv ng] [] st16 ?_
       refine zil 120 X16 hx (D d20_118) rfl ?_
       refine Go.retV X16 hlk hx (t := .int) hret rfl (Or.inl ⟨rfl, Or.inl rfl, _, rfl⟩) (D d20_120) e16 ?_ (by decide) (by decide)
       exact ⟨_, rfl, N16, K16, V_t2_16.pad (gp_finN F hx0 g2.2.1 g2.2.2)⟩
  have GB : ∀ (fuel : Nat) (TJ17 : State) (hJ17 : Heap) (LJ17 : List Loc) (i : Int32) (ps : Int32) (ng : Int32) (v3 : Int32) (v4 : Int32) (es : List Value) (w : Nat), (Stand p l e ({ frames := 0, cells := 0, slots := 0, locals := 0 } : Room) s m #[(.int x), (.int q1), (.ref t2)] below meth c TJ17 LJ17 0 0) → (TJ17.heap = hJ17) → (Old Z n0 hJ17) → (Fr n0 LJ17) → (Keep h0 hJ17 [t2]) → (Arv Z hJ17 t2 k2 .byte Y2 es (.int (0 : Int32))) → (nAbs x / 10 ^ w < 100 ^ fuel) → (Gp x q1 i ps w) → (Jv xs es (nAbs x) q1.toNatClampNeg w) → ((x < (0 : Int32) ∧ ng = (1 : Int32)) ∨ (¬ x < (0 : Int32) ∧ ng = (0 : Int32))) → Go p e below (Done s (fun v h L => ∃ r : Int32, v = some (.int r) ∧ Fr n0 L ∧ Keep h0 h [t2] ∧ Arv Z h t2 k2 .byte Y2 (xs ++ dsL x) (.int (0 : Int32))) ({ frames := 0, cells := 0, slots := 0, locals := 0 } : Room).cells ({ frames := 0, cells := 0, slots := 0, locals := 0 } : Room).slots) TJ17 (mkF m 22 #[iv i, iv q1, rv t2, iv v3, iv v4, iv ps, iv ng] []) := by
   intro fuel
   induction fuel with
   | zero =>
    intro TJ17 hJ17 LJ17 i ps ng v3 v4 es w XJ17 eJ17 OJ17 NJ17 KJ17 hv hfu G J hng
    have lt_t2J := hv.lt
    refine zin 23 XJ17 hx (D d20_22) rfl ?_
    refine zbp 25 (-100) XJ17 hx (D d20_23) ?_
    refine zcy 72 XJ17 hx (D d20_25) (tlt ((gp_100 G).mpr (gp_f0 hfu))).2.2.1 ?_
    exact GE _ hJ17 _ i ps ng (.val (.int v3)) (.val (.int v4)) es w XJ17 eJ17 OJ17 NJ17 KJ17 hv (gp_f0 hfu) G J hng
   | succ fuel ih =>
    intro TJ17 hJ17 LJ17 i ps ng v3 v4 es w XJ17 eJ17 OJ17 NJ17 KJ17 hv hfu G J hng
    have lt_t2J := hv.lt
    refine zin 23 XJ17 hx (D d20_22) rfl ?_
    refine zbp 25 (-100) XJ17 hx (D d20_23) ?_
    by_cases cd18 : (-100 : Int32) < i
    · refine zcy 72 XJ17 hx (D d20_25) (tlt cd18).2.2.1 ?_
      exact GE _ hJ17 _ i ps ng (.val (.int v3)) (.val (.int v4)) es w XJ17 eJ17 OJ17 NJ17 KJ17 hv ((gp_100 G).mp cd18) G J hng
    · refine zcn 28 XJ17 hx (D d20_25) (flt cd18).2.2.1 ?_
      have h100 : ¬ nAbs x / 10 ^ w < 100 := fun q => cd18 ((gp_100 G).mpr q)
      refine zin 29 XJ17 hx (D d20_28) rfl ?_
      refine zbp 31 100 XJ17 hx (D d20_29) ?_
      refine Go.st (f' := (mkF m 32 #[iv i, iv q1, rv t2, iv v3, iv v4, iv ps, iv ng] [(.int (i / (100 : Int32)))])) (fun _ k => XS.idiv XJ17.here hx rfl (D d20_31) rfl (by decide) k) ?_
      obtain ⟨yy19, hyy19⟩ : ∃ z, z = (i / (100 : Int32)) := ⟨_, rfl⟩
      rw [← hyy19]
      refine zsn 33 #[iv i, iv q1, rv t2, iv yy19, iv v4, iv ps, iv ng] XJ17 hx (D d20_32) ?_
      refine zin 34 XJ17 hx (D d20_33) rfl ?_
      refine zbp 36 100 XJ17 hx (D d20_34) ?_
      refine Go.st (f' := (mkF m 37 #[iv i, iv q1, rv t2, iv yy19, iv v4, iv ps, iv ng] [(.int (yy19 * (100 : Int32)))])) (fun _ k => XS.imul XJ17.here hx rfl (D d20_36) rfl k) ?_
      refine zin 38 XJ17 hx (D d20_37) rfl ?_
      refine zsb 39 XJ17 hx (D d20_38) ?_
      obtain ⟨yy20, hyy20⟩ : ∃ z, z = ((yy19 * (100 : Int32)) - i) := ⟨_, rfl⟩
      rw [← hyy20]
      have gs := gp_step F G J h100 hyy19 hyy20
      have tb := own_tb (f := fun r => .int (Int32.ofNat (48 + r % 10))) (d := .int (0 : Int32)) gs.1 (Nat.mod_lt _ (by decide))
      have tc := own_tb (f := fun r => .int (Int32.ofNat (48 + r / 10))) (d := .int (0 : Int32)) gs.1 (Nat.mod_lt _ (by decide))
      refine zsl 41 #[iv i, iv q1, rv t2, iv yy19, iv yy20, iv ps, iv ng] XJ17 hx (D d20_39) ?_
      refine zin 42 XJ17 hx (D d20_41) rfl ?_
      refine zsn 43 #[iv yy19, iv q1, rv t2, iv yy19, iv yy20, iv ps, iv ng] XJ17 hx (D d20_42) ?_
      refine zan 44 XJ17 hx (D d20_43) rfl rfl ?_
      refine zii 47 #[iv yy19, iv q1, rv t2, iv yy19, iv yy20, .val (.int (ps + (-1 : Int32))), iv ng] XJ17 hx (D d20_44) rfl ?_
      refine zil 49 XJ17 hx (D d20_47) rfl ?_
      obtain ⟨T21, X21, e21, st21⟩ := getS2 XJ17 hx hZ hown (host := "") (Or.inl (ww hw 126 rfl)) Via.refl eJ17 (S_wO.ext OJ17.2) (g := (mkF m 49 #[iv yy19, iv q1, rv t2, iv yy19, iv yy20, .val (.int (ps + (-1 : Int32))), iv ng] [(.int (ps + (-1 : Int32))), (.ref t2)])) rfl (D d20_49)
      refine zst 52 #[iv yy19, iv q1, rv t2, iv yy19, iv yy20, .val (.int (ps + (-1 : Int32))), iv ng] [(.ref wO), (.int (ps + (-1 : Int32))), (.ref t2)] st21 ?_
      refine zil 54 X21 hx (D d20_52) rfl ?_
      obtain ⟨cl22, Ar22, -, S22, -, H22, -⟩ := id (V_wO.ext OJ17.2)
      have hin22 : ¬ (yy20 < 0 ∨ cl22.slots.size ≤ (yy20).toNatClampNeg) := inb_of S22 ⟨tb.2.1, tb.2.2⟩
      have hat22 : cl22.slots[(yy20).toNatClampNeg]? = some (.int (Int32.ofNat (48 + nAbs x / 10 ^ w % 100 % 10))) := H22.at hin22 tb.1
      refine Go.st (f' := (mkF m 55 #[iv yy19, iv q1, rv t2, iv yy19, iv yy20, .val (.int (ps + (-1 : Int32))), iv ng] [(.int (Int32.ofNat (48 + nAbs x / 10 ^ w % 100 % 10))), (.int (ps + (-1 : Int32))), (.ref t2)])) (fun _ k => X21.baloadBytes hx (j := yy20) (v := (.int (Int32.ofNat (48 + nAbs x / 10 ^ w % 100 % 10)))) (by rw [e21]; exact Ar22.1) (State.isArrayOf_alike hZ.alike Ar22.2.1) Ar22.2.2 hin22 hat22 (g := (mkF m 54 #[iv yy19, iv q1, rv t2, iv yy19, iv yy20, .val (.int (ps + (-1 : Int32))), iv ng] [(.int yy20), (.ref wO), (.int (ps + (-1 : Int32))), (.ref t2)])) rfl rfl (D d20_54) _ k) ?_
      obtain ⟨cl23, Ar23, q23, S23, Nx23, H23, G23⟩ := Arv.pad hv (pad_rep es (.int (0 : Int32)) (((ps + (-1 : Int32))).toNatClampNeg + 1))
      have hin23 : ¬ ((ps + (-1 : Int32)) < 0 ∨ cl23.slots.size ≤ ((ps + (-1 : Int32))).toNatClampNeg) := inb_of S23 ⟨gs.2.1.1, gs.2.1.2⟩
      obtain ⟨T24, h24, X24, e24, W24, st24⟩ := stB X21 hx hZ e21 Ar23 (j := (ps + (-1 : Int32))) hin23 (g := (mkF m 55 #[iv yy19, iv q1, rv t2, iv yy19, iv yy20, .val (.int (ps + (-1 : Int32))), iv ng] [(.int (Int32.ofNat (48 + nAbs x / 10 ^ w % 100 % 10))), (.int (ps + (-1 : Int32))), (.ref t2)])) rfl rfl (D d20_55)
      have V_t2_24 : Arv Z h24 t2 k2 .byte Y2 (lput es ((ps + (-1 : Int32))).toNatClampNeg (.int (nar .byte (Int32.ofNat (48 + nAbs x / 10 ^ w % 100 % 10)))) (.int (0 : Int32))) (.int (0 : Int32)) := Arv.set Ar23 q23 S23 Nx23 H23 G23 (fits_nar_byte _) W24 _ rfl (lput_len _ _ _)
      have N24 := Fr.snoc X24 NJ17 g_t2
      have O24 : Old Z n0 h24 := OJ17.wr W24 g_t2
      have K24 : Keep h0 h24 [t2] := KJ17.wr W24 (Or.inl (List.mem_of_getElem? (i := 0) rfl))
      refine zst 56 #[iv yy19, iv q1, rv t2, iv yy19, iv yy20, .val (.int (ps + (-1 : Int32))), iv ng] [] st24 ?_
      refine zan 57 X24 hx (D d20_56) rfl rfl ?_
      refine zii 60 #[iv yy19, iv q1, rv t2, iv yy19, iv yy20, .val (.int ((ps + (-1 : Int32)) + (-1 : Int32))), iv ng] X24 hx (D d20_57) rfl ?_
      refine zil 62 X24 hx (D d20_60) rfl ?_
      obtain ⟨T25, X25, e25, st25⟩ := getS2 X24 hx hZ hown (host := "") (Or.inl (ww hw 242 rfl)) Via.refl e24 (S_wT.ext O24.2) (g := (mkF m 62 #[iv yy19, iv q1, rv t2, iv yy19, iv yy20, .val (.int ((ps + (-1 : Int32)) + (-1 : Int32))), iv ng] [(.int ((ps + (-1 : Int32)) + (-1 : Int32))), (.ref t2)])) rfl (D d20_62)
      refine zst 65 #[iv yy19, iv q1, rv t2, iv yy19, iv yy20, .val (.int ((ps + (-1 : Int32)) + (-1 : Int32))), iv ng] [(.ref wT), (.int ((ps + (-1 : Int32)) + (-1 : Int32))), (.ref t2)] st25 ?_
      refine zil 67 X25 hx (D d20_65) rfl ?_
      obtain ⟨cl26, Ar26, -, S26, -, H26, -⟩ := id (V_wT.ext O24.2)
      have hin26 : ¬ (yy20 < 0 ∨ cl26.slots.size ≤ (yy20).toNatClampNeg) := inb_of S26 ⟨tb.2.1, tb.2.2⟩
      have hat26 : cl26.slots[(yy20).toNatClampNeg]? = some (.int (Int32.ofNat (48 + nAbs x / 10 ^ w % 100 / 10))) := H26.at hin26 tc.1
      refine Go.st (f' := (mkF m 68 #[iv yy19, iv q1, rv t2, iv yy19, iv yy20, .val (.int ((ps + (-1 : Int32)) + (-1 : Int32))), iv ng] [(.int (Int32.ofNat (48 + nAbs x / 10 ^ w % 100 / 10))), (.int ((ps + (-1 : Int32)) + (-1 : Int32))), (.ref t2)])) (fun _ k => X25.baloadBytes hx (j := yy20) (v := (.int (Int32.ofNat (48 + nAbs x / 10 ^ w % 100 / 10)))) (by rw [e25]; exact Ar26.1) (State.isArrayOf_alike hZ.alike Ar26.2.1) Ar26.2.2 hin26 hat26 (g := (mkF m 67 #[iv yy19, iv q1, rv t2, iv yy19, iv yy20, .val (.int ((ps + (-1 : Int32)) + (-1 : Int32))), iv ng] [(.int yy20), (.ref wT), (.int ((ps + (-1 : Int32)) + (-1 : Int32))), (.ref t2)])) rfl rfl (D d20_67) _ k) ?_
      obtain ⟨cl27, Ar27, q27, S27, Nx27, H27, G27⟩ := Arv.pad V_t2_24 (pad_rep (lput es ((ps + (-1 : Int32))).toNatClampNeg (.int (nar .byte (Int32.ofNat (48 + nAbs x / 10 ^ w % 100 % 10)))) (.int (0 : Int32))) (.int (0 : Int32)) ((((ps + (-1 : Int32)) + (-1 : Int32))).toNatClampNeg + 1))
      have hin27 : ¬ (((ps + (-1 : Int32)) + (-1 : Int32)) < 0 ∨ cl27.slots.size ≤ (((ps + (-1 : Int32)) + (-1 : Int32))).toNatClampNeg) := inb_of S27 ⟨gs.2.2.1.1, gs.2.2.1.2⟩
      obtain ⟨T28, h28, X28, e28, W28, st28⟩ := stB X25 hx hZ e25 Ar27 (j := ((ps + (-1 : Int32)) + (-1 : Int32))) hin27 (g := (mkF m 68 #[iv yy19, iv q1, rv t2, iv yy19, iv yy20, .val (.int ((ps + (-1 : Int32)) + (-1 : Int32))), iv ng] [(.int (Int32.ofNat (48 + nAbs x / 10 ^ w % 100 / 10))), (.int ((ps + (-1 : Int32)) + (-1 : Int32))), (.ref t2)])) rfl rfl (D d20_68)
      have V_t2_28 : Arv Z h28 t2 k2 .byte Y2 (lput (lput es ((ps + (-1 : Int32))).toNatClampNeg (.int (nar .byte (Int32.ofNat (48 + nAbs x / 10 ^ w % 100 % 10)))) (.int (0 : Int32))) (((ps + (-1 : Int32)) + (-1 : Int32))).toNatClampNeg (.int (nar .byte (Int32.ofNat (48 + nAbs x / 10 ^ w % 100 / 10)))) (.int (0 : Int32))) (.int (0 : Int32)) := Arv.set Ar27 q27 S27 Nx27 H27 G27 (fits_nar_byte _) W28 _ rfl (lput_len _ _ _)
      have N28 := Fr.snoc X28 N24 g_t2
      have O28 : Old Z n0 h28 := O24.wr W28 g_t2
      have K28 : Keep h0 h28 [t2] := K24.wr W28 (Or.inl (List.mem_of_getElem? (i := 0) rfl))
      refine zst 69 #[iv yy19, iv q1, rv t2, iv yy19, iv yy20, .val (.int ((ps + (-1 : Int32)) + (-1 : Int32))), iv ng] [] st28 ?_
      refine zgo 22 X28 hx (D d20_69) ?_
      exact ih _ h28 _ yy19 ((ps + (-1 : Int32)) + (-1 : Int32)) ng yy19 yy20 (lput (lput es ((ps + (-1 : Int32))).toNatClampNeg (.int (nar .byte (Int32.ofNat (48 + nAbs x / 10 ^ w % 100 % 10)))) (.int (0 : Int32))) (((ps + (-1 : Int32)) + (-1 : Int32))).toNatClampNeg (.int (nar .byte (Int32.ofNat (48 + nAbs x / 10 ^ w % 100 / 10)))) (.int (0 : Int32))) (w + 2) X28 e28 O28 N28 K28 V_t2_28 (gp_fu hfu) gs.2.2.2.1 gs.2.2.2.2 hng
  have GA : ∀ (TJ29 : State) (hJ29 : Heap) (LJ29 : List Loc) (i : Int32) (ng : Int32), (Stand p l e ({ frames := 0, cells := 0, slots := 0, locals := 0 } : Room) s m #[(.int x), (.int q1), (.ref t2)] below meth c TJ29 LJ29 0 0) → (TJ29.heap = hJ29) → (Old Z n0 hJ29) → (Fr n0 LJ29) → (Keep h0 hJ29 [t2]) → (Arv Z hJ29 t2 k2 .byte Y2 xs (.int (0 : Int32))) → (Gp x q1 i q1 0) → ((x < (0 : Int32) ∧ ng = (1 : Int32)) ∨ (¬ x < (0 : Int32) ∧ ng = (0 : Int32))) → Go p e below (Done s (fun v h L => ∃ r : Int32, v = some (.int r) ∧ Fr n0 L ∧ Keep h0 h [t2] ∧ Arv Z h t2 k2 .byte Y2 (xs ++ dsL x) (.int (0 : Int32))) ({ frames := 0, cells := 0, slots := 0, locals := 0 } : Room).cells ({ frames := 0, cells := 0, slots := 0, locals := 0 } : Room).slots) TJ29 (mkF m 22 #[iv i, iv q1, rv t2, .unset, .unset, iv q1, iv ng] []) := by
   intro TJ29 hJ29 LJ29 i ng XJ29 eJ29 OJ29 NJ29 KJ29 hv G hng
   have lt_t2J := hv.lt
   refine zin 23 XJ29 hx (D d20_22) rfl ?_
   refine zbp 25 (-100) XJ29 hx (D d20_23) ?_
   by_cases cd30 : (-100 : Int32) < i
   · refine zcy 72 XJ29 hx (D d20_25) (tlt cd30).2.2.1 ?_
     exact GE _ hJ29 _ i q1 ng .unset .unset xs 0 XJ29 eJ29 OJ29 NJ29 KJ29 hv ((gp_100 G).mp cd30) G Jv.zero hng
   · refine zcn 28 XJ29 hx (D d20_25) (flt cd30).2.2.1 ?_
     have h100 : ¬ nAbs x / 10 ^ 0 < 100 := fun q => cd30 ((gp_100 G).mpr q)
     refine zin 29 XJ29 hx (D d20_28) rfl ?_
     refine zbp 31 100 XJ29 hx (D d20_29) ?_
     refine Go.st (f' := (mkF m 32 #[iv i, iv q1, rv t2, .unset, .unset, iv q1, iv ng] [(.int (i / (100 : Int32)))])) (fun _ k => XS.idiv XJ29.here hx rfl (D d20_31) rfl (by decide) k) ?_
     obtain ⟨yy31, hyy31⟩ : ∃ z, z = (i / (100 : Int32)) := ⟨_, rfl⟩
     rw [← hyy31]
     refine zsn 33 #[iv i, iv q1, rv t2, iv yy31, .unset, iv q1, iv ng] XJ29 hx (D d20_32) ?_
     refine zin 34 XJ29 hx (D d20_33) rfl ?_
     refine zbp 36 100 XJ29 hx (D d20_34) ?_
     refine Go.st (f' := (mkF m 37 #[iv i, iv q1, rv t2, iv yy31, .unset, iv q1, iv ng] [(.int (yy31 * (100 : Int32)))])) (fun _ k => XS.imul XJ29.here hx rfl (D d20_36) rfl k) ?_
     refine zin 38 XJ29 hx (D d20_37) rfl ?_
     refine zsb 39 XJ29 hx (D d20_38) ?_
     obtain ⟨yy32, hyy32⟩ : ∃ z, z = ((yy31 * (100 : Int32)) - i) := ⟨_, rfl⟩
     rw [← hyy32]
     have gs := gp_step F G Jv.zero h100 hyy31 hyy32
     have tb := own_tb (f := fun r => .int (Int32.ofNat (48 + r % 10))) (d := .int (0 : Int32)) gs.1 (Nat.mod_lt _ (by decide))
     have tc := own_tb (f := fun r => .int (Int32.ofNat (48 + r / 10))) (d := .int (0 : Int32)) gs.1 (Nat.mod_lt _ (by decide))
     refine zsl 41 #[iv i, iv q1, rv t2, iv yy31, iv yy32, iv q1, iv ng] XJ29 hx (D d20_39) ?_
     refine zin 42 XJ29 hx (D d20_41) rfl ?_
     refine zsn 43 #[iv yy31, iv q1, rv t2, iv yy31, iv yy32, iv q1, iv ng] XJ29 hx (D d20_42) ?_
     refine zan 44 XJ29 hx (D d20_43) rfl rfl ?_
     refine zii 47 #[iv yy31, iv q1, rv t2, iv yy31, iv yy32, .val (.int (q1 + (-1 : Int32))), iv ng] XJ29 hx (D d20_44) rfl ?_
     refine zil 49 XJ29 hx (D d20_47) rfl ?_
     obtain ⟨T33, X33, e33, st33⟩ := getS2 XJ29 hx hZ hown (host := "") (Or.inl (ww hw 126 rfl)) Via.refl eJ29 (S_wO.ext OJ29.2) (g := (mkF m 49 #[iv yy31, iv q1, rv t2, iv yy31, iv yy32, .val (.int (q1 + (-1 : Int32))), iv ng] [(.int (q1 + (-1 : Int32))), (.ref t2)])) rfl (D d20_49)
     refine zst 52 #[iv yy31, iv q1, rv t2, iv yy31, iv yy32, .val (.int (q1 + (-1 : Int32))), iv ng] [(.ref wO), (.int (q1 + (-1 : Int32))), (.ref t2)] st33 ?_
     refine zil 54 X33 hx (D d20_52) rfl ?_
     obtain ⟨cl34, Ar34, -, S34, -, H34, -⟩ := id (V_wO.ext OJ29.2)
     have hin34 : ¬ (yy32 < 0 ∨ cl34.slots.size ≤ (yy32).toNatClampNeg) := inb_of S34 ⟨tb.2.1, tb.2.2⟩
     have hat34 : cl34.slots[(yy32).toNatClampNeg]? = some (.int (Int32.ofNat (48 + nAbs x / 10 ^ 0 % 100 % 10))) := H34.at hin34 tb.1
     refine Go.st (f' := (mkF m 55 #[iv yy31, iv q1, rv t2, iv yy31, iv yy32, .val (.int (q1 + (-1 : Int32))), iv ng] [(.int (Int32.ofNat (48 + nAbs x / 10 ^ 0 % 100 % 10))), (.int (q1 + (-1 : Int32))), (.ref t2)])) (fun _ k => X33.baloadBytes hx (j := yy32) (v := (.int (Int32.ofNat (48 + nAbs x / 10 ^ 0 % 100 % 10)))) (by rw [e33]; exact Ar34.1) (State.isArrayOf_alike hZ.alike Ar34.2.1) Ar34.2.2 hin34 hat34 (g := (mkF m 54 #[iv yy31, iv q1, rv t2, iv yy31, iv yy32, .val (.int (q1 + (-1 : Int32))), iv ng] [(.int yy32), (.ref wO), (.int (q1 + (-1 : Int32))), (.ref t2)])) rfl rfl (D d20_54) _ k) ?_
     obtain ⟨cl35, Ar35, q35, S35, Nx35, H35, G35⟩ := Arv.pad hv (pad_rep xs (.int (0 : Int32)) (((q1 + (-1 : Int32))).toNatClampNeg + 1))
     have hin35 : ¬ ((q1 + (-1 : Int32)) < 0 ∨ cl35.slots.size ≤ ((q1 + (-1 : Int32))).toNatClampNeg) := inb_of S35 ⟨gs.2.1.1, gs.2.1.2⟩
     obtain ⟨T36, h36, X36, e36, W36, st36⟩ := stB X33 hx hZ e33 Ar35 (j := (q1 + (-1 : Int32))) hin35 (g := (mkF m 55 #[iv yy31, iv q1, rv t2, iv yy31, iv yy32, .val (.int (q1 + (-1 : Int32))), iv ng] [(.int (Int32.ofNat (48 + nAbs x / 10 ^ 0 % 100 % 10))), (.int (q1 + (-1 : Int32))), (.ref t2)])) rfl rfl (D d20_55)
     have V_t2_36 : Arv Z h36 t2 k2 .byte Y2 (lput xs ((q1 + (-1 : Int32))).toNatClampNeg (.int (nar .byte (Int32.ofNat (48 + nAbs x / 10 ^ 0 % 100 % 10)))) (.int (0 : Int32))) (.int (0 : Int32)) := Arv.set Ar35 q35 S35 Nx35 H35 G35 (fits_nar_byte _) W36 _ rfl (lput_len _ _ _)
     have N36 := Fr.snoc X36 NJ29 g_t2
     have O36 : Old Z n0 h36 := OJ29.wr W36 g_t2
     have K36 : Keep h0 h36 [t2] := KJ29.wr W36 (Or.inl (List.mem_of_getElem? (i := 0) rfl))
     refine zst 56 #[iv yy31, iv q1, rv t2, iv yy31, iv yy32, .val (.int (q1 + (-1 : Int32))), iv ng] [] st36 ?_
     refine zan 57 X36 hx (D d20_56) rfl rfl ?_
     refine zii 60 #[iv yy31, iv q1, rv t2, iv yy31, iv yy32, .val (.int ((q1 + (-1 : Int32)) + (-1 : Int32))), iv ng] X36 hx (D d20_57) rfl ?_
     refine zil 62 X36 hx (D d20_60) rfl ?_
     obtain ⟨T37, X37, e37, st37⟩ := getS2 X36 hx hZ hown (host := "") (Or.inl (ww hw 242 rfl)) Via.refl e36 (S_wT.ext O36.2) (g := (mkF m 62 #[iv yy31, iv q1, rv t2, iv yy31, iv yy32, .val (.int ((q1 + (-1 : Int32)) + (-1 : Int32))), iv ng] [(.int ((q1 + (-1 : Int32)) + (-1 : Int32))), (.ref t2)])) rfl (D d20_62)
     refine zst 65 #[iv yy31, iv q1, rv t2, iv yy31, iv yy32, .val (.int ((q1 + (-1 : Int32)) + (-1 : Int32))), iv ng] [(.ref wT), (.int ((q1 + (-1 : Int32)) + (-1 : Int32))), (.ref t2)] st37 ?_
     refine zil 67 X37 hx (D d20_65) rfl ?_
     obtain ⟨cl38, Ar38, -, S38, -, H38, -⟩ := id (V_wT.ext O36.2)
     have hin38 : ¬ (yy32 < 0 ∨ cl38.slots.size ≤ (yy32).toNatClampNeg) := inb_of S38 ⟨tb.2.1, tb.2.2⟩
     have hat38 : cl38.slots[(yy32).toNatClampNeg]? = some (.int (Int32.ofNat (48 + nAbs x / 10 ^ 0 % 100 / 10))) := H38.at hin38 tc.1
     refine Go.st (f' := (mkF m 68 #[iv yy31, iv q1, rv t2, iv yy31, iv yy32, .val (.int ((q1 + (-1 : Int32)) + (-1 : Int32))), iv ng] [(.int (Int32.ofNat (48 + nAbs x / 10 ^ 0 % 100 / 10))), (.int ((q1 + (-1 : Int32)) + (-1 : Int32))), (.ref t2)])) (fun _ k => X37.baloadBytes hx (j := yy32) (v := (.int (Int32.ofNat (48 + nAbs x / 10 ^ 0 % 100 / 10)))) (by rw [e37]; exact Ar38.1) (State.isArrayOf_alike hZ.alike Ar38.2.1) Ar38.2.2 hin38 hat38 (g := (mkF m 67 #[iv yy31, iv q1, rv t2, iv yy31, iv yy32, .val (.int ((q1 + (-1 : Int32)) + (-1 : Int32))), iv ng] [(.int yy32), (.ref wT), (.int ((q1 + (-1 : Int32)) + (-1 : Int32))), (.ref t2)])) rfl rfl (D d20_67) _ k) ?_
     obtain ⟨cl39, Ar39, q39, S39, Nx39, H39, G39⟩ := Arv.pad V_t2_36 (pad_rep (lput xs ((q1 + (-1 : Int32))).toNatClampNeg (.int (nar .byte (Int32.ofNat (48 + nAbs x / 10 ^ 0 % 100 % 10)))) (.int (0 : Int32))) (.int (0 : Int32)) ((((q1 + (-1 : Int32)) + (-1 : Int32))).toNatClampNeg + 1))
     have hin39 : ¬ (((q1 + (-1 : Int32)) + (-1 : Int32)) < 0 ∨ cl39.slots.size ≤ (((q1 + (-1 : Int32)) + (-1 : Int32))).toNatClampNeg) := inb_of S39 ⟨gs.2.2.1.1, gs.2.2.1.2⟩
     obtain ⟨T40, h40, X40, e40, W40, st40⟩ := stB X37 hx hZ e37 Ar39 (j := ((q1 + (-1 : Int32)) + (-1 : Int32))) hin39 (g := (mkF m 68 #[iv yy31, iv q1, rv t2, iv yy31, iv yy32, .val (.int ((q1 + (-1 : Int32)) + (-1 : Int32))), iv ng] [(.int (Int32.ofNat (48 + nAbs x / 10 ^ 0 % 100 / 10))), (.int ((q1 + (-1 : Int32)) + (-1 : Int32))), (.ref t2)])) rfl rfl (D d20_68)
     have V_t2_40 : Arv Z h40 t2 k2 .byte Y2 (lput (lput xs ((q1 + (-1 : Int32))).toNatClampNeg (.int (nar .byte (Int32.ofNat (48 + nAbs x / 10 ^ 0 % 100 % 10)))) (.int (0 : Int32))) (((q1 + (-1 : Int32)) + (-1 : Int32))).toNatClampNeg (.int (nar .byte (Int32.ofNat (48 + nAbs x / 10 ^ 0 % 100 / 10)))) (.int (0 : Int32))) (.int (0 : Int32)) := Arv.set Ar39 q39 S39 Nx39 H39 G39 (fits_nar_byte _) W40 _ rfl (lput_len _ _ _)
     have N40 := Fr.snoc X40 N36 g_t2
     have O40 : Old Z n0 h40 := O36.wr W40 g_t2
     have K40 : Keep h0 h40 [t2] := K36.wr W40 (Or.inl (List.mem_of_getElem? (i := 0) rfl))
     refine zst 69 #[iv yy31, iv q1, rv t2, iv yy31, iv yy32, .val (.int ((q1 + (-1 : Int32)) + (-1 : Int32))), iv ng] [] st40 ?_
     refine zgo 22 X40 hx (D d20_69) ?_
     exact GB 4 _ h40 _ yy31 ((q1 + (-1 : Int32)) + (-1 : Int32)) ng yy31 yy32 (lput (lput xs ((q1 + (-1 : Int32))).toNatClampNeg (.int (nar .byte (Int32.ofNat (48 + nAbs x / 10 ^ 0 % 100 % 10)))) (.int (0 : Int32))) (((q1 + (-1 : Int32)) + (-1 : Int32))).toNatClampNeg (.int (nar .byte (Int32.ofNat (48 + nAbs x / 10 ^ 0 % 100 / 10)))) (.int (0 : Int32))) (0 + 2) X40 e40 O40 N40 K40 V_t2_40 (gp_fu (gp_f5 x)) gs.2.2.2.1 gs.2.2.2.2 hng
  refine zin 1 X0 hx (D d20_0) rfl ?_
  refine zsl 3 #[iv x, iv q1, rv t2, .unset, .unset, iv q1, .unset] X0 hx (D d20_1) ?_
  refine zin 4 X0 hx (D d20_3) rfl ?_
  by_cases cd41 : x < (0 : Int32)
  · refine zfn 7 X0 hx (D d20_4) ((if0 _ _).trans (tlt cd41).2.1) ?_
    refine zic 8 1 X0 hx (D d20_7) ?_
    refine zgo 12 X0 hx (D d20_8) ?_
    refine zsl 14 #[iv x, iv q1, rv t2, .unset, .unset, iv q1, iv 1] X0 hx (D d20_12) ?_
    refine zil 16 X0 hx (D d20_14) rfl ?_
    refine zfy 22 X0 hx (D d20_16) (by decide) ?_
    exact GA _ h0 _ x (1 : Int32) X0 e0 O0 N0 K0 V_t2 (by have q := gp_start (x := x) (q1 := q1); rw [if_pos cd41] at q; exact q) (Or.inl ⟨cd41, rfl⟩)
  · refine zfy 11 X0 hx (D d20_4) ((if0 _ _).trans (flt cd41).2.1) ?_
    refine zic 12 0 X0 hx (D d20_11) ?_
    refine zsl 14 #[iv x, iv q1, rv t2, .unset, .unset, iv q1, iv 0] X0 hx (D d20_12) ?_
    refine zil 16 X0 hx (D d20_14) rfl ?_
    refine zfn 19 X0 hx (D d20_16) (by decide) ?_
    refine zin 20 X0 hx (D d20_19) rfl ?_
    refine Go.st (f' := (mkF m 21 #[iv x, iv q1, rv t2, .unset, .unset, iv q1, iv 0] [(.int (-x))])) (fun _ k => XS.ineg X0.here hx rfl (D d20_20) rfl k) ?_
    refine zsn 22 #[.val (.int (-x)), iv q1, rv t2, .unset, .unset, iv q1, iv 0] X0 hx (D d20_21) ?_
    exact GA _ h0 _ (-x) (0 : Int32) X0 e0 O0 N0 K0 V_t2 (by have q := gp_start (x := x) (q1 := q1); rw [if_neg cd41] at q; exact q) (Or.inr ⟨cd41, rfl⟩)
theorem own_fx {x c sz N M : Int32} {xs : List Value} (lc : Ln c xs) (ls : Ln sz (dsL x)) (h : xs.length + (dsL x).length ≤ 100) (d : Bd c N) (r : (c + sz).toInt ≤ M.toInt) (t : M.toInt ≤ 200) : Fx x (c + sz) c M xs := by
  have q := (own_cb lc ls h d).2
  have := ls.2
  exact ⟨lc, by omega, r, t⟩
theorem d17_0 : decode jdk_68_method_32_code 0 = .ok (.aload_n 0, 1) := by decide +kernel
theorem d17_1 : decode jdk_68_method_32_code 1 = .ok (.getfield 79, 3) := by decide +kernel
theorem d17_4 : decode jdk_68_method_32_code 4 = .ok (.istore_n 2, 1) := by decide +kernel
theorem d17_5 : decode jdk_68_method_32_code 5 = .ok (.iload_n 2, 1) := by decide +kernel
theorem d17_6 : decode jdk_68_method_32_code 6 = .ok (.iload_n 1, 1) := by decide +kernel
theorem d17_7 : decode jdk_68_method_32_code 7 = .ok (.invokestatic 245, 3) := by decide +kernel
theorem d17_10 : decode jdk_68_method_32_code 10 = .ok (.iadd, 1) := by decide +kernel
theorem d17_11 : decode jdk_68_method_32_code 11 = .ok (.istore_n 3, 1) := by decide +kernel
theorem d17_12 : decode jdk_68_method_32_code 12 = .ok (.aload_n 0, 1) := by decide +kernel
theorem d17_13 : decode jdk_68_method_32_code 13 = .ok (.iload_n 3, 1) := by decide +kernel
theorem d17_14 : decode jdk_68_method_32_code 14 = .ok (.invokevirtual 100, 3) := by decide +kernel
theorem d17_17 : decode jdk_68_method_32_code 17 = .ok (.aload_n 0, 1) := by decide +kernel
theorem d17_18 : decode jdk_68_method_32_code 18 = .ok (.invokevirtual 83, 3) := by decide +kernel
theorem d17_21 : decode jdk_68_method_32_code 21 = .ok (.ifCond .eq 16, 3) := by decide +kernel
theorem d17_24 : decode jdk_68_method_32_code 24 = .ok (.iload_n 1, 1) := by decide +kernel
theorem d17_25 : decode jdk_68_method_32_code 25 = .ok (.iload_n 3, 1) := by decide +kernel
theorem d17_26 : decode jdk_68_method_32_code 26 = .ok (.aload_n 0, 1) := by decide +kernel
theorem d17_27 : decode jdk_68_method_32_code 27 = .ok (.getfield 15, 3) := by decide +kernel
theorem d17_30 : decode jdk_68_method_32_code 30 = .ok (.invokestatic 248, 3) := by decide +kernel
theorem pd__II_B_I : parseMethodDescriptor "(II[B)I" = some ⟨[.int, .int, (.array .byte)], some .int⟩ := by decide +kernel
theorem d17_33 : decode jdk_68_method_32_code 33 = .ok (.pop, 1) := by decide +kernel
theorem d17_34 : decode jdk_68_method_32_code 34 = .ok (.goto 14, 3) := by decide +kernel
theorem d17_48 : decode jdk_68_method_32_code 48 = .ok (.aload_n 0, 1) := by decide +kernel
theorem d17_49 : decode jdk_68_method_32_code 49 = .ok (.iload_n 3, 1) := by decide +kernel
theorem d17_50 : decode jdk_68_method_32_code 50 = .ok (.putfield 79, 3) := by decide +kernel
theorem d17_53 : decode jdk_68_method_32_code 53 = .ok (.aload_n 0, 1) := by decide +kernel
theorem d17_54 : decode jdk_68_method_32_code 54 = .ok (.areturn, 1) := by decide +kernel
set_option maxRecDepth 65536 in
set_option maxHeartbeats 40000000 in
theorem gai (l : Launch) (Z : State) (a0 : Array Value) (hw : ∀ d ∈ tables_1, d.before a0 Z = true) (ws : List Jvm.Cond) (sb : Addr) (x : Int32) (t2 : Addr) (k2 : ClassId) (Y2 : Int32) (c2 : Int32) (xs : List Value) (wO : Addr) (wT : Addr) (kO : ClassId) (kT : ClassId) (iC : Int32) (vF : Value) (h0 : Heap) (n0 : Nat) (O0 : Old Z n0 h0) (lc : Ln c2 xs) (bd : Bd c2 Y2) (cap : xs.length ≤ 88) (g_sb : n0 ≤ sb) (g_t2 : n0 ≤ t2) (E_sb : Exa Z h0 sb "java/lang/StringBuilder") (F_sb_coder : Fld Z h0 sb "java/lang/AbstractStringBuilder" "coder" "B" (.int 0)) (F_sb_value : Fld Z h0 sb "java/lang/AbstractStringBuilder" "value" "[B" (.ref t2)) (F_sb_count : Fld Z h0 sb "java/lang/AbstractStringBuilder" "count" "I" (.int c2)) (E_t2 : Exa Z h0 t2 "[B") (V_t2 : Arv Z h0 t2 k2 .byte Y2 xs (.int 0)) (WW : World1 Z wO wT kO kT iC vF) :
    Con l Z mq27 jdk_68_method_32_code 4 (some (.object "java/lang/AbstractStringBuilder")) ws ({ frames := 4, cells := 1, slots := 200, locals := 62 } : Room) #[(.ref sb), (.int x)] h0 (fun v h L => ∃ cn : Int32, Ln cn (xs ++ dsL x) ∧ v = some (.ref sb) ∧ Fr n0 L ∧ Keep h0 h [sb, t2] ∧ Exa Z h sb "java/lang/StringBuilder" ∧ Fld Z h sb "java/lang/AbstractStringBuilder" "coder" "B" (.int 0) ∧ Fld Z h sb "java/lang/AbstractStringBuilder" "count" "I" (.int cn) ∧ ∃ (t : Addr) (kt : ClassId) (N : Int32), (t = t2 ∨ h0.size ≤ t) ∧ Fld Z h sb "java/lang/AbstractStringBuilder" "value" "[B" (.ref t) ∧ Exa Z h t "[B" ∧ Arv Z h t kt .byte N (xs ++ dsL x) (.int 0) ∧ Bd cn N) := by
  refine own_body (plainFor_of_name pn_java_lang_AbstractStringBuilder) ?_
  intro p e s m below meth c s₁ hx hby hml hZ hown hnm hlk hret X0 e0
  have N0 := Fr.nil n0
  have D := @hb _ _ hby
  have K0 : Keep h0 h0 [sb, t2] := Keep.refl _ _
  refine Go.st (T' := s₁) (f' := (mkF m 0 #[rv sb, iv x, .unset, .unset] [])) (fun _ k => castTop (by first | (simp [entryFrame, mkF, argsToLocals, Value.category]; done) | rfl) k) ?_
  have ⟨S_iC, nz_iC, S_vF, r_vF, S_wO, E_wO, S_wT, E_wT, V_wO, V_wT⟩ := WW
  have lt_wO := E_wO.lt
  have lt_wT := E_wT.lt
  have lt_sb := E_sb.lt
  have ne_wO_sb : wO ≠ sb := O0.ne lt_wO g_sb
  have ne_wT_sb : wT ≠ sb := O0.ne lt_wT g_sb
  have lt_t2 := V_t2.lt
  have ne_wO_t2 : wO ≠ t2 := O0.ne lt_wO g_t2
  have ne_wT_t2 : wT ≠ t2 := O0.ne lt_wT g_t2
  have nt_sb_t2 : sb ≠ t2 := Exa.neArv E_sb V_t2 (ww hw 39 rfl)
  refine zan 1 X0 hx (D d17_0) rfl rfl ?_
  refine zgf 4 X0 hx hZ hown (host := "") (Or.inl (ww hw 78 rfl)) Via.refl e0 F_sb_count (D d17_1) fun T1 X1 e1 => ?_
  refine zsn 5 #[rv sb, iv x, iv c2, .unset] X1 hx (D d17_4) ?_
  refine zin 6 X1 hx (D d17_5) rfl ?_
  refine zin 7 X1 hx (D d17_6) rfl ?_
  refine gS 10 1 0 0 X1 N0 hx hZ (y := mq25) hown hml (ww hw 114 rfl) (ww hw 115 rfl) (ww hw 116 rfl) (gss l Z a0 hw [] x h0 n0 O0) (ww hw 117 rfl) e1 [(.int x)] [(.int c2)] (lenOf pd__I_I rfl) (D d17_7) ?_
  rintro T2 L2 M2 _ X2 uu2 ⟨sz2, rfl, Nq2, kq2, ls2⟩
  have N2 := uu2 Nq2
  refine zsk [(.int sz2), (.int c2)] ?_
  refine zad 11 X2 hx (D d17_10) ?_
  refine zsn 12 #[rv sb, iv x, iv c2, .val (.int (c2 + sz2))] X2 hx (D d17_11) ?_
  refine zan 13 X2 hx (D d17_12) rfl rfl ?_
  refine zin 14 X2 hx (D d17_13) rfl ?_
  obtain ⟨cq3, q3, q3'⟩ := E_sb.cell
  obtain ⟨_, _, ⟨T3, L3, kk3, nn3⟩, -, X3, ⟨Lc3, hQ3, lq3, yq3, zz3⟩, st3⟩ := X2.privateBack hx (y := mq17) hown (mvT hZ (ww hw 80 rfl)) (mvT hZ (ww hw 81 rfl)) (own_selp (mvT hZ (ww hw 83 rfl)) (Cond.privateMethod_at (mvP hZ (ww hw 82 rfl) (args := #[]))) (mvT hZ (ww hw 81 rfl)) (by decide)) (Cond.privateMethod_at (mvP hZ (ww hw 82 rfl) (args := #[]))) (mvT hZ (ww hw 84 rfl)) (by decide) (own_back (W := 0) (gec l Z a0 hw [] sb (c2 + sz2) t2 k2 Y2 c2 xs wO wT kO kT iC vF h0 n0 O0 lc bd (own_cb lc ls2 (own_cd cap) bd).1 g_sb g_t2 E_sb F_sb_coder F_sb_value F_sb_count E_t2 V_t2 WW) hZ (ww hw 84 rfl) (ww hw 48 rfl) (by decide) (by decide)) (g := (mkF m 14 #[rv sb, iv x, iv c2, .val (.int (c2 + sz2))] [(.int (c2 + sz2)), (.ref sb)])) rfl (by rw [hml]; rfl) (Steps.refl _) (a := sb) (by rw [kq2]; exact q3) q3' (argsL := [(.int (c2 + sz2))]) (rest := []) (lenOf pd__I_V rfl) rfl (by show 2 * 0 + _ ≤ _; exact Nat.le_of_eq rfl) (D d17_14) (fun _ _ => ⟨rfl, kq2, (by decide : 0 + 1 ≤ _), (by decide : 0 + 200 ≤ _)⟩)
  dsimp only [Pt.U, Pt.locs, Pt.cells, Pt.slots] at X3 lq3 yq3 zz3 st3 hQ3
  subst lq3 yq3 zz3
  obtain ⟨rfl, Nq3, kq3, eq3, cq3, nq3, tt3, kt3, NN3, dz3, fq3, xq3, vq3, ra3, rb3, rc3⟩ := hQ3
  have N3 := Fr.app N2 Nq3
  have ne_sb_tt3 : sb ≠ tt3 := own_dn dz3 nt_sb_t2 lt_sb
  have ne_wO_tt3 : wO ≠ tt3 := own_dn dz3 ne_wO_t2 (Nat.lt_of_lt_of_le lt_wO O0.2.1)
  have ne_wT_tt3 : wT ≠ tt3 := own_dn dz3 ne_wT_t2 (Nat.lt_of_lt_of_le lt_wT O0.2.1)
  have g_tt3 : n0 ≤ tt3 := own_dt dz3 g_t2 (O0.1 ▸ O0.2.1)
  have ik_tt3 : tt3 ∈ [sb, t2] ∨ h0.size ≤ tt3 := own_ik dz3 K0.1
  have dy_tt3 := own_dz dz3 K0.1
  have O3 : Old Z n0 T3.heap := O0.keep kq3 (allS g_sb all0)
  have K3 : Keep h0 T3.heap [sb, t2] := K0.trans kq3 (allS (Or.inl (List.mem_of_getElem? (i := 0) rfl)) all0)
  have lt_tt3 := vq3.lt
  refine Go.tr (f' := (mkF m 17 #[rv sb, iv x, iv c2, .val (.int (c2 + sz2))] [])) st3 ?_
  refine zan 18 X3 hx (D d17_17) rfl rfl ?_
  refine gV 21 0 1 200 X3 N3 hx hZ (y := mq19) hown hml (ww hw 118 rfl) (ww hw 119 rfl) (ww hw 121 rfl) (ww hw 120 rfl) (gla l Z a0 hw [] sb wO wT kO kT iC vF T3.heap n0 O3 eq3 cq3 WW) (ww hw 122 rfl) (ww hw 48 rfl) rfl eq3 [] [] (lenOf pd___Z rfl) (D d17_18) ?_
  rintro T4 L4 M4 _ X4 uu4 ⟨rfl, Nq4, kq4⟩
  have N4 := uu4 Nq4
  refine zsk [(.int 1)] ?_
  refine zfn 24 X4 hx (D d17_21) (by decide) ?_
  refine zin 25 X4 hx (D d17_24) rfl ?_
  refine zin 26 X4 hx (D d17_25) rfl ?_
  refine zan 27 X4 hx (D d17_26) rfl rfl ?_
  refine zgf 30 X4 hx hZ hown (host := "") (Or.inl (ww hw 52 rfl)) Via.refl kq4 fq3 (D d17_27) fun T5 X5 e5 => ?_
  refine gS 33 0 1 200 X5 N4 hx hZ (y := mq26) hown hml (ww hw 123 rfl) (ww hw 124 rfl) (ww hw 116 rfl) (ggc l Z a0 hw [] x (c2 + sz2) tt3 kt3 NN3 c2 xs wO wT kO kT iC vF T3.heap n0 O3 (own_fx lc ls2 (own_cd cap) bd ra3 rc3) g_tt3 xq3 vq3 WW) (ww hw 125 rfl) e5 [(.int x), (.int (c2 + sz2)), (.ref tt3)] [] (lenOf pd__II_B_I rfl) (D d17_30) ?_
  rintro T6 L6 M6 _ X6 uu6 ⟨rr6, rfl, Nq6, kq6, vq6⟩
  have N6 := uu6 Nq6
  have O6 : Old Z n0 T6.heap := O3.keep kq6 (allS g_tt3 all0)
  have K6 : Keep h0 T6.heap [sb, t2] := K3.trans kq6 (allS ik_tt3 all0)
  refine zsk [(.int rr6)] ?_
  refine Go.st (f' := (mkF m 34 #[rv sb, iv x, iv c2, .val (.int (c2 + sz2))] [])) (fun _ k => XS.pop X6.here hx rfl (D d17_33) rfl rfl k) ?_
  refine zgo 48 X6 hx (D d17_34) ?_
  refine zan 49 X6 hx (D d17_48) rfl rfl ?_
  refine zin 50 X6 hx (D d17_49) rfl ?_
  have ft7 := (eq3.keep kq6)
  have ft8 := (nq3.keep kq6 (ninS ne_sb_tt3 nin0))
  obtain ⟨T9, h9, X9, e9, W9, st9⟩ := putF X6 hx hZ hown (host := "") (Or.inl (ww hw 78 rfl)) Via.refl rfl ft8 ft7 (Or.inl (ww hw 79 rfl)) (ww hw 39 rfl) (ty := .int) (by decide) rfl rfl (g := (mkF m 50 #[rv sb, iv x, iv c2, .val (.int (c2 + sz2))] [(.int (c2 + sz2)), (.ref sb)])) rfl rfl (D d17_50)
  have N9 := Fr.snoc X9 N6 g_sb
  have O9 : Old Z n0 h9 := O6.wr W9 g_sb
  have K9 : Keep h0 h9 [sb, t2] := K6.wr W9 (Or.inl (List.mem_of_getElem? (i := 0) rfl))
  have Fw9 := ft8.same W9
  refine zst 53 #[rv sb, iv x, iv c2, .val (.int (c2 + sz2))] [] st9 ?_
  refine zan 54 X9 hx (D d17_53) rfl rfl ?_
  refine Go.retV X9 hlk hx (t := (.object "java/lang/AbstractStringBuilder")) hret rfl (Or.inr (Or.inr (Or.inr (Or.inr ⟨rfl, rfl, rfl⟩)))) (D d17_54) e9 ?_ (by decide) (by decide)
  have ft10 := (ft7.wr W9)
  have ft11 := ((cq3.keep kq6 (ninS ne_sb_tt3 nin0)).other W9 (Or.inr (slot_ne (Or.inl (ww hw 55 rfl)) (Or.inl (ww hw 79 rfl)) (by decide) (t := .byte) (t' := .int) (by decide) (by decide))))
  have ft12 := ((fq3.keep kq6 (ninS ne_sb_tt3 nin0)).other W9 (Or.inr (slot_ne (Or.inl (ww hw 53 rfl)) (Or.inl (ww hw 79 rfl)) (by decide) (t := (.array .byte)) (t' := .int) (by decide) (by decide))))
  have ft13 := ((xq3.keep kq6).wr W9)
  have ft14 := (vq6.other W9 (Ne.symm ne_sb_tt3))
  exact ⟨(c2 + sz2), own_la lc ls2 (own_cd cap), rfl, N9, K9, ft10, ft11, Fw9, tt3, kt3, NN3, dy_tt3, ft12, ft13, ft14, own_bn (N := Y2) lc ls2 (own_cd cap) ra3 rc3⟩
theorem d16_0 : decode jdk_67_method_15_code 0 = .ok (.aload_n 0, 1) := by decide +kernel
theorem d16_1 : decode jdk_67_method_15_code 1 = .ok (.iload_n 1, 1) := by decide +kernel
theorem d16_2 : decode jdk_67_method_15_code 2 = .ok (.invokespecial 53, 3) := by decide +kernel
theorem pd__I_Ljava_lang_AbstractStringBuilder_ : parseMethodDescriptor "(I)Ljava/lang/AbstractStringBuilder;" = some ⟨[.int], some (.object "java/lang/AbstractStringBuilder")⟩ := by decide +kernel
theorem d16_5 : decode jdk_67_method_15_code 5 = .ok (.pop, 1) := by decide +kernel
theorem d16_6 : decode jdk_67_method_15_code 6 = .ok (.aload_n 0, 1) := by decide +kernel
theorem d16_7 : decode jdk_67_method_15_code 7 = .ok (.areturn, 1) := by decide +kernel
set_option maxRecDepth 65536 in
set_option maxHeartbeats 40000000 in
theorem gbi (l : Launch) (Z : State) (a0 : Array Value) (hw : ∀ d ∈ tables_1, d.before a0 Z = true) (ws : List Jvm.Cond) (sb : Addr) (x : Int32) (t2 : Addr) (k2 : ClassId) (Y2 : Int32) (c2 : Int32) (xs : List Value) (wO : Addr) (wT : Addr) (kO : ClassId) (kT : ClassId) (iC : Int32) (vF : Value) (h0 : Heap) (n0 : Nat) (O0 : Old Z n0 h0) (lc : Ln c2 xs) (bd : Bd c2 Y2) (cap : xs.length ≤ 88) (g_sb : n0 ≤ sb) (g_t2 : n0 ≤ t2) (E_sb : Exa Z h0 sb "java/lang/StringBuilder") (F_sb_coder : Fld Z h0 sb "java/lang/AbstractStringBuilder" "coder" "B" (.int 0)) (F_sb_value : Fld Z h0 sb "java/lang/AbstractStringBuilder" "value" "[B" (.ref t2)) (F_sb_count : Fld Z h0 sb "java/lang/AbstractStringBuilder" "count" "I" (.int c2)) (E_t2 : Exa Z h0 t2 "[B") (V_t2 : Arv Z h0 t2 k2 .byte Y2 xs (.int 0)) (WW : World1 Z wO wT kO kT iC vF) :
    Con l Z mq28 jdk_67_method_15_code 2 (some (.object "java/lang/StringBuilder")) ws ({ frames := 5, cells := 1, slots := 200, locals := 77 } : Room) #[(.ref sb), (.int x)] h0 (fun v h L => ∃ cn : Int32, Ln cn (xs ++ dsL x) ∧ v = some (.ref sb) ∧ Fr n0 L ∧ Keep h0 h [sb, t2] ∧ Exa Z h sb "java/lang/StringBuilder" ∧ Fld Z h sb "java/lang/AbstractStringBuilder" "coder" "B" (.int 0) ∧ Fld Z h sb "java/lang/AbstractStringBuilder" "count" "I" (.int cn) ∧ ∃ (t : Addr) (kt : ClassId) (N : Int32), (t = t2 ∨ h0.size ≤ t) ∧ Fld Z h sb "java/lang/AbstractStringBuilder" "value" "[B" (.ref t) ∧ Exa Z h t "[B" ∧ Arv Z h t kt .byte N (xs ++ dsL x) (.int 0) ∧ Bd cn N) := by
  refine own_body (plainFor_of_name pn_java_lang_StringBuilder) ?_
  intro p e s m below meth c s₁ hx hby hml hZ hown hnm hlk hret X0 e0
  have N0 := Fr.nil n0
  have D := @hb _ _ hby
  have K0 : Keep h0 h0 [sb, t2] := Keep.refl _ _
  refine Go.st (T' := s₁) (f' := (mkF m 0 #[rv sb, iv x] [])) (fun _ k => castTop (by first | (simp [entryFrame, mkF, argsToLocals, Value.category]; done) | rfl) k) ?_
  have ⟨S_iC, nz_iC, S_vF, r_vF, S_wO, E_wO, S_wT, E_wT, V_wO, V_wT⟩ := WW
  have lt_wO := E_wO.lt
  have lt_wT := E_wT.lt
  have lt_sb := E_sb.lt
  have ne_wO_sb : wO ≠ sb := O0.ne lt_wO g_sb
  have ne_wT_sb : wT ≠ sb := O0.ne lt_wT g_sb
  have lt_t2 := V_t2.lt
  have ne_wO_t2 : wO ≠ t2 := O0.ne lt_wO g_t2
  have ne_wT_t2 : wT ≠ t2 := O0.ne lt_wT g_t2
  have nt_sb_t2 : sb ≠ t2 := Exa.neArv E_sb V_t2 (ww hw 39 rfl)
  refine zan 1 X0 hx (D d16_0) rfl rfl ?_
  refine zin 2 X0 hx (D d16_1) rfl ?_
  obtain ⟨_, _, ⟨T1, L1, kk1, nn1⟩, -, X1, ⟨Lc1, hQ1, lq1, yq1, zz1⟩, st1⟩ := superBack X0 hx hZ (y := mq27) hown (ww hw 110 rfl) (own_same (ww hw 83 rfl) (ww hw 111 rfl) rfl (by decide)) (ww hw 111 rfl) (ww hw 64 rfl) (by decide) (own_back (W := 0) (gai l Z a0 hw [] sb x t2 k2 Y2 c2 xs wO wT kO kT iC vF h0 n0 O0 lc bd cap g_sb g_t2 E_sb F_sb_coder F_sb_value F_sb_count E_t2 V_t2 WW) hZ (ww hw 113 rfl) (ww hw 48 rfl) (by decide) (by decide)) e0 (Ins.self E_sb) (g := (mkF m 2 #[rv sb, iv x] [(.int x), (.ref sb)])) rfl (by rw [hml]; rfl) (ww hw 113 rfl) (argsL := [(.int x)]) (rest := []) (lenOf pd__I_Ljava_lang_AbstractStringBuilder_ rfl) rfl (by show 2 * 0 + _ ≤ _; exact Nat.le_of_eq rfl) (D d16_2) (fun _ _ => ⟨rfl, e0, (by decide : 0 + 1 ≤ _), (by decide : 0 + 200 ≤ _)⟩)
  dsimp only [Pt.U, Pt.locs, Pt.cells, Pt.slots] at X1 lq1 yq1 zz1 st1 hQ1
  subst lq1 yq1 zz1
  obtain ⟨cn1, ln1, rfl, Nq1, kq1, eq1, cq1, nq1, tt1, kt1, NN1, dz1, fq1, xq1, vq1, bd1⟩ := hQ1
  have N1 := Fr.app N0 Nq1
  have ne_sb_tt1 : sb ≠ tt1 := own_dn dz1 nt_sb_t2 lt_sb
  have ne_wO_tt1 : wO ≠ tt1 := own_dn dz1 ne_wO_t2 (Nat.lt_of_lt_of_le lt_wO O0.2.1)
  have ne_wT_tt1 : wT ≠ tt1 := own_dn dz1 ne_wT_t2 (Nat.lt_of_lt_of_le lt_wT O0.2.1)
  have g_tt1 : n0 ≤ tt1 := own_dt dz1 g_t2 (O0.1 ▸ O0.2.1)
  have ik_tt1 : tt1 ∈ [sb, t2] ∨ h0.size ≤ tt1 := own_ik dz1 K0.1
  have dy_tt1 := own_dz dz1 K0.1
  have O1 : Old Z n0 T1.heap := O0.keep kq1 (allS g_sb (allS g_t2 all0))
  have K1 : Keep h0 T1.heap [sb, t2] := K0.trans kq1 (allS (Or.inl (List.mem_of_getElem? (i := 0) rfl)) (allS (Or.inl (List.mem_of_getElem? (i := 1) rfl)) all0))
  have lt_tt1 := vq1.lt
  refine Go.tr (f' := (mkF m 5 #[rv sb, iv x] [(.ref sb)])) st1 ?_
  refine Go.st (f' := (mkF m 6 #[rv sb, iv x] [])) (fun _ k => XS.pop X1.here hx rfl (D d16_5) rfl rfl k) ?_
  refine zan 7 X1 hx (D d16_6) rfl rfl ?_
  refine Go.retV X1 hlk hx (t := (.object "java/lang/StringBuilder")) hret rfl (Or.inr (Or.inr (Or.inr (Or.inr ⟨rfl, rfl, rfl⟩)))) (D d16_7) rfl ?_ (by decide) (by decide)
  exact ⟨cn1, ln1, rfl, N1, K1, eq1, cq1, nq1, tt1, kt1, NN1, dy_tt1, fq1, xq1, vq1, bd1⟩
theorem d7_0 : decode jdk_68_method_2_code 0 = .ok (.aload_n 0, 1) := by decide +kernel
theorem d7_1 : decode jdk_68_method_2_code 1 = .ok (.invokespecial 3, 3) := by decide +kernel
theorem d7_4 : decode jdk_68_method_2_code 4 = .ok (.getstatic 18, 3) := by decide +kernel
theorem d7_7 : decode jdk_68_method_2_code 7 = .ok (.ifCond .eq 18, 3) := by decide +kernel
theorem d7_10 : decode jdk_68_method_2_code 10 = .ok (.aload_n 0, 1) := by decide +kernel
theorem d7_11 : decode jdk_68_method_2_code 11 = .ok (.iload_n 1, 1) := by decide +kernel
theorem d7_12 : decode jdk_68_method_2_code 12 = .ok (.newarray .byte, 2) := by decide +kernel
theorem d7_14 : decode jdk_68_method_2_code 14 = .ok (.putfield 15, 3) := by decide +kernel
theorem d7_17 : decode jdk_68_method_2_code 17 = .ok (.aload_n 0, 1) := by decide +kernel
theorem d7_18 : decode jdk_68_method_2_code 18 = .ok (.iconst 0, 1) := by decide +kernel
theorem d7_19 : decode jdk_68_method_2_code 19 = .ok (.putfield 22, 3) := by decide +kernel
theorem d7_22 : decode jdk_68_method_2_code 22 = .ok (.goto 16, 3) := by decide +kernel
theorem d7_38 : decode jdk_68_method_2_code 38 = .ok (.return_, 1) := by decide +kernel
set_option maxRecDepth 65536 in
set_option maxHeartbeats 40000000 in
theorem gc1 (l : Launch) (Z : State) (a0 : Array Value) (hw : ∀ d ∈ tables_1, d.before a0 Z = true) (ws : List Jvm.Cond) (sb : Addr) (wO : Addr) (wT : Addr) (kO : ClassId) (kT : ClassId) (iC : Int32) (vF : Value) (h0 : Heap) (n0 : Nat) (O0 : Old Z n0 h0) (g_sb : n0 ≤ sb) (E_sb : Exa Z h0 sb "java/lang/StringBuilder") (F_sb_coder : Fld Z h0 sb "java/lang/AbstractStringBuilder" "coder" "B" (.int 0)) (F_sb_value : Fld Z h0 sb "java/lang/AbstractStringBuilder" "value" "[B" .null) (F_sb_count : Fld Z h0 sb "java/lang/AbstractStringBuilder" "count" "I" (.int 0)) (WW : World1 Z wO wT kO kT iC vF) :
    Con l Z mq29 jdk_68_method_2_code 2 none ws ({ frames := 1, cells := 1, slots := 16, locals := 12 } : Room) #[(.ref sb), (.int 16)] h0 (fun v h L => v = none ∧ Fr n0 L ∧ Keep h0 h [sb] ∧ Exa Z h sb "java/lang/StringBuilder" ∧ Fld Z h sb "java/lang/AbstractStringBuilder" "coder" "B" (.int 0) ∧ Fld Z h sb "java/lang/AbstractStringBuilder" "count" "I" (.int 0) ∧ ∃ (t : Addr) (kt : ClassId), h0.size ≤ t ∧ Fld Z h sb "java/lang/AbstractStringBuilder" "value" "[B" (.ref t) ∧ Exa Z h t "[B" ∧ Arv Z h t kt .byte (16 : Int32) [] (.int 0)) := by
  refine own_body (plainFor_of_name pn_java_lang_AbstractStringBuilder) ?_
  intro p e s m below meth c s₁ hx hby hml hZ hown hnm hlk hret X0 e0
  have N0 := Fr.nil n0
  have D := @hb _ _ hby
  have K0 : Keep h0 h0 [sb] := Keep.refl _ _
  refine Go.st (T' := s₁) (f' := (mkF m 0 #[rv sb, iv 16] [])) (fun _ k => castTop (by first | (simp [entryFrame, mkF, argsToLocals, Value.category]; done) | rfl) k) ?_
  have ⟨S_iC, nz_iC, S_vF, r_vF, S_wO, E_wO, S_wT, E_wT, V_wO, V_wT⟩ := WW
  have lt_wO := E_wO.lt
  have lt_wT := E_wT.lt
  have lt_sb := E_sb.lt
  have ne_wO_sb : wO ≠ sb := O0.ne lt_wO g_sb
  have ne_wT_sb : wT ≠ sb := O0.ne lt_wT g_sb
  refine zan 1 X0 hx (D d7_0) rfl rfl ?_
  obtain ⟨T1, X1, e1, st1⟩ := initO X0 hx hZ hown (ww hw 50 rfl) (ww hw 12 rfl) (ww hw 13 rfl) e0 (g := (mkF m 1 #[rv sb, iv 16] [(.ref sb)])) rfl (by rw [hml]; rfl) rfl (D d7_1) (by decide) (W := 0) (by show 2 * 0 + _ ≤ _; exact Nat.le_of_eq rfl) (by decide)
  refine zst 4 #[rv sb, iv 16] [] st1 ?_
  obtain ⟨T2, X2, e2, st2⟩ := getS2 X1 hx hZ hown (host := "") (Or.inl (ww hw 51 rfl)) Via.refl e1 (S_iC.ext O0.2) (g := (mkF m 4 #[rv sb, iv 16] [])) rfl (D d7_4)
  refine zst 7 #[rv sb, iv 16] [(.int iC)] st2 ?_
  refine zfn 10 X2 hx (D d7_7) ((if0 _ _).trans (feq nz_iC).1) ?_
  refine zan 11 X2 hx (D d7_10) rfl rfl ?_
  refine zin 12 X2 hx (D d7_11) rfl ?_
  obtain ⟨T3, h3, kc3, X3, e3, E3, A3, Ex3, st3⟩ := newPE X2 hx hZ (ww hw 15 rfl) e2 (g := (mkF m 12 #[rv sb, iv 16] [(.int 16), (.ref sb)])) rfl (D d7_12) rfl (by decide) (cap := 16) (by decide) (by decide) (by decide) (by decide) rfl
  obtain ⟨b3, g3⟩ : ∃ z, z = h0.size := ⟨_, rfl⟩
  rw [← g3] at A3 Ex3 st3
  have ne_sb_b3 : sb ≠ b3 := Nat.ne_of_lt (Nat.lt_of_lt_of_eq lt_sb g3.symm)
  have ne_wO_b3 : wO ≠ b3 := Nat.ne_of_lt (Nat.lt_of_lt_of_le lt_wO (Nat.le_trans O0.2.1 (Nat.le_of_eq g3.symm)))
  have ne_wT_b3 : wT ≠ b3 := Nat.ne_of_lt (Nat.lt_of_lt_of_le lt_wT (Nat.le_trans O0.2.1 (Nat.le_of_eq g3.symm)))
  have g_b3 : n0 ≤ b3 := Nat.le_trans (O0.1 ▸ O0.2.1) (Nat.le_of_eq g3.symm)
  have O3 : Old Z n0 h3 := O0.ext E3
  have sz_b3 : h0.size ≤ b3 := Nat.le_trans K0.1 (Nat.le_of_eq g3.symm)
  have K3 : Keep h0 h3 [sb] := K0.ext E3
  have V_b3 : Arv Z h3 b3 kc3 .byte (16 : Int32) [] (.int (0 : Int32)) := Arv.new A3 (by decide)
  have lt_b3 := V_b3.lt
  refine zst 14 #[rv sb, iv 16] [(.ref b3), (.ref sb)] st3 ?_
  have ft4 := (E_sb.ext E3)
  have ft5 := (F_sb_value.ext E3)
  obtain ⟨T6, h6, X6, e6, W6, st6⟩ := putF X3 hx hZ hown (host := "") (Or.inl (ww hw 52 rfl)) Via.refl e3 ft5 ft4 (Or.inl (ww hw 53 rfl)) (ww hw 39 rfl) (ty := (.array .byte)) (by decide) rfl rfl (g := (mkF m 14 #[rv sb, iv 16] [(.ref b3), (.ref sb)])) rfl rfl (D d7_14)
  have N6 := Fr.snoc X6 N0 g_sb
  have O6 : Old Z n0 h6 := O3.wr W6 g_sb
  have K6 : Keep h0 h6 [sb] := K3.wr W6 (Or.inl (List.mem_of_getElem? (i := 0) rfl))
  have Fw6 := ft5.same W6
  refine zst 17 #[rv sb, iv 16] [] st6 ?_
  refine zan 18 X6 hx (D d7_17) rfl rfl ?_
  refine zic 19 0 X6 hx (D d7_18) ?_
  have ft7 := (ft4.wr W6)
  have ft8 := ((F_sb_coder.ext E3).other W6 (Or.inr (slot_ne (Or.inl (ww hw 55 rfl)) (Or.inl (ww hw 53 rfl)) (by decide) (t := .byte) (t' := (.array .byte)) (by decide) (by decide))))
  obtain ⟨T9, h9, X9, e9, W9, st9⟩ := putFN X6 hx hZ hown (ww hw 54 rfl) Via.refl e6 ft8 ft7 (Or.inl (ww hw 55 rfl)) (ww hw 39 rfl) (ty := .byte) (v' := (.int (0 : Int32))) (by decide) rfl (by decide) (g := (mkF m 19 #[rv sb, iv 16] [(.int 0), (.ref sb)])) rfl rfl (D d7_19)
  have N9 := Fr.snoc X9 N6 g_sb
  have O9 : Old Z n0 h9 := O6.wr W9 g_sb
  have K9 : Keep h0 h9 [sb] := K6.wr W9 (Or.inl (List.mem_of_getElem? (i := 0) rfl))
  have Fw9 := ft8.same W9
  refine zst 22 #[rv sb, iv 16] [] st9 ?_
  refine zgo 38 X9 hx (D d7_22) ?_
  refine Go.ret0 X9 hlk hx hret (D d7_38) e9 ?_ (by decide) (by decide)
  have ft10 := (ft7.wr W9)
  have ft11 := (((F_sb_count.ext E3).other W6 (Or.inr (slot_ne (Or.inl (ww hw 79 rfl)) (Or.inl (ww hw 53 rfl)) (by decide) (t := .int) (t' := (.array .byte)) (by decide) (by decide)))).other W9 (Or.inr (slot_ne (Or.inl (ww hw 79 rfl)) (Or.inl (ww hw 55 rfl)) (by decide) (t := .int) (t' := .byte) (by decide) (by decide))))
  have ft12 := (Fw6.other W9 (Or.inr (slot_ne (Or.inl (ww hw 53 rfl)) (Or.inl (ww hw 55 rfl)) (by decide) (t := (.array .byte)) (t' := .byte) (by decide) (by decide))))
  have ft13 := ((Ex3.wr W6).wr W9)
  have ft14 := ((V_b3.other W6 (Ne.symm ne_sb_b3)).other W9 (Ne.symm ne_sb_b3))
  exact ⟨rfl, N9, K9, ft10, Fw9, ft11, b3, kc3, sz_b3, ft12, ft13, ft14⟩
theorem d6_0 : decode jdk_67_method_1_code 0 = .ok (.aload_n 0, 1) := by decide +kernel
theorem d6_1 : decode jdk_67_method_1_code 1 = .ok (.bipush 16, 2) := by decide +kernel
theorem d6_3 : decode jdk_67_method_1_code 3 = .ok (.invokespecial 1, 3) := by decide +kernel
theorem d6_6 : decode jdk_67_method_1_code 6 = .ok (.return_, 1) := by decide +kernel
set_option maxRecDepth 65536 in
set_option maxHeartbeats 40000000 in
theorem gc2 (l : Launch) (Z : State) (a0 : Array Value) (hw : ∀ d ∈ tables_1, d.before a0 Z = true) (ws : List Jvm.Cond) (sb : Addr) (wO : Addr) (wT : Addr) (kO : ClassId) (kT : ClassId) (iC : Int32) (vF : Value) (h0 : Heap) (n0 : Nat) (O0 : Old Z n0 h0) (g_sb : n0 ≤ sb) (E_sb : Exa Z h0 sb "java/lang/StringBuilder") (F_sb_coder : Fld Z h0 sb "java/lang/AbstractStringBuilder" "coder" "B" (.int 0)) (F_sb_value : Fld Z h0 sb "java/lang/AbstractStringBuilder" "value" "[B" .null) (F_sb_count : Fld Z h0 sb "java/lang/AbstractStringBuilder" "count" "I" (.int 0)) (WW : World1 Z wO wT kO kT iC vF) :
    Con l Z mq30 jdk_67_method_1_code 1 none ws ({ frames := 2, cells := 1, slots := 16, locals := 25 } : Room) #[(.ref sb)] h0 (fun v h L => v = none ∧ Fr n0 L ∧ Keep h0 h [sb] ∧ Exa Z h sb "java/lang/StringBuilder" ∧ Fld Z h sb "java/lang/AbstractStringBuilder" "coder" "B" (.int 0) ∧ Fld Z h sb "java/lang/AbstractStringBuilder" "count" "I" (.int 0) ∧ ∃ (t : Addr) (kt : ClassId), h0.size ≤ t ∧ Fld Z h sb "java/lang/AbstractStringBuilder" "value" "[B" (.ref t) ∧ Exa Z h t "[B" ∧ Arv Z h t kt .byte (16 : Int32) [] (.int 0)) := by
  refine own_body (plainFor_of_name pn_java_lang_StringBuilder) ?_
  intro p e s m below meth c s₁ hx hby hml hZ hown hnm hlk hret X0 e0
  have N0 := Fr.nil n0
  have D := @hb _ _ hby
  have K0 : Keep h0 h0 [sb] := Keep.refl _ _
  refine Go.st (T' := s₁) (f' := (mkF m 0 #[rv sb] [])) (fun _ k => castTop (by first | (simp [entryFrame, mkF, argsToLocals, Value.category]; done) | rfl) k) ?_
  have ⟨S_iC, nz_iC, S_vF, r_vF, S_wO, E_wO, S_wT, E_wT, V_wO, V_wT⟩ := WW
  have lt_wO := E_wO.lt
  have lt_wT := E_wT.lt
  have lt_sb := E_sb.lt
  have ne_wO_sb : wO ≠ sb := O0.ne lt_wO g_sb
  have ne_wT_sb : wT ≠ sb := O0.ne lt_wT g_sb
  refine zan 1 X0 hx (D d6_0) rfl rfl ?_
  refine zbp 3 16 X0 hx (D d6_1) ?_
  obtain ⟨_, _, ⟨T1, L1, kk1, nn1⟩, -, X1, ⟨Lc1, hQ1, lq1, yq1, zz1⟩, st1⟩ := X0.specialBack hx (y := mq29) rfl hown (mvT hZ (ww hw 44 rfl)) (mvT hZ (ww hw 45 rfl)) (mvT hZ (ww hw 49 rfl)) (by decide) (own_back (W := 0) (gc1 l Z a0 hw [] sb wO wT kO kT iC vF h0 n0 O0 g_sb E_sb F_sb_coder F_sb_value F_sb_count WW) hZ (ww hw 49 rfl) (ww hw 48 rfl) (by decide) (by decide)) (g := (mkF m 3 #[rv sb] [(.int 16), (.ref sb)])) rfl (by rw [hml]; rfl) (Steps.refl _) (a := sb) (argsL := [(.int (16 : Int32))]) (rest := []) (lenOf pd__I_V rfl) rfl (by show 2 * 0 + _ ≤ _; exact Nat.le_of_eq rfl) (D d6_3) (fun _ _ => ⟨rfl, e0, (by decide : 0 + 1 ≤ _), (by decide : 0 + 16 ≤ _)⟩)
  dsimp only [Pt.U, Pt.locs, Pt.cells, Pt.slots] at X1 lq1 yq1 zz1 st1 hQ1
  subst lq1 yq1 zz1
  obtain ⟨rfl, Nq1, kq1, eq1, cq1, nq1, tt1, kt1, zq1, fq1, xq1, vq1⟩ := hQ1
  have N1 := Fr.app N0 Nq1
  have ne_sb_tt1 : sb ≠ tt1 := Nat.ne_of_lt (Nat.lt_of_lt_of_le lt_sb zq1)
  have ne_wO_tt1 : wO ≠ tt1 := Nat.ne_of_lt (Nat.lt_of_lt_of_le lt_wO (Nat.le_trans O0.2.1 zq1))
  have ne_wT_tt1 : wT ≠ tt1 := Nat.ne_of_lt (Nat.lt_of_lt_of_le lt_wT (Nat.le_trans O0.2.1 zq1))
  have g_tt1 : n0 ≤ tt1 := Nat.le_trans (O0.1 ▸ O0.2.1) zq1
  have sz_tt1 : h0.size ≤ tt1 := Nat.le_trans K0.1 zq1
  have O1 : Old Z n0 T1.heap := O0.keep kq1 (allS g_sb all0)
  have K1 : Keep h0 T1.heap [sb] := K0.trans kq1 (allS (Or.inl (List.mem_of_getElem? (i := 0) rfl)) all0)
  have lt_tt1 := vq1.lt
  have ln1 : Ln (0 : Int32) [] := ⟨by decide, by decide⟩
  have bd1 : Bd (0 : Int32) (16 : Int32) := ⟨by decide, by decide, by decide⟩
  refine Go.tr (f' := (mkF m 6 #[rv sb] [])) st1 ?_
  refine Go.ret0 X1 hlk hx hret (D d6_6) rfl ?_ (by decide) (by decide)
  exact ⟨rfl, N1, K1, eq1, cq1, nq1, tt1, kt1, sz_tt1, fq1, xq1, vq1⟩
theorem d30_0 : decode jdk_68_method_64_code 0 = .ok (.aload_n 0, 1) := by decide +kernel
theorem d30_1 : decode jdk_68_method_64_code 1 = .ok (.getfield 15, 3) := by decide +kernel
theorem d30_4 : decode jdk_68_method_64_code 4 = .ok (.areturn, 1) := by decide +kernel
set_option maxRecDepth 65536 in
set_option maxHeartbeats 40000000 in
theorem gv1 (l : Launch) (Z : State) (a0 : Array Value) (hw : ∀ d ∈ tables_1, d.before a0 Z = true) (ws : List Jvm.Cond) (sb : Addr) (t2 : Addr) (h0 : Heap) (n0 : Nat) (O0 : Old Z n0 h0) (E_sb : Exa Z h0 sb "java/lang/StringBuilder") (F_sb_value : Fld Z h0 sb "java/lang/AbstractStringBuilder" "value" "[B" (.ref t2)) :
    Con l Z mq31 jdk_68_method_64_code 1 (some (.array .byte)) ws ({ frames := 0, cells := 0, slots := 0, locals := 0 } : Room) #[(.ref sb)] h0 (fun v h L => v = some (.ref t2) ∧ Fr n0 L ∧ h = h0) := by
  refine own_body (plainFor_of_name pn_java_lang_AbstractStringBuilder) ?_
  intro p e s m below meth c s₁ hx hby hml hZ hown hnm hlk hret X0 e0
  have N0 := Fr.nil n0
  have D := @hb _ _ hby
  refine Go.st (T' := s₁) (f' := (mkF m 0 #[rv sb] [])) (fun _ k => castTop (by first | (simp [entryFrame, mkF, argsToLocals, Value.category]; done) | rfl) k) ?_
  have lt_sb := E_sb.lt
  refine zan 1 X0 hx (D d30_0) rfl rfl ?_
  refine zgf 4 X0 hx hZ hown (host := "") (Or.inl (ww hw 52 rfl)) Via.refl e0 F_sb_value (D d30_1) fun T1 X1 e1 => ?_
  refine Go.retV X1 hlk hx (t := (.array .byte)) hret rfl (Or.inr (Or.inr (Or.inr (Or.inr ⟨rfl, rfl, rfl⟩)))) (D d30_4) e1 ?_ (by decide) (by decide)
  exact ⟨rfl, N0, rfl⟩
theorem d32_0 : decode jdk_68_method_6_code 0 = .ok (.aload_n 0, 1) := by decide +kernel
theorem d32_1 : decode jdk_68_method_6_code 1 = .ok (.getfield 79, 3) := by decide +kernel
theorem d32_4 : decode jdk_68_method_6_code 4 = .ok (.ireturn, 1) := by decide +kernel
set_option maxRecDepth 65536 in
set_option maxHeartbeats 40000000 in
theorem gv2 (l : Launch) (Z : State) (a0 : Array Value) (hw : ∀ d ∈ tables_1, d.before a0 Z = true) (ws : List Jvm.Cond) (sb : Addr) (c2 : Int32) (h0 : Heap) (n0 : Nat) (O0 : Old Z n0 h0) (E_sb : Exa Z h0 sb "java/lang/StringBuilder") (F_sb_count : Fld Z h0 sb "java/lang/AbstractStringBuilder" "count" "I" (.int c2)) :
    Con l Z mq32 jdk_68_method_6_code 1 (some .int) ws ({ frames := 0, cells := 0, slots := 0, locals := 0 } : Room) #[(.ref sb)] h0 (fun v h L => v = some (.int c2) ∧ Fr n0 L ∧ h = h0) := by
  refine own_body (plainFor_of_name pn_java_lang_AbstractStringBuilder) ?_
  intro p e s m below meth c s₁ hx hby hml hZ hown hnm hlk hret X0 e0
  have N0 := Fr.nil n0
  have D := @hb _ _ hby
  refine Go.st (T' := s₁) (f' := (mkF m 0 #[rv sb] [])) (fun _ k => castTop (by first | (simp [entryFrame, mkF, argsToLocals, Value.category]; done) | rfl) k) ?_
  have lt_sb := E_sb.lt
  refine zan 1 X0 hx (D d32_0) rfl rfl ?_
  refine zgf 4 X0 hx hZ hown (host := "") (Or.inl (ww hw 78 rfl)) Via.refl e0 F_sb_count (D d32_1) fun T1 X1 e1 => ?_
  refine Go.retV X1 hlk hx (t := .int) hret rfl (Or.inl ⟨rfl, Or.inl rfl, _, rfl⟩) (D d32_4) e1 ?_ (by decide) (by decide)
  exact ⟨rfl, N0, rfl⟩
theorem d31_0 : decode jdk_67_method_93_code 0 = .ok (.aload_n 0, 1) := by decide +kernel
theorem d31_1 : decode jdk_67_method_93_code 1 = .ok (.invokespecial 343, 3) := by decide +kernel
theorem d31_4 : decode jdk_67_method_93_code 4 = .ok (.ireturn, 1) := by decide +kernel
set_option maxRecDepth 65536 in
set_option maxHeartbeats 40000000 in
theorem gv3 (l : Launch) (Z : State) (a0 : Array Value) (hw : ∀ d ∈ tables_1, d.before a0 Z = true) (ws : List Jvm.Cond) (sb : Addr) (c2 : Int32) (h0 : Heap) (n0 : Nat) (O0 : Old Z n0 h0) (E_sb : Exa Z h0 sb "java/lang/StringBuilder") (F_sb_count : Fld Z h0 sb "java/lang/AbstractStringBuilder" "count" "I" (.int c2)) :
    Con l Z mq33 jdk_67_method_93_code 1 (some .int) ws ({ frames := 1, cells := 0, slots := 0, locals := 12 } : Room) #[(.ref sb)] h0 (fun v h L => v = some (.int c2) ∧ Fr n0 L ∧ h = h0) := by
  refine own_body (plainFor_of_name pn_java_lang_StringBuilder) ?_
  intro p e s m below meth c s₁ hx hby hml hZ hown hnm hlk hret X0 e0
  have N0 := Fr.nil n0
  have D := @hb _ _ hby
  refine Go.st (T' := s₁) (f' := (mkF m 0 #[rv sb] [])) (fun _ k => castTop (by first | (simp [entryFrame, mkF, argsToLocals, Value.category]; done) | rfl) k) ?_
  have lt_sb := E_sb.lt
  refine zan 1 X0 hx (D d31_0) rfl rfl ?_
  obtain ⟨_, _, ⟨T1, L1, kk1, nn1⟩, -, X1, ⟨Lc1, hQ1, lq1, yq1, zz1⟩, st1⟩ := superBack X0 hx hZ (y := mq32) hown (ww hw 180 rfl) (own_same (ww hw 83 rfl) (ww hw 176 rfl) rfl (by decide)) (ww hw 176 rfl) (ww hw 64 rfl) (by decide) (own_back (W := 0) (gv2 l Z a0 hw [] sb c2 h0 n0 O0 E_sb F_sb_count) hZ (ww hw 181 rfl) (ww hw 48 rfl) (by decide) (by decide)) e0 (Ins.self E_sb) (g := (mkF m 1 #[rv sb] [(.ref sb)])) rfl (by rw [hml]; rfl) (ww hw 181 rfl) (argsL := []) (rest := []) (lenOf pd___I rfl) rfl (by show 2 * 0 + _ ≤ _; exact Nat.le_of_eq rfl) (D d31_1) (fun _ _ => ⟨rfl, e0, (by decide : 0 + 0 ≤ _), (by decide : 0 + 0 ≤ _)⟩)
  dsimp only [Pt.U, Pt.locs, Pt.cells, Pt.slots] at X1 lq1 yq1 zz1 st1 hQ1
  subst lq1 yq1 zz1
  obtain ⟨rfl, Nq1, kq1⟩ := hQ1
  have N1 := Fr.app N0 Nq1
  refine Go.tr (f' := (mkF m 4 #[rv sb] [(.int c2)])) st1 ?_
  refine Go.retV X1 hlk hx (t := .int) hret rfl (Or.inl ⟨rfl, Or.inl rfl, _, rfl⟩) (D d31_4) kq1 ?_ (by decide) (by decide)
  exact ⟨rfl, N1, rfl⟩
theorem d35_0 : decode jdk_65_method_131_code 0 = .ok (.iload_n 1, 1) := by decide +kernel
theorem d35_1 : decode jdk_65_method_131_code 1 = .ok (.iload_n 0, 1) := by decide +kernel
theorem d35_2 : decode jdk_65_method_131_code 2 = .ok (.if_icmp .ge 35, 3) := by decide +kernel
theorem d35_37 : decode jdk_65_method_131_code 37 = .ok (.return_, 1) := by decide +kernel
set_option maxRecDepth 65536 in
set_option maxHeartbeats 40000000 in
theorem gck (l : Launch) (Z : State) (a0 : Array Value) (hw : ∀ d ∈ tables_1, d.before a0 Z = true) (ws : List Jvm.Cond) (c2 : Int32) (h0 : Heap) (n0 : Nat) (O0 : Old Z n0 h0) (hlo : ¬ c2 < (0 : Int32)) :
    Con l Z mq34 jdk_65_method_131_code 2 none ws ({ frames := 0, cells := 0, slots := 0, locals := 0 } : Room) #[(.int 0), (.int c2)] h0 (fun v h L => v = none ∧ Fr n0 L ∧ h = h0) := by
  refine own_body (plainFor_of_name pn_java_util_Arrays) ?_
  intro p e s m below meth c s₁ hx hby hml hZ hown hnm hlk hret X0 e0
  have N0 := Fr.nil n0
  have D := @hb _ _ hby
  refine Go.st (T' := s₁) (f' := (mkF m 0 #[iv 0, iv c2] [])) (fun _ k => castTop (by first | (simp [entryFrame, mkF, argsToLocals, Value.category]; done) | rfl) k) ?_
  refine zin 1 X0 hx (D d35_0) rfl ?_
  refine zin 2 X0 hx (D d35_1) rfl ?_
  refine zcy 37 X0 hx (D d35_2) (flt hlo).2.1 ?_
  refine Go.ret0 X0 hlk hx hret (D d35_37) e0 ?_ (by decide) (by decide)
  exact ⟨rfl, N0, rfl⟩
theorem d34_0 : decode jdk_65_method_133_code 0 = .ok (.iload_n 1, 1) := by decide +kernel
theorem d34_1 : decode jdk_65_method_133_code 1 = .ok (.iload_n 2, 1) := by decide +kernel
theorem d34_2 : decode jdk_65_method_133_code 2 = .ok (.invokestatic 343, 3) := by decide +kernel
theorem d34_5 : decode jdk_65_method_133_code 5 = .ok (.iload_n 2, 1) := by decide +kernel
theorem d34_6 : decode jdk_65_method_133_code 6 = .ok (.iload_n 1, 1) := by decide +kernel
theorem d34_7 : decode jdk_65_method_133_code 7 = .ok (.isub, 1) := by decide +kernel
theorem d34_8 : decode jdk_65_method_133_code 8 = .ok (.istore_n 3, 1) := by decide +kernel
theorem d34_9 : decode jdk_65_method_133_code 9 = .ok (.iload_n 3, 1) := by decide +kernel
theorem d34_10 : decode jdk_65_method_133_code 10 = .ok (.newarray .byte, 2) := by decide +kernel
theorem d34_12 : decode jdk_65_method_133_code 12 = .ok (.astore 4, 2) := by decide +kernel
theorem d34_14 : decode jdk_65_method_133_code 14 = .ok (.aload_n 0, 1) := by decide +kernel
theorem d34_15 : decode jdk_65_method_133_code 15 = .ok (.iload_n 1, 1) := by decide +kernel
theorem d34_16 : decode jdk_65_method_133_code 16 = .ok (.aload 4, 2) := by decide +kernel
theorem d34_18 : decode jdk_65_method_133_code 18 = .ok (.iconst 0, 1) := by decide +kernel
theorem d34_19 : decode jdk_65_method_133_code 19 = .ok (.aload_n 0, 1) := by decide +kernel
theorem d34_20 : decode jdk_65_method_133_code 20 = .ok (.arraylength, 1) := by decide +kernel
theorem d34_21 : decode jdk_65_method_133_code 21 = .ok (.iload_n 1, 1) := by decide +kernel
theorem d34_22 : decode jdk_65_method_133_code 22 = .ok (.isub, 1) := by decide +kernel
theorem d34_23 : decode jdk_65_method_133_code 23 = .ok (.iload_n 3, 1) := by decide +kernel
theorem d34_24 : decode jdk_65_method_133_code 24 = .ok (.invokestatic 304, 3) := by decide +kernel
theorem d34_27 : decode jdk_65_method_133_code 27 = .ok (.invokestatic 150, 3) := by decide +kernel
theorem d34_30 : decode jdk_65_method_133_code 30 = .ok (.aload 4, 2) := by decide +kernel
theorem d34_32 : decode jdk_65_method_133_code 32 = .ok (.areturn, 1) := by decide +kernel
set_option maxRecDepth 65536 in
set_option maxHeartbeats 40000000 in
theorem grb (l : Launch) (Z : State) (a0 : Array Value) (hw : ∀ d ∈ tables_1, d.before a0 Z = true) (ws : List Jvm.Cond) (t2 : Addr) (k2 : ClassId) (Y2 : Int32) (c2 : Int32) (xs : List Value) (wO : Addr) (wT : Addr) (kO : ClassId) (kT : ClassId) (iC : Int32) (vF : Value) (h0 : Heap) (n0 : Nat) (O0 : Old Z n0 h0) (lc : Ln c2 xs) (bd : Bd c2 Y2) (hcap : xs.length ≤ 100) (hlt : c2 < Y2) (E_t2 : Exa Z h0 t2 "[B") (V_t2 : Arv Z h0 t2 k2 .byte Y2 xs (.int 0)) (WW : World1 Z wO wT kO kT iC vF) :
    Con l Z mq35 jdk_65_method_133_code 5 (some (.array .byte)) ws ({ frames := 1, cells := 1, slots := 100, locals := 20 } : Room) #[(.ref t2), (.int 0), (.int c2)] h0 (fun v h L => ∃ (b : Addr) (kb : ClassId), v = some (.ref b) ∧ Fr n0 L ∧ h0.size ≤ b ∧ Keep h0 h [] ∧ Arv Z h b kb .byte c2 xs (.int 0)) := by
  refine own_body (plainFor_of_name pn_java_util_Arrays) ?_
  intro p e s m below meth c s₁ hx hby hml hZ hown hnm hlk hret X0 e0
  have N0 := Fr.nil n0
  have D := @hb _ _ hby
  have K0 : Keep h0 h0 [] := Keep.refl _ _
  refine Go.st (T' := s₁) (f' := (mkF m 0 #[rv t2, iv 0, iv c2, .unset, .unset] [])) (fun _ k => castTop (by first | (simp [entryFrame, mkF, argsToLocals, Value.category]; done) | rfl) k) ?_
  have ⟨S_iC, nz_iC, S_vF, r_vF, S_wO, E_wO, S_wT, E_wT, V_wO, V_wT⟩ := WW
  have lt_wO := E_wO.lt
  have lt_wT := E_wT.lt
  have lt_t2 := V_t2.lt
  refine zin 1 X0 hx (D d34_0) rfl ?_
  refine zin 2 X0 hx (D d34_1) rfl ?_
  refine gS 5 0 0 0 X0 N0 hx hZ (y := mq34) hown hml (ww hw 189 rfl) (ww hw 190 rfl) (ww hw 145 rfl) (gck l Z a0 hw [] c2 h0 n0 O0 lc.nn) (ww hw 191 rfl) e0 [(.int 0), (.int c2)] [] (lenOf pd__II_V rfl) (D d34_2) ?_
  rintro T1 L1 M1 _ X1 uu1 ⟨rfl, Nq1, kq1⟩
  have N1 := uu1 Nq1
  refine zsk [] ?_
  refine zin 6 X1 hx (D d34_5) rfl ?_
  refine zin 7 X1 hx (D d34_6) rfl ?_
  refine zsb 8 X1 hx (D d34_7) ?_
  rw [Int32.sub_zero c2]
  refine zsn 9 #[rv t2, iv 0, iv c2, iv c2, .unset] X1 hx (D d34_8) ?_
  refine zin 10 X1 hx (D d34_9) rfl ?_
  obtain ⟨T2, h2, kc2, X2, e2, E2, A2, st2⟩ := newP X1 hx hZ (ww hw 15 rfl) kq1 (g := (mkF m 10 #[rv t2, iv 0, iv c2, iv c2, .unset] [(.int c2)])) rfl (D d34_10) rfl lc.nn (cap := 100) (lc.le hcap) (by decide) (by decide) (by decide)
  obtain ⟨b2, g2⟩ : ∃ z, z = h0.size := ⟨_, rfl⟩
  rw [← g2] at A2 st2
  have ne_t2_b2 : t2 ≠ b2 := Nat.ne_of_lt (Nat.lt_of_lt_of_eq lt_t2 g2.symm)
  have ne_wO_b2 : wO ≠ b2 := Nat.ne_of_lt (Nat.lt_of_lt_of_le lt_wO (Nat.le_trans O0.2.1 (Nat.le_of_eq g2.symm)))
  have ne_wT_b2 : wT ≠ b2 := Nat.ne_of_lt (Nat.lt_of_lt_of_le lt_wT (Nat.le_trans O0.2.1 (Nat.le_of_eq g2.symm)))
  have g_b2 : n0 ≤ b2 := Nat.le_trans (O0.1 ▸ O0.2.1) (Nat.le_of_eq g2.symm)
  have O2 : Old Z n0 h2 := O0.ext E2
  have sz_b2 : h0.size ≤ b2 := Nat.le_trans K0.1 (Nat.le_of_eq g2.symm)
  have K2 : Keep h0 h2 [] := K0.ext E2
  have V_b2 : Arv Z h2 b2 kc2 .byte c2 [] (.int (0 : Int32)) := Arv.new A2 lc.nn
  have lt_b2 := A2.lt
  refine zst 12 #[rv t2, iv 0, iv c2, iv c2, .unset] [(.ref b2)] st2 ?_
  refine zrl 14 #[rv t2, iv 0, iv c2, iv c2, rv b2] X2 hx (D d34_12) rfl ?_
  refine zan 15 X2 hx (D d34_14) rfl rfl ?_
  refine zin 16 X2 hx (D d34_15) rfl ?_
  refine zal 18 X2 hx (D d34_16) rfl rfl ?_
  refine zic 19 0 X2 hx (D d34_18) ?_
  refine zan 20 X2 hx (D d34_19) rfl rfl ?_
  have ft4 := (V_t2.ext E2)
  obtain ⟨cl3, Ar3, -, S3, Nx3, -, -⟩ := id ft4
  refine Go.st (T' := T2) (f' := (mkF m 21 #[rv t2, iv 0, iv c2, iv c2, rv b2] [(.int Y2), (.int 0), (.ref b2), (.int 0), (.ref t2)])) (fun _ k => X2.arraylength hx (by rw [e2]; exact Ar3.1) (State.isArrayOf_alike hZ.alike Ar3.2.1) (g := (mkF m 20 #[rv t2, iv 0, iv c2, iv c2, rv b2] [(.ref t2), (.int 0), (.ref b2), (.int 0), (.ref t2)])) rfl rfl (D d34_20) _ (by rw [len_of S3 Nx3]; exact k)) ?_
  refine zin 22 X2 hx (D d34_21) rfl ?_
  refine zsb 23 X2 hx (D d34_22) ?_
  rw [Int32.sub_zero Y2]
  refine zin 24 X2 hx (D d34_23) rfl ?_
  refine gS 27 4 1 100 X2 N1 hx hZ (y := mq13) hown hml (ww hw 147 rfl) (ww hw 148 rfl) (ww hw 139 rfl) (gmB l Z a0 hw [] Y2 c2 h2 n0 O2 hlt) (ww hw 149 rfl) e2 [(.int Y2), (.int c2)] [(.int 0), (.ref b2), (.int 0), (.ref t2)] (lenOf pd__II_I rfl) (D d34_24) ?_
  rintro T5 L5 M5 _ X5 uu5 ⟨rfl, Nq5, kq5⟩
  have N5 := uu5 Nq5
  refine zsk [(.int c2), (.int 0), (.ref b2), (.int 0), (.ref t2)] ?_
  have vp7 := Arv.pad V_b2 (pad_rep [] (.int (0 : Int32)) (xs).length)
  obtain ⟨T8, h8, L8, X8, e8, N8, kq8, vq8, st8⟩ := cpA X5 hx hZ hown (ww hw 150 rfl) (ww hw 104 rfl) (ww hw 102 rfl) (ww hw 103 rfl) kq5 ft4 vp7 (us := xs) (Or.inl ⟨rfl, rfl⟩) (by decide) ln0.nn lc.nn (own_c6 lc bd).1 (by show 0 + _ ≤ _; omega) (own_mapr lc.nat) (own_padl ln0 lc) N5 g_b2 (g := (mkF m 27 #[rv t2, iv 0, iv c2, iv c2, rv b2] [(.int c2), (.int 0), (.ref b2), (.int 0), (.ref t2)])) rfl (by rw [hml]; rfl) rfl (D d34_27) (by decide) (W := 0) (by show 2 * 0 + _ ≤ _; exact Nat.le_of_eq rfl) (by decide)
  rw [own_join ln0.nat lc.nat] at vq8
  have O8 : Old Z n0 h8 := O2.keep kq8 (allS g_b2 all0)
  have K8 : Keep h0 h8 [] := K2.trans kq8 (allS (Or.inr sz_b2) all0)
  refine zst 30 #[rv t2, iv 0, iv c2, iv c2, rv b2] [] st8 ?_
  refine zal 32 X8 hx (D d34_30) rfl rfl ?_
  refine Go.retV X8 hlk hx (t := (.array .byte)) hret rfl (Or.inr (Or.inr (Or.inr (Or.inr ⟨rfl, rfl, rfl⟩)))) (D d34_32) e8 ?_ (by decide) (by decide)
  exact ⟨b2, kc2, rfl, N8, sz_b2, K8, vq8⟩
theorem d33_0 : decode jdk_65_method_132_code 0 = .ok (.iload_n 1, 1) := by decide +kernel
theorem d33_1 : decode jdk_65_method_132_code 1 = .ok (.ifCond .ne 9, 3) := by decide +kernel
theorem d33_4 : decode jdk_65_method_132_code 4 = .ok (.iload_n 2, 1) := by decide +kernel
theorem d33_5 : decode jdk_65_method_132_code 5 = .ok (.aload_n 0, 1) := by decide +kernel
theorem d33_6 : decode jdk_65_method_132_code 6 = .ok (.arraylength, 1) := by decide +kernel
theorem d33_7 : decode jdk_65_method_132_code 7 = .ok (.if_icmp .eq 10, 3) := by decide +kernel
theorem d33_17 : decode jdk_65_method_132_code 17 = .ok (.aload_n 0, 1) := by decide +kernel
theorem d33_18 : decode jdk_65_method_132_code 18 = .ok (.invokevirtual 310, 3) := by decide +kernel
theorem d33_21 : decode jdk_65_method_132_code 21 = .ok (.checkcast 311, 3) := by decide +kernel
theorem d33_24 : decode jdk_65_method_132_code 24 = .ok (.areturn, 1) := by decide +kernel
theorem d33_10 : decode jdk_65_method_132_code 10 = .ok (.aload_n 0, 1) := by decide +kernel
theorem d33_11 : decode jdk_65_method_132_code 11 = .ok (.iload_n 1, 1) := by decide +kernel
theorem d33_12 : decode jdk_65_method_132_code 12 = .ok (.iload_n 2, 1) := by decide +kernel
theorem d33_13 : decode jdk_65_method_132_code 13 = .ok (.invokestatic 339, 3) := by decide +kernel
theorem pd___BII__B : parseMethodDescriptor "([BII)[B" = some ⟨[(.array .byte), .int, .int], some (.array .byte)⟩ := by decide +kernel
theorem d33_16 : decode jdk_65_method_132_code 16 = .ok (.areturn, 1) := by decide +kernel
set_option maxRecDepth 65536 in
set_option maxHeartbeats 40000000 in
theorem gcr (l : Launch) (Z : State) (a0 : Array Value) (hw : ∀ d ∈ tables_1, d.before a0 Z = true) (ws : List Jvm.Cond) (t2 : Addr) (k2 : ClassId) (Y2 : Int32) (c2 : Int32) (xs : List Value) (wO : Addr) (wT : Addr) (kO : ClassId) (kT : ClassId) (iC : Int32) (vF : Value) (h0 : Heap) (n0 : Nat) (O0 : Old Z n0 h0) (lc : Ln c2 xs) (bd : Bd c2 Y2) (hcap : xs.length ≤ 100) (E_t2 : Exa Z h0 t2 "[B") (V_t2 : Arv Z h0 t2 k2 .byte Y2 xs (.int 0)) (WW : World1 Z wO wT kO kT iC vF) :
    Con l Z mq36 jdk_65_method_132_code 3 (some (.array .byte)) ws ({ frames := 2, cells := 1, slots := 200, locals := 36 } : Room) #[(.ref t2), (.int 0), (.int c2)] h0 (fun v h L => ∃ (b : Addr) (kb : ClassId), v = some (.ref b) ∧ Fr n0 L ∧ h0.size ≤ b ∧ Keep h0 h [] ∧ Arv Z h b kb .byte c2 xs (.int 0)) := by
  refine own_body (plainFor_of_name pn_java_util_Arrays) ?_
  intro p e s m below meth c s₁ hx hby hml hZ hown hnm hlk hret X0 e0
  have N0 := Fr.nil n0
  have D := @hb _ _ hby
  have K0 : Keep h0 h0 [] := Keep.refl _ _
  refine Go.st (T' := s₁) (f' := (mkF m 0 #[rv t2, iv 0, iv c2] [])) (fun _ k => castTop (by first | (simp [entryFrame, mkF, argsToLocals, Value.category]; done) | rfl) k) ?_
  have ⟨S_iC, nz_iC, S_vF, r_vF, S_wO, E_wO, S_wT, E_wT, V_wO, V_wT⟩ := WW
  have lt_wO := E_wO.lt
  have lt_wT := E_wT.lt
  have lt_t2 := V_t2.lt
  refine zin 1 X0 hx (D d33_0) rfl ?_
  refine zfn 4 X0 hx (D d33_1) (by decide) ?_
  refine zin 5 X0 hx (D d33_4) rfl ?_
  refine zan 6 X0 hx (D d33_5) rfl rfl ?_
  obtain ⟨cl1, Ar1, -, S1, Nx1, -, -⟩ := id V_t2
  refine Go.st (T' := s₁) (f' := (mkF m 7 #[rv t2, iv 0, iv c2] [(.int Y2), (.int c2)])) (fun _ k => X0.arraylength hx (by rw [e0]; exact Ar1.1) (State.isArrayOf_alike hZ.alike Ar1.2.1) (g := (mkF m 6 #[rv t2, iv 0, iv c2] [(.ref t2), (.int c2)])) rfl rfl (D d33_6) _ (by rw [len_of S1 Nx1]; exact k)) ?_
  by_cases cd2 : c2 = Y2
  · refine zcy 17 X0 hx (D d33_7) (teq cd2).1 ?_
    refine zan 18 X0 hx (D d33_17) rfl rfl ?_
    obtain ⟨T4, h4, X4, e4, E4, V4, A4, st4⟩ := cloneH X0 hx hZ hown (ww hw 254 rfl) (ww hw 255 rfl) (ww hw 259 rfl) (ww hw 257 rfl) (ww hw 258 rfl) (ww hw 260 rfl) e0 (Arv.arh V_t2) E_t2 (g := (mkF m 18 #[rv t2, iv 0, iv c2] [(.ref t2)])) rfl (by rw [hml]; rfl) rfl (D d33_18) (by decide) (W := 0) (by show 2 * 0 + _ ≤ _; exact Nat.le_of_eq rfl) (by decide) (cap := 200) (own_c6 lc bd).2 (by decide) (by decide)
    obtain ⟨b4, g4⟩ : ∃ z, z = h0.size := ⟨_, rfl⟩
    rw [← g4] at V4 A4 st4
    have ne_t2_b4 : t2 ≠ b4 := Nat.ne_of_lt (Nat.lt_of_lt_of_eq lt_t2 g4.symm)
    have ne_wO_b4 : wO ≠ b4 := Nat.ne_of_lt (Nat.lt_of_lt_of_le lt_wO (Nat.le_trans O0.2.1 (Nat.le_of_eq g4.symm)))
    have ne_wT_b4 : wT ≠ b4 := Nat.ne_of_lt (Nat.lt_of_lt_of_le lt_wT (Nat.le_trans O0.2.1 (Nat.le_of_eq g4.symm)))
    have g_b4 : n0 ≤ b4 := Nat.le_trans (O0.1 ▸ O0.2.1) (Nat.le_of_eq g4.symm)
    have O4 : Old Z n0 h4 := O0.ext E4
    have sz_b4 : h0.size ≤ b4 := Nat.le_trans K0.1 (Nat.le_of_eq g4.symm)
    have K4 : Keep h0 h4 [] := K0.ext E4
    have V_b4 : Arv Z h4 b4 k2 .byte Y2 xs (.int (0 : Int32)) := V4
    have lt_b4 := A4.lt
    refine zst 21 #[rv t2, iv 0, iv c2] [(.ref b4)] st4 ?_
    obtain ⟨T5, X5, e5, st5⟩ := castY X4 hx hZ hown (ww hw 261 rfl) e4 (Ins.self A4) (g := (mkF m 21 #[rv t2, iv 0, iv c2] [(.ref b4)])) rfl rfl (D d33_21)
    refine zst 24 #[rv t2, iv 0, iv c2] [(.ref b4)] st5 ?_
    refine Go.retV X5 hlk hx (t := (.array .byte)) hret rfl (Or.inr (Or.inr (Or.inr (Or.inr ⟨rfl, rfl, rfl⟩)))) (D d33_24) e5 ?_ (by decide) (by decide)
    exact ⟨b4, k2, rfl, N0, sz_b4, K4, by rw [cd2]; exact V_b4⟩
  · refine zcn 10 X0 hx (D d33_7) (feq cd2).1 ?_
    refine zan 11 X0 hx (D d33_10) rfl rfl ?_
    refine zin 12 X0 hx (D d33_11) rfl ?_
    refine zin 13 X0 hx (D d33_12) rfl ?_
    refine gS 16 0 1 100 X0 N0 hx hZ (y := mq35) hown hml (ww hw 186 rfl) (ww hw 187 rfl) (ww hw 145 rfl) (grb l Z a0 hw [] t2 k2 Y2 c2 xs wO wT kO kT iC vF h0 n0 O0 lc bd hcap (own_ltN bd cd2) E_t2 V_t2 WW) (ww hw 188 rfl) e0 [(.ref t2), (.int 0), (.int c2)] [] (lenOf pd___BII__B rfl) (D d33_13) ?_
    rintro T6 L6 M6 _ X6 uu6 ⟨b6, kb6, rfl, Nq6, zq6, kq6, vq6⟩
    have N6 := uu6 Nq6
    have ne_t2_b6 : t2 ≠ b6 := Nat.ne_of_lt (Nat.lt_of_lt_of_le lt_t2 zq6)
    have ne_wO_b6 : wO ≠ b6 := Nat.ne_of_lt (Nat.lt_of_lt_of_le lt_wO (Nat.le_trans O0.2.1 zq6))
    have ne_wT_b6 : wT ≠ b6 := Nat.ne_of_lt (Nat.lt_of_lt_of_le lt_wT (Nat.le_trans O0.2.1 zq6))
    have g_b6 : n0 ≤ b6 := Nat.le_trans (O0.1 ▸ O0.2.1) zq6
    have sz_b6 : h0.size ≤ b6 := Nat.le_trans K0.1 zq6
    have O6 : Old Z n0 T6.heap := O0.keep kq6 all0
    have K6 : Keep h0 T6.heap [] := K0.trans kq6 all0
    have lt_b6 := vq6.lt
    refine zsk [(.ref b6)] ?_
    refine Go.retV X6 hlk hx (t := (.array .byte)) hret rfl (Or.inr (Or.inr (Or.inr (Or.inr ⟨rfl, rfl, rfl⟩)))) (D d33_16) rfl ?_ (by decide) (by decide)
    exact ⟨b6, kb6, rfl, N6, sz_b6, K6, vq6⟩
theorem d29_0 : decode jdk_42_method_150_code 0 = .ok (.aload_n 0, 1) := by decide +kernel
theorem d29_1 : decode jdk_42_method_150_code 1 = .ok (.invokespecial 1, 3) := by decide +kernel
theorem d29_4 : decode jdk_42_method_150_code 4 = .ok (.aload_n 1, 1) := by decide +kernel
theorem d29_5 : decode jdk_42_method_150_code 5 = .ok (.invokevirtual 552, 3) := by decide +kernel
theorem pd____B : parseMethodDescriptor "()[B" = some ⟨[], some (.array .byte)⟩ := by decide +kernel
theorem d29_8 : decode jdk_42_method_150_code 8 = .ok (.astore_n 3, 1) := by decide +kernel
theorem d29_9 : decode jdk_42_method_150_code 9 = .ok (.aload_n 1, 1) := by decide +kernel
theorem d29_10 : decode jdk_42_method_150_code 10 = .ok (.invokevirtual 549, 3) := by decide +kernel
theorem d29_13 : decode jdk_42_method_150_code 13 = .ok (.istore 4, 2) := by decide +kernel
theorem d29_15 : decode jdk_42_method_150_code 15 = .ok (.aload_n 1, 1) := by decide +kernel
theorem d29_16 : decode jdk_42_method_150_code 16 = .ok (.invokevirtual 1047, 3) := by decide +kernel
theorem d29_19 : decode jdk_42_method_150_code 19 = .ok (.ifCond .eq 22, 3) := by decide +kernel
theorem d29_22 : decode jdk_42_method_150_code 22 = .ok (.aload_n 0, 1) := by decide +kernel
theorem d29_23 : decode jdk_42_method_150_code 23 = .ok (.iconst 0, 1) := by decide +kernel
theorem d29_24 : decode jdk_42_method_150_code 24 = .ok (.putfield 15, 3) := by decide +kernel
theorem d29_27 : decode jdk_42_method_150_code 27 = .ok (.aload_n 0, 1) := by decide +kernel
theorem d29_28 : decode jdk_42_method_150_code 28 = .ok (.aload_n 3, 1) := by decide +kernel
theorem d29_29 : decode jdk_42_method_150_code 29 = .ok (.iconst 0, 1) := by decide +kernel
theorem d29_30 : decode jdk_42_method_150_code 30 = .ok (.iload 4, 2) := by decide +kernel
theorem d29_32 : decode jdk_42_method_150_code 32 = .ok (.invokestatic 54, 3) := by decide +kernel
theorem d29_35 : decode jdk_42_method_150_code 35 = .ok (.putfield 9, 3) := by decide +kernel
theorem d29_38 : decode jdk_42_method_150_code 38 = .ok (.goto 59, 3) := by decide +kernel
theorem d29_97 : decode jdk_42_method_150_code 97 = .ok (.return_, 1) := by decide +kernel
set_option maxRecDepth 65536 in
set_option maxHeartbeats 40000000 in
theorem gt1 (l : Launch) (Z : State) (a0 : Array Value) (hw : ∀ d ∈ tables_1, d.before a0 Z = true) (ws : List Jvm.Cond) (a1 : Addr) (sb : Addr) (t2 : Addr) (k2 : ClassId) (Y2 : Int32) (c2 : Int32) (xs : List Value) (wO : Addr) (wT : Addr) (kO : ClassId) (kT : ClassId) (iC : Int32) (vF : Value) (h0 : Heap) (n0 : Nat) (O0 : Old Z n0 h0) (lc : Ln c2 xs) (bd : Bd c2 Y2) (hcap : xs.length ≤ 100) (g_a1 : n0 ≤ a1) (ne1 : a1 ≠ sb) (ne2 : a1 ≠ t2) (E_a1 : Exa Z h0 a1 "java/lang/String") (F_a1_coder : Fld Z h0 a1 "java/lang/String" "coder" "B" (.int 0)) (F_a1_value : Fld Z h0 a1 "java/lang/String" "value" "[B" .null) (E_sb : Exa Z h0 sb "java/lang/StringBuilder") (F_sb_coder : Fld Z h0 sb "java/lang/AbstractStringBuilder" "coder" "B" (.int 0)) (F_sb_value : Fld Z h0 sb "java/lang/AbstractStringBuilder" "value" "[B" (.ref t2)) (F_sb_count : Fld Z h0 sb "java/lang/AbstractStringBuilder" "count" "I" (.int c2)) (E_t2 : Exa Z h0 t2 "[B") (V_t2 : Arv Z h0 t2 k2 .byte Y2 xs (.int 0)) (WW : World1 Z wO wT kO kT iC vF) :
    Con l Z mq37 jdk_42_method_150_code 5 none ws ({ frames := 3, cells := 1, slots := 200, locals := 51 } : Room) #[(.ref a1), (.ref sb), .null] h0 (fun v h L => v = none ∧ Fr n0 L ∧ Keep h0 h [a1] ∧ Exa Z h a1 "java/lang/String" ∧ Fld Z h a1 "java/lang/String" "coder" "B" (.int 0) ∧ ∃ (t : Addr) (kt : ClassId), h0.size ≤ t ∧ Fld Z h a1 "java/lang/String" "value" "[B" (.ref t) ∧ Arv Z h t kt .byte c2 xs (.int 0)) := by
  refine own_body (plainFor_of_name pn_java_lang_String) ?_
  intro p e s m below meth c s₁ hx hby hml hZ hown hnm hlk hret X0 e0
  have N0 := Fr.nil n0
  have D := @hb _ _ hby
  have K0 : Keep h0 h0 [a1] := Keep.refl _ _
  refine Go.st (T' := s₁) (f' := (mkF m 0 #[rv a1, rv sb, .val .null, .unset, .unset] [])) (fun _ k => castTop (by first | (simp [entryFrame, mkF, argsToLocals, Value.category]; done) | rfl) k) ?_
  have ⟨S_iC, nz_iC, S_vF, r_vF, S_wO, E_wO, S_wT, E_wT, V_wO, V_wT⟩ := WW
  have lt_wO := E_wO.lt
  have lt_wT := E_wT.lt
  have lt_a1 := E_a1.lt
  have ne_wO_a1 : wO ≠ a1 := O0.ne lt_wO g_a1
  have ne_wT_a1 : wT ≠ a1 := O0.ne lt_wT g_a1
  have lt_sb := E_sb.lt
  have lt_t2 := V_t2.lt
  refine zan 1 X0 hx (D d29_0) rfl rfl ?_
  obtain ⟨T1, X1, e1, st1⟩ := initO X0 hx hZ hown (ww hw 11 rfl) (ww hw 12 rfl) (ww hw 13 rfl) e0 (g := (mkF m 1 #[rv a1, rv sb, .val .null, .unset, .unset] [(.ref a1)])) rfl (by rw [hml]; rfl) rfl (D d29_1) (by decide) (W := 0) (by show 2 * 0 + _ ≤ _; exact Nat.le_of_eq rfl) (by decide)
  refine zst 4 #[rv a1, rv sb, .val .null, .unset, .unset] [] st1 ?_
  refine zan 5 X1 hx (D d29_4) rfl rfl ?_
  refine gV 8 0 0 0 X1 N0 hx hZ (y := mq31) hown hml (ww hw 169 rfl) (ww hw 170 rfl) (ww hw 172 rfl) (ww hw 171 rfl) (gv1 l Z a0 hw [] sb t2 h0 n0 O0 E_sb F_sb_value) (ww hw 173 rfl) (ww hw 48 rfl) e1 E_sb [] [] (lenOf pd____B rfl) (D d29_5) ?_
  rintro T2 L2 M2 _ X2 uu2 ⟨rfl, Nq2, kq2⟩
  have N2 := uu2 Nq2
  refine zsk [(.ref t2)] ?_
  refine zrn 9 #[rv a1, rv sb, .val .null, rv t2, .unset] X2 hx (D d29_8) rfl ?_
  refine zan 10 X2 hx (D d29_9) rfl rfl ?_
  obtain ⟨cq3, kq3, q3a, q3b, q3c⟩ := isOf hZ kq2 E_sb
  obtain ⟨_, _, ⟨T3, L3, kk3, nn3⟩, -, X3, ⟨Lc3, hQ3, lq3, yq3, zz3⟩, st3⟩ := X2.virtualBack hx (y := mq32) (z := mq33) hown (mvT hZ (ww hw 174 rfl)) (mvT hZ (ww hw 175 rfl)) (own_nf (args := #[]) (mvT hZ (ww hw 83 rfl)) rfl) (mvT hZ (ww hw 177 rfl)) (mvT hZ (ww hw 178 rfl)) (by decide) (own_back (W := 0) (gv3 l Z a0 hw [] sb c2 h0 n0 O0 E_sb F_sb_count) hZ (ww hw 179 rfl) (ww hw 40 rfl) (by decide) (by decide)) q3a q3c (g := (mkF m 10 #[rv a1, rv sb, .val .null, rv t2, .unset] [(.ref sb)])) rfl (by rw [hml]; rfl) (Steps.refl _) (argsL := []) (rest := []) (lenOf pd___I rfl) rfl (by show 2 * 0 + _ ≤ _; exact Nat.le_of_eq rfl) (D d29_10) (fun _ _ => ⟨rfl, kq2, (by decide : 0 + 0 ≤ _), (by decide : 0 + 0 ≤ _)⟩)
  dsimp only [Pt.U, Pt.locs, Pt.cells, Pt.slots] at X3 lq3 yq3 zz3 st3 hQ3
  subst lq3 yq3 zz3
  obtain ⟨rfl, Nq3, kq3⟩ := hQ3
  have N3 := Fr.app N2 Nq3
  refine Go.tr (f' := (mkF m 13 #[rv a1, rv sb, .val .null, rv t2, .unset] [(.int c2)])) st3 ?_
  refine zsl 15 #[rv a1, rv sb, .val .null, rv t2, iv c2] X3 hx (D d29_13) ?_
  refine zan 16 X3 hx (D d29_15) rfl rfl ?_
  refine gV 19 0 0 0 X3 N3 hx hZ (y := mq19) hown hml (ww hw 182 rfl) (ww hw 119 rfl) (ww hw 121 rfl) (ww hw 120 rfl) (gla l Z a0 hw [] sb wO wT kO kT iC vF h0 n0 O0 E_sb F_sb_coder WW) (ww hw 122 rfl) (ww hw 48 rfl) kq3 E_sb [] [] (lenOf pd___Z rfl) (D d29_16) ?_
  rintro T4 L4 M4 _ X4 uu4 ⟨rfl, Nq4, kq4⟩
  have N4 := uu4 Nq4
  refine zsk [(.int 1)] ?_
  refine zfn 22 X4 hx (D d29_19) (by decide) ?_
  refine zan 23 X4 hx (D d29_22) rfl rfl ?_
  refine zic 24 0 X4 hx (D d29_23) ?_
  obtain ⟨T5, h5, X5, e5, W5, st5⟩ := putFN X4 hx hZ hown (ww hw 21 rfl) Via.refl kq4 F_a1_coder E_a1 (Or.inr ⟨(ww hw 17 rfl), rfl, hnm⟩) (ww hw 2 rfl) (ty := .byte) (v' := (.int (0 : Int32))) (by decide) rfl (by decide) (g := (mkF m 24 #[rv a1, rv sb, .val .null, rv t2, iv c2] [(.int 0), (.ref a1)])) rfl rfl (D d29_24)
  have N5 := Fr.snoc X5 N4 g_a1
  have O5 : Old Z n0 h5 := O0.wr W5 g_a1
  have K5 : Keep h0 h5 [a1] := K0.wr W5 (Or.inl (List.mem_of_getElem? (i := 0) rfl))
  have Fw5 := F_a1_coder.same W5
  refine zst 27 #[rv a1, rv sb, .val .null, rv t2, iv c2] [] st5 ?_
  refine zan 28 X5 hx (D d29_27) rfl rfl ?_
  refine zan 29 X5 hx (D d29_28) rfl rfl ?_
  refine zic 30 0 X5 hx (D d29_29) ?_
  refine zil 32 X5 hx (D d29_30) rfl ?_
  have ft7 := (E_t2.wr W5)
  have ft8 := (V_t2.other W5 (Ne.symm ne2))
  refine gS 35 1 1 200 X5 N5 hx hZ (y := mq36) hown hml (ww hw 183 rfl) (ww hw 184 rfl) (ww hw 145 rfl) (gcr l Z a0 hw [] t2 k2 Y2 c2 xs wO wT kO kT iC vF h5 n0 O5 lc bd hcap  ft7 ft8 WW) (ww hw 185 rfl) e5 [(.ref t2), (.int 0), (.int c2)] [(.ref a1)] (lenOf pd___BII__B rfl) (D d29_32) ?_
  rintro T6 L6 M6 _ X6 uu6 ⟨b6, kb6, rfl, Nq6, zq6, kq6, vq6⟩
  have N6 := uu6 Nq6
  have ft9 := (Nat.lt_of_lt_of_eq lt_a1 W5.size.symm)
  have ne_a1_b6 : a1 ≠ b6 := Nat.ne_of_lt (Nat.lt_of_lt_of_le ft9 zq6)
  have ft10 := (Nat.lt_of_lt_of_eq lt_sb W5.size.symm)
  have ne_sb_b6 : sb ≠ b6 := Nat.ne_of_lt (Nat.lt_of_lt_of_le ft10 zq6)
  have ft11 := (Nat.lt_of_lt_of_eq lt_t2 W5.size.symm)
  have ne_t2_b6 : t2 ≠ b6 := Nat.ne_of_lt (Nat.lt_of_lt_of_le ft11 zq6)
  have ne_wO_b6 : wO ≠ b6 := Nat.ne_of_lt (Nat.lt_of_lt_of_le lt_wO (Nat.le_trans O5.2.1 zq6))
  have ne_wT_b6 : wT ≠ b6 := Nat.ne_of_lt (Nat.lt_of_lt_of_le lt_wT (Nat.le_trans O5.2.1 zq6))
  have g_b6 : n0 ≤ b6 := Nat.le_trans (O5.1 ▸ O5.2.1) zq6
  have sz_b6 : h0.size ≤ b6 := Nat.le_trans K5.1 zq6
  have O6 : Old Z n0 T6.heap := O5.keep kq6 all0
  have K6 : Keep h0 T6.heap [a1] := K5.trans kq6 all0
  have lt_b6 := vq6.lt
  refine zsk [(.ref b6), (.ref a1)] ?_
  have ft12 := ((E_a1.wr W5).keep kq6)
  have ft13 := ((F_a1_value.other W5 (Or.inr (slot_ne (Or.inr (ww hw 16 rfl)) (Or.inr (ww hw 17 rfl)) (by decide) (t := (.array .byte)) (t' := .byte) (by decide) (by decide)))).keep kq6 nin0)
  obtain ⟨T14, h14, X14, e14, W14, st14⟩ := putF X6 hx hZ hown (host := "") (Or.inl (ww hw 20 rfl)) Via.refl rfl ft13 ft12 (Or.inr ⟨(ww hw 16 rfl), rfl, hnm⟩) (ww hw 2 rfl) (ty := (.array .byte)) (by decide) rfl rfl (g := (mkF m 35 #[rv a1, rv sb, .val .null, rv t2, iv c2] [(.ref b6), (.ref a1)])) rfl rfl (D d29_35)
  have N14 := Fr.snoc X14 N6 g_a1
  have O14 : Old Z n0 h14 := O6.wr W14 g_a1
  have K14 : Keep h0 h14 [a1] := K6.wr W14 (Or.inl (List.mem_of_getElem? (i := 0) rfl))
  have Fw14 := ft13.same W14
  refine zst 38 #[rv a1, rv sb, .val .null, rv t2, iv c2] [] st14 ?_
  refine zgo 97 X14 hx (D d29_38) ?_
  refine Go.ret0 X14 hlk hx hret (D d29_97) e14 ?_ (by decide) (by decide)
  have ft15 := (ft12.wr W14)
  have ft16 := ((Fw5.keep kq6 nin0).other W14 (Or.inr (slot_ne (Or.inr (ww hw 17 rfl)) (Or.inr (ww hw 16 rfl)) (by decide) (t := .byte) (t' := (.array .byte)) (by decide) (by decide))))
  have ft17 := (vq6.other W14 (Ne.symm ne_a1_b6))
  exact ⟨rfl, N14, K14, ft15, ft16, b6, kb6, sz_b6, Fw14, ft17⟩
theorem d28_0 : decode jdk_42_method_53_code 0 = .ok (.aload_n 0, 1) := by decide +kernel
theorem d28_1 : decode jdk_42_method_53_code 1 = .ok (.aload_n 1, 1) := by decide +kernel
theorem d28_2 : decode jdk_42_method_53_code 2 = .ok (.aconst_null, 1) := by decide +kernel
theorem d28_3 : decode jdk_42_method_53_code 3 = .ok (.invokespecial 489, 3) := by decide +kernel
theorem pd__Ljava_lang_AbstractStringBuilder_Ljava_lang_Void__V : parseMethodDescriptor "(Ljava/lang/AbstractStringBuilder;Ljava/lang/Void;)V" = some ⟨[(.object "java/lang/AbstractStringBuilder"), (.object "java/lang/Void")], none⟩ := by decide +kernel
theorem d28_6 : decode jdk_42_method_53_code 6 = .ok (.return_, 1) := by decide +kernel
set_option maxRecDepth 65536 in
set_option maxHeartbeats 40000000 in
theorem gt2 (l : Launch) (Z : State) (a0 : Array Value) (hw : ∀ d ∈ tables_1, d.before a0 Z = true) (ws : List Jvm.Cond) (a1 : Addr) (sb : Addr) (t2 : Addr) (k2 : ClassId) (Y2 : Int32) (c2 : Int32) (xs : List Value) (wO : Addr) (wT : Addr) (kO : ClassId) (kT : ClassId) (iC : Int32) (vF : Value) (h0 : Heap) (n0 : Nat) (O0 : Old Z n0 h0) (lc : Ln c2 xs) (bd : Bd c2 Y2) (hcap : xs.length ≤ 100) (g_a1 : n0 ≤ a1) (ne1 : a1 ≠ sb) (ne2 : a1 ≠ t2) (E_a1 : Exa Z h0 a1 "java/lang/String") (F_a1_coder : Fld Z h0 a1 "java/lang/String" "coder" "B" (.int 0)) (F_a1_value : Fld Z h0 a1 "java/lang/String" "value" "[B" .null) (E_sb : Exa Z h0 sb "java/lang/StringBuilder") (F_sb_coder : Fld Z h0 sb "java/lang/AbstractStringBuilder" "coder" "B" (.int 0)) (F_sb_value : Fld Z h0 sb "java/lang/AbstractStringBuilder" "value" "[B" (.ref t2)) (F_sb_count : Fld Z h0 sb "java/lang/AbstractStringBuilder" "count" "I" (.int c2)) (E_t2 : Exa Z h0 t2 "[B") (V_t2 : Arv Z h0 t2 k2 .byte Y2 xs (.int 0)) (WW : World1 Z wO wT kO kT iC vF) :
    Con l Z mq38 jdk_42_method_53_code 2 none ws ({ frames := 4, cells := 1, slots := 200, locals := 67 } : Room) #[(.ref a1), (.ref sb)] h0 (fun v h L => v = none ∧ Fr n0 L ∧ Keep h0 h [a1] ∧ Exa Z h a1 "java/lang/String" ∧ Fld Z h a1 "java/lang/String" "coder" "B" (.int 0) ∧ ∃ (t : Addr) (kt : ClassId), h0.size ≤ t ∧ Fld Z h a1 "java/lang/String" "value" "[B" (.ref t) ∧ Arv Z h t kt .byte c2 xs (.int 0)) := by
  refine own_body (plainFor_of_name pn_java_lang_String) ?_
  intro p e s m below meth c s₁ hx hby hml hZ hown hnm hlk hret X0 e0
  have N0 := Fr.nil n0
  have D := @hb _ _ hby
  have K0 : Keep h0 h0 [a1] := Keep.refl _ _
  refine Go.st (T' := s₁) (f' := (mkF m 0 #[rv a1, rv sb] [])) (fun _ k => castTop (by first | (simp [entryFrame, mkF, argsToLocals, Value.category]; done) | rfl) k) ?_
  have ⟨S_iC, nz_iC, S_vF, r_vF, S_wO, E_wO, S_wT, E_wT, V_wO, V_wT⟩ := WW
  have lt_wO := E_wO.lt
  have lt_wT := E_wT.lt
  have lt_a1 := E_a1.lt
  have ne_wO_a1 : wO ≠ a1 := O0.ne lt_wO g_a1
  have ne_wT_a1 : wT ≠ a1 := O0.ne lt_wT g_a1
  have lt_sb := E_sb.lt
  have lt_t2 := V_t2.lt
  refine zan 1 X0 hx (D d28_0) rfl rfl ?_
  refine zan 2 X0 hx (D d28_1) rfl rfl ?_
  refine Go.st (f' := (mkF m 3 #[rv a1, rv sb] [.null, (.ref sb), (.ref a1)])) (fun _ k => XS.aconstNull X0.here hx rfl (D d28_2) k) ?_
  obtain ⟨_, _, ⟨T1, L1, kk1, nn1⟩, -, X1, ⟨Lc1, hQ1, lq1, yq1, zz1⟩, st1⟩ := X0.specialBack hx (y := mq37) rfl hown (mvT hZ (ww hw 166 rfl)) (mvT hZ (ww hw 167 rfl)) (mvT hZ (ww hw 168 rfl)) (by decide) (own_back (W := 0) (gt1 l Z a0 hw [] a1 sb t2 k2 Y2 c2 xs wO wT kO kT iC vF h0 n0 O0 lc bd hcap g_a1 ne1 ne2 E_a1 F_a1_coder F_a1_value E_sb F_sb_coder F_sb_value F_sb_count E_t2 V_t2 WW) hZ (ww hw 168 rfl) (ww hw 3 rfl) (by decide) (by decide)) (g := (mkF m 3 #[rv a1, rv sb] [.null, (.ref sb), (.ref a1)])) rfl (by rw [hml]; rfl) (Steps.refl _) (a := a1) (argsL := [(.ref sb), .null]) (rest := []) (lenOf pd__Ljava_lang_AbstractStringBuilder_Ljava_lang_Void__V rfl) rfl (by show 2 * 0 + _ ≤ _; exact Nat.le_of_eq rfl) (D d28_3) (fun _ _ => ⟨rfl, e0, (by decide : 0 + 1 ≤ _), (by decide : 0 + 200 ≤ _)⟩)
  dsimp only [Pt.U, Pt.locs, Pt.cells, Pt.slots] at X1 lq1 yq1 zz1 st1 hQ1
  subst lq1 yq1 zz1
  obtain ⟨rfl, Nq1, kq1, eq1, cq1, tt1, kt1, zq1, fq1, vq1⟩ := hQ1
  have N1 := Fr.app N0 Nq1
  have ne_a1_tt1 : a1 ≠ tt1 := Nat.ne_of_lt (Nat.lt_of_lt_of_le lt_a1 zq1)
  have ne_sb_tt1 : sb ≠ tt1 := Nat.ne_of_lt (Nat.lt_of_lt_of_le lt_sb zq1)
  have ne_t2_tt1 : t2 ≠ tt1 := Nat.ne_of_lt (Nat.lt_of_lt_of_le lt_t2 zq1)
  have ne_wO_tt1 : wO ≠ tt1 := Nat.ne_of_lt (Nat.lt_of_lt_of_le lt_wO (Nat.le_trans O0.2.1 zq1))
  have ne_wT_tt1 : wT ≠ tt1 := Nat.ne_of_lt (Nat.lt_of_lt_of_le lt_wT (Nat.le_trans O0.2.1 zq1))
  have g_tt1 : n0 ≤ tt1 := Nat.le_trans (O0.1 ▸ O0.2.1) zq1
  have sz_tt1 : h0.size ≤ tt1 := Nat.le_trans K0.1 zq1
  have O1 : Old Z n0 T1.heap := O0.keep kq1 (allS g_a1 all0)
  have K1 : Keep h0 T1.heap [a1] := K0.trans kq1 (allS (Or.inl (List.mem_of_getElem? (i := 0) rfl)) all0)
  have lt_a1 := eq1.lt
  have lt_tt1 := vq1.lt
  refine Go.tr (f' := (mkF m 6 #[rv a1, rv sb] [])) st1 ?_
  refine Go.ret0 X1 hlk hx hret (D d28_6) rfl ?_ (by decide) (by decide)
  exact ⟨rfl, N1, K1, eq1, cq1, tt1, kt1, sz_tt1, fq1, vq1⟩
theorem d27_0 : decode jdk_67_method_42_code 0 = .ok (.new 18, 3) := by decide +kernel
theorem d27_3 : decode jdk_67_method_42_code 3 = .ok (.dup, 1) := by decide +kernel
theorem d27_4 : decode jdk_67_method_42_code 4 = .ok (.aload_n 0, 1) := by decide +kernel
theorem d27_5 : decode jdk_67_method_42_code 5 = .ok (.invokespecial 137, 3) := by decide +kernel
theorem pd__Ljava_lang_StringBuilder__V : parseMethodDescriptor "(Ljava/lang/StringBuilder;)V" = some ⟨[(.object "java/lang/StringBuilder")], none⟩ := by decide +kernel
theorem d27_8 : decode jdk_67_method_42_code 8 = .ok (.areturn, 1) := by decide +kernel
set_option maxRecDepth 65536 in
set_option maxHeartbeats 40000000 in
theorem gt3 (l : Launch) (Z : State) (a0 : Array Value) (hw : ∀ d ∈ tables_1, d.before a0 Z = true) (ws : List Jvm.Cond) (sb : Addr) (t2 : Addr) (k2 : ClassId) (Y2 : Int32) (c2 : Int32) (xs : List Value) (wO : Addr) (wT : Addr) (kO : ClassId) (kT : ClassId) (iC : Int32) (vF : Value) (h0 : Heap) (n0 : Nat) (O0 : Old Z n0 h0) (lc : Ln c2 xs) (bd : Bd c2 Y2) (hcap : xs.length ≤ 100) (E_sb : Exa Z h0 sb "java/lang/StringBuilder") (F_sb_coder : Fld Z h0 sb "java/lang/AbstractStringBuilder" "coder" "B" (.int 0)) (F_sb_value : Fld Z h0 sb "java/lang/AbstractStringBuilder" "value" "[B" (.ref t2)) (F_sb_count : Fld Z h0 sb "java/lang/AbstractStringBuilder" "count" "I" (.int c2)) (E_t2 : Exa Z h0 t2 "[B") (V_t2 : Arv Z h0 t2 k2 .byte Y2 xs (.int 0)) (WW : World1 Z wO wT kO kT iC vF) :
    Con l Z mq39 jdk_67_method_42_code 1 (some (.object "java/lang/String")) ws ({ frames := 5, cells := 2, slots := 204, locals := 81 } : Room) #[(.ref sb)] h0 (fun v h L => ∃ b : Addr, v = some (.ref b) ∧ Fr n0 L ∧ h0.size ≤ b ∧ Keep h0 h [] ∧ Exa Z h b "java/lang/String" ∧ Fld Z h b "java/lang/String" "coder" "B" (.int 0) ∧ ∃ (t : Addr) (kt : ClassId), h0.size ≤ t ∧ Fld Z h b "java/lang/String" "value" "[B" (.ref t) ∧ Arv Z h t kt .byte c2 xs (.int 0)) := by
  refine own_body (plainFor_of_name pn_java_lang_StringBuilder) ?_
  intro p e s m below meth c s₁ hx hby hml hZ hown hnm hlk hret X0 e0
  have N0 := Fr.nil n0
  have D := @hb _ _ hby
  have K0 : Keep h0 h0 [] := Keep.refl _ _
  refine Go.st (T' := s₁) (f' := (mkF m 0 #[rv sb] [])) (fun _ k => castTop (by first | (simp [entryFrame, mkF, argsToLocals, Value.category]; done) | rfl) k) ?_
  have ⟨S_iC, nz_iC, S_vF, r_vF, S_wO, E_wO, S_wT, E_wT, V_wO, V_wT⟩ := WW
  have lt_wO := E_wO.lt
  have lt_wT := E_wT.lt
  have lt_sb := E_sb.lt
  have lt_t2 := V_t2.lt
  obtain ⟨T1, h1, X1, e1, E1, A1, D1, -, st1⟩ := newO X0 hx hZ hown (ww hw 162 rfl) (ww hw 2 rfl) (ww hw 3 rfl) e0 (g := (mkF m 0 #[rv sb] [])) rfl (D d27_0) (by decide) (by decide)
  obtain ⟨b1, g1⟩ : ∃ z, z = h0.size := ⟨_, rfl⟩
  rw [← g1] at A1 D1 st1
  have ne_sb_b1 : sb ≠ b1 := Nat.ne_of_lt (Nat.lt_of_lt_of_eq lt_sb g1.symm)
  have ne_t2_b1 : t2 ≠ b1 := Nat.ne_of_lt (Nat.lt_of_lt_of_eq lt_t2 g1.symm)
  have ne_wO_b1 : wO ≠ b1 := Nat.ne_of_lt (Nat.lt_of_lt_of_le lt_wO (Nat.le_trans O0.2.1 (Nat.le_of_eq g1.symm)))
  have ne_wT_b1 : wT ≠ b1 := Nat.ne_of_lt (Nat.lt_of_lt_of_le lt_wT (Nat.le_trans O0.2.1 (Nat.le_of_eq g1.symm)))
  have g_b1 : n0 ≤ b1 := Nat.le_trans (O0.1 ▸ O0.2.1) (Nat.le_of_eq g1.symm)
  have O1 : Old Z n0 h1 := O0.ext E1
  have sz_b1 : h0.size ≤ b1 := Nat.le_trans K0.1 (Nat.le_of_eq g1.symm)
  have K1 : Keep h0 h1 [] := K0.ext E1
  have lt_b1 := A1.lt
  have F_value_b1 : Fld Z h1 b1 "java/lang/String" "value" "[B" .null := D1 (Or.inr (ww hw 16 rfl)) (ty := (.array .byte)) (by decide)
  have F_coder_b1 : Fld Z h1 b1 "java/lang/String" "coder" "B" (.int (0 : Int32)) := D1 (Or.inr (ww hw 17 rfl)) (ty := .byte) (by decide)
  refine zst 3 #[rv sb] [(.ref b1)] st1 ?_
  refine Go.st (f' := (mkF m 4 #[rv sb] [(.ref b1), (.ref b1)])) (fun _ k => XS.dup X1.here hx rfl (D d27_3) rfl rfl k) ?_
  refine zan 5 X1 hx (D d27_4) rfl rfl ?_
  have ft3 := (E_sb.ext E1)
  have ft4 := (F_sb_coder.ext E1)
  have ft5 := (F_sb_value.ext E1)
  have ft6 := (F_sb_count.ext E1)
  have ft7 := (E_t2.ext E1)
  have ft8 := (V_t2.ext E1)
  obtain ⟨_, _, ⟨T2, L2, kk2, nn2⟩, -, X2, ⟨Lc2, hQ2, lq2, yq2, zz2⟩, st2⟩ := X1.specialBack hx (y := mq38) rfl hown (mvT hZ (ww hw 163 rfl)) (mvT hZ (ww hw 164 rfl)) (mvT hZ (ww hw 165 rfl)) (by decide) (own_back (W := 1) (gt2 l Z a0 hw [] b1 sb t2 k2 Y2 c2 xs wO wT kO kT iC vF h1 n0 O1 lc bd hcap g_b1 (Ne.symm ne_sb_b1) (Ne.symm ne_t2_b1) A1 F_coder_b1 F_value_b1 ft3 ft4 ft5 ft6 ft7 ft8 WW) hZ (ww hw 165 rfl) (ww hw 3 rfl) (by decide) (by decide)) (g := (mkF m 5 #[rv sb] [(.ref sb), (.ref b1), (.ref b1)])) rfl (by rw [hml]; rfl) (Steps.refl _) (a := b1) (argsL := [(.ref sb)]) (rest := [(.ref b1)]) (lenOf pd__Ljava_lang_StringBuilder__V rfl) rfl (by show 2 * 0 + _ ≤ _; exact Nat.le_of_eq rfl) (D d27_5) (fun _ _ => ⟨rfl, e1, (by decide : 1 + 1 ≤ _), (by decide : 4 + 200 ≤ _)⟩)
  dsimp only [Pt.U, Pt.locs, Pt.cells, Pt.slots] at X2 lq2 yq2 zz2 st2 hQ2
  subst lq2 yq2 zz2
  obtain ⟨rfl, Nq2, kq2, eq2, cq2, tt2, kt2, zq2, fq2, vq2⟩ := hQ2
  have N2 := Fr.app N0 Nq2
  have ft9 := (Nat.lt_of_lt_of_le lt_sb E1.1)
  have ne_sb_tt2 : sb ≠ tt2 := Nat.ne_of_lt (Nat.lt_of_lt_of_le ft9 zq2)
  have ft10 := (Nat.lt_of_lt_of_le lt_t2 E1.1)
  have ne_t2_tt2 : t2 ≠ tt2 := Nat.ne_of_lt (Nat.lt_of_lt_of_le ft10 zq2)
  have ne_b1_tt2 : b1 ≠ tt2 := Nat.ne_of_lt (Nat.lt_of_lt_of_le lt_b1 zq2)
  have ne_wO_tt2 : wO ≠ tt2 := Nat.ne_of_lt (Nat.lt_of_lt_of_le lt_wO (Nat.le_trans O1.2.1 zq2))
  have ne_wT_tt2 : wT ≠ tt2 := Nat.ne_of_lt (Nat.lt_of_lt_of_le lt_wT (Nat.le_trans O1.2.1 zq2))
  have g_tt2 : n0 ≤ tt2 := Nat.le_trans (O1.1 ▸ O1.2.1) zq2
  have sz_tt2 : h0.size ≤ tt2 := Nat.le_trans K1.1 zq2
  have O2 : Old Z n0 T2.heap := O1.keep kq2 (allS g_b1 all0)
  have K2 : Keep h0 T2.heap [] := K1.trans kq2 (allS (Or.inr sz_b1) all0)
  have lt_b1 := eq2.lt
  have lt_tt2 := vq2.lt
  refine Go.tr (f' := (mkF m 8 #[rv sb] [(.ref b1)])) st2 ?_
  refine Go.retV X2 hlk hx (t := (.object "java/lang/String")) hret rfl (Or.inr (Or.inr (Or.inr (Or.inr ⟨rfl, rfl, rfl⟩)))) (D d27_8) rfl ?_ (by decide) (by decide)
  exact ⟨b1, rfl, N2, sz_b1, K2, eq2, cq2, tt2, kt2, sz_tt2, fq2, vq2⟩
theorem lc_lt {a b : Int64} : (lcmpW a b) < (0 : Int32) ↔ a.toInt < b.toInt := by
  have q := c_lcmp a b
  have e0 : (0 : Int32).toInt = 0 := by decide
  rw [Int32.lt_iff_toInt_lt]
  rcases Int.lt_trichotomy a.toInt b.toInt with h | h | h
  · have := q.1 h; omega
  · have := q.2.1 h; omega
  · have := q.2.2 h; omega
theorem own_ab1 {a : Int64} (h : (lcmpW a (0 : Int64)) < (0 : Int32)) (b : -2147483648 ≤ a.toInt ∧ a.toInt ≤ 2147483647) : (-a).toInt = (a.toInt.natAbs : Int) := by
  rw [lc_lt] at h; have e : (0 : Int64).toInt = 0 := by decide
  have q := c_lneg a
  have r := rng64 (-a)
  omega
theorem own_ab2 {a : Int64} (h : ¬ (lcmpW a (0 : Int64)) < (0 : Int32)) : a.toInt = (a.toInt.natAbs : Int) := by
  rw [lc_lt] at h; have e : (0 : Int64).toInt = 0 := by decide
  omega
theorem own_lg {a c : Int64} {m : Nat} {k : Nat} (h : ¬ (lcmpW a c) < (0 : Int32)) (e : a.toInt = (m : Int)) (f : c.toInt = ((k : Nat) : Int)) : k ≤ m := by rw [lc_lt] at h; omega
theorem own_ll {a c : Int64} {m : Nat} {k : Nat} (h : (lcmpW a c) < (0 : Int32)) (e : a.toInt = (m : Int)) (f : c.toInt = ((k : Nat) : Int)) : m < k := by rw [lc_lt] at h; omega
theorem d36_0 : decode jdk_29_method_61_code 0 = .ok (.lload_n 0, 1) := by decide +kernel
theorem d36_1 : decode jdk_29_method_61_code 1 = .ok (.lconst 0, 1) := by decide +kernel
theorem d36_2 : decode jdk_29_method_61_code 2 = .ok (.lcmp, 1) := by decide +kernel
theorem d36_3 : decode jdk_29_method_61_code 3 = .ok (.ifCond .ge 8, 3) := by decide +kernel
theorem d36_6 : decode jdk_29_method_61_code 6 = .ok (.lload_n 0, 1) := by decide +kernel
theorem d36_7 : decode jdk_29_method_61_code 7 = .ok (.lneg, 1) := by decide +kernel
theorem d36_8 : decode jdk_29_method_61_code 8 = .ok (.goto 4, 3) := by decide +kernel
theorem d36_12 : decode jdk_29_method_61_code 12 = .ok (.lreturn, 1) := by decide +kernel
theorem d36_11 : decode jdk_29_method_61_code 11 = .ok (.lload_n 0, 1) := by decide +kernel
set_option maxRecDepth 65536 in
set_option maxHeartbeats 40000000 in
theorem rmAb (l : Launch) (Z : State) (a0 : Array Value) (hw : ∀ d ∈ tables_1, d.before a0 Z = true) (ws : List Jvm.Cond) (w1 : Int64) (h0 : Heap) (n0 : Nat) (O0 : Old Z n0 h0) (hbb : -2147483648 ≤ w1.toInt ∧ w1.toInt ≤ 2147483647) :
    Con l Z mq40 jdk_29_method_61_code 2 (some .long) ws ({ frames := 0, cells := 0, slots := 0, locals := 0 } : Room) #[(.long w1)] h0 (fun v h L => ∃ r : Int64, v = some (.long r) ∧ Fr n0 L ∧ h = h0 ∧ r.toInt = (w1.toInt.natAbs : Int)) := by
  refine own_body (Jvm.Free.JP.mathPlain rfl (by decide +kernel)) ?_
  intro p e s m below meth c s₁ hx hby hml hZ hown hnm hlk hret X0 e0
  have N0 := Fr.nil n0
  have D := @hb _ _ hby
  refine Go.st (T' := s₁) (f' := (mkF m 0 #[.val (.long w1), .second] [])) (fun _ k => castTop (by first | (simp [entryFrame, mkF, argsToLocals, Value.category]; done) | rfl) k) ?_
  refine zln 1 X0 hx (D d36_0) rfl ?_
  refine Go.st (f' := (mkF m 2 #[.val (.long w1), .second] [(.long (0 : Int64)), (.long w1)])) (fun _ k => XS.lconst X0.here hx rfl (D d36_1) k) ?_
  refine Go.st (f' := (mkF m 3 #[.val (.long w1), .second] [(.int (lcmpW w1 (0 : Int64)))])) (fun _ k => XS.lcmp X0.here hx rfl (D d36_2) rfl k) ?_
  by_cases cd1 : (lcmpW w1 (0 : Int64)) < (0 : Int32)
  · refine zfn 6 X0 hx (D d36_3) ((if0 _ _).trans (tlt cd1).2.1) ?_
    refine zln 7 X0 hx (D d36_6) rfl ?_
    refine Go.st (f' := (mkF m 8 #[.val (.long w1), .second] [(.long (-w1))])) (fun _ k => XS.lneg X0.here hx rfl (D d36_7) rfl k) ?_
    refine zgo 12 X0 hx (D d36_8) ?_
    refine Go.retV X0 hlk hx (t := .long) hret rfl (Or.inr (Or.inl ⟨rfl, rfl, _, rfl⟩)) (D d36_12) e0 ?_ (by decide) (by decide)
    exact ⟨_, rfl, N0, rfl, own_ab1 cd1 hbb⟩
  · refine zfy 11 X0 hx (D d36_3) ((if0 _ _).trans (flt cd1).2.1) ?_
    refine zln 12 X0 hx (D d36_11) rfl ?_
    refine Go.retV X0 hlk hx (t := .long) hret rfl (Or.inr (Or.inl ⟨rfl, rfl, _, rfl⟩)) (D d36_12) e0 ?_ (by decide) (by decide)
    exact ⟨_, rfl, N0, rfl, own_ab2 cd1⟩
theorem own_i64 (x : Int32) : -2147483648 ≤ x.toInt64.toInt ∧ x.toInt64.toInt ≤ 2147483647 := by rw [c_i2l]; have := rng32 x; omega
theorem own_abs {x : Int32} {r : Int64} (h : r.toInt = (x.toInt64.toInt.natAbs : Int)) : r.toInt = (nAbs x : Int) := by rw [h, c_i2l]; unfold nAbs; rfl
theorem own_dc {m k : Nat} {r : Int32} (h : dgs m = k) (e : r.toInt = (k : Int)) : r.toInt = (dgs m : Int) := by rw [h]; exact e
theorem pn_com_example_wirecall_wirecall_demo_UserToStringPinLaw : plainName "com/example/wirecall/wirecall/demo/UserToStringPinLaw" = true := by first | (simp [plainName, overriddenIn]; done) | decide +kernel
theorem d37_0 : decode method_3_code 0 = .ok (.lload_n 0, 1) := by decide +kernel
theorem d37_1 : decode method_3_code 1 = .ok (.ldc2_w 17, 3) := by decide +kernel
theorem d37_4 : decode method_3_code 4 = .ok (.lcmp, 1) := by decide +kernel
theorem d37_5 : decode method_3_code 5 = .ok (.ifCond .ge 5, 3) := by decide +kernel
theorem d37_8 : decode method_3_code 8 = .ok (.iconst 1, 1) := by decide +kernel
theorem d37_9 : decode method_3_code 9 = .ok (.ireturn, 1) := by decide +kernel
theorem d37_10 : decode method_3_code 10 = .ok (.lload_n 0, 1) := by decide +kernel
theorem d37_11 : decode method_3_code 11 = .ok (.ldc2_w 19, 3) := by decide +kernel
theorem d37_14 : decode method_3_code 14 = .ok (.lcmp, 1) := by decide +kernel
theorem d37_15 : decode method_3_code 15 = .ok (.ifCond .ge 5, 3) := by decide +kernel
theorem d37_18 : decode method_3_code 18 = .ok (.iconst 2, 1) := by decide +kernel
theorem d37_19 : decode method_3_code 19 = .ok (.ireturn, 1) := by decide +kernel
theorem d37_20 : decode method_3_code 20 = .ok (.lload_n 0, 1) := by decide +kernel
theorem d37_21 : decode method_3_code 21 = .ok (.ldc2_w 21, 3) := by decide +kernel
theorem d37_24 : decode method_3_code 24 = .ok (.lcmp, 1) := by decide +kernel
theorem d37_25 : decode method_3_code 25 = .ok (.ifCond .ge 5, 3) := by decide +kernel
theorem d37_28 : decode method_3_code 28 = .ok (.iconst 3, 1) := by decide +kernel
theorem d37_29 : decode method_3_code 29 = .ok (.ireturn, 1) := by decide +kernel
theorem d37_30 : decode method_3_code 30 = .ok (.lload_n 0, 1) := by decide +kernel
theorem d37_31 : decode method_3_code 31 = .ok (.ldc2_w 23, 3) := by decide +kernel
theorem d37_34 : decode method_3_code 34 = .ok (.lcmp, 1) := by decide +kernel
theorem d37_35 : decode method_3_code 35 = .ok (.ifCond .ge 5, 3) := by decide +kernel
theorem d37_38 : decode method_3_code 38 = .ok (.iconst 4, 1) := by decide +kernel
theorem d37_39 : decode method_3_code 39 = .ok (.ireturn, 1) := by decide +kernel
theorem d37_40 : decode method_3_code 40 = .ok (.lload_n 0, 1) := by decide +kernel
theorem d37_41 : decode method_3_code 41 = .ok (.ldc2_w 25, 3) := by decide +kernel
theorem d37_44 : decode method_3_code 44 = .ok (.lcmp, 1) := by decide +kernel
theorem d37_45 : decode method_3_code 45 = .ok (.ifCond .ge 5, 3) := by decide +kernel
theorem d37_48 : decode method_3_code 48 = .ok (.iconst 5, 1) := by decide +kernel
theorem d37_49 : decode method_3_code 49 = .ok (.ireturn, 1) := by decide +kernel
theorem d37_50 : decode method_3_code 50 = .ok (.lload_n 0, 1) := by decide +kernel
theorem d37_51 : decode method_3_code 51 = .ok (.ldc2_w 27, 3) := by decide +kernel
theorem d37_54 : decode method_3_code 54 = .ok (.lcmp, 1) := by decide +kernel
theorem d37_55 : decode method_3_code 55 = .ok (.ifCond .ge 6, 3) := by decide +kernel
theorem d37_58 : decode method_3_code 58 = .ok (.bipush 6, 2) := by decide +kernel
theorem d37_60 : decode method_3_code 60 = .ok (.ireturn, 1) := by decide +kernel
theorem d37_61 : decode method_3_code 61 = .ok (.lload_n 0, 1) := by decide +kernel
theorem d37_62 : decode method_3_code 62 = .ok (.ldc2_w 29, 3) := by decide +kernel
theorem d37_65 : decode method_3_code 65 = .ok (.lcmp, 1) := by decide +kernel
theorem d37_66 : decode method_3_code 66 = .ok (.ifCond .ge 6, 3) := by decide +kernel
theorem d37_69 : decode method_3_code 69 = .ok (.bipush 7, 2) := by decide +kernel
theorem d37_71 : decode method_3_code 71 = .ok (.ireturn, 1) := by decide +kernel
theorem d37_72 : decode method_3_code 72 = .ok (.lload_n 0, 1) := by decide +kernel
theorem d37_73 : decode method_3_code 73 = .ok (.ldc2_w 31, 3) := by decide +kernel
theorem d37_76 : decode method_3_code 76 = .ok (.lcmp, 1) := by decide +kernel
theorem d37_77 : decode method_3_code 77 = .ok (.ifCond .ge 6, 3) := by decide +kernel
theorem d37_80 : decode method_3_code 80 = .ok (.bipush 8, 2) := by decide +kernel
theorem d37_82 : decode method_3_code 82 = .ok (.ireturn, 1) := by decide +kernel
theorem d37_83 : decode method_3_code 83 = .ok (.lload_n 0, 1) := by decide +kernel
theorem d37_84 : decode method_3_code 84 = .ok (.ldc2_w 33, 3) := by decide +kernel
theorem d37_87 : decode method_3_code 87 = .ok (.lcmp, 1) := by decide +kernel
theorem d37_88 : decode method_3_code 88 = .ok (.ifCond .ge 6, 3) := by decide +kernel
theorem d37_91 : decode method_3_code 91 = .ok (.bipush 9, 2) := by decide +kernel
theorem d37_93 : decode method_3_code 93 = .ok (.ireturn, 1) := by decide +kernel
theorem d37_94 : decode method_3_code 94 = .ok (.bipush 10, 2) := by decide +kernel
theorem d37_96 : decode method_3_code 96 = .ok (.ireturn, 1) := by decide +kernel
set_option maxRecDepth 65536 in
set_option maxHeartbeats 40000000 in
theorem rmDc (l : Launch) (Z : State) (a0 : Array Value) (hw : ∀ d ∈ tables_1, d.before a0 Z = true) (ws : List Jvm.Cond) (w1 : Int64) (m0 : Nat) (h0 : Heap) (n0 : Nat) (O0 : Old Z n0 h0) (hm : w1.toInt = (m0 : Int)) :
    Con l Z mq41 method_3_code 2 (some .int) ws ({ frames := 0, cells := 0, slots := 0, locals := 0 } : Room) #[(.long w1)] h0 (fun v h L => ∃ r : Int32, v = some (.int r) ∧ Fr n0 L ∧ h = h0 ∧ r.toInt = (dgs m0 : Int)) := by
  refine own_body (plainFor_of_name pn_com_example_wirecall_wirecall_demo_UserToStringPinLaw) ?_
  intro p e s m below meth c s₁ hx hby hml hZ hown hnm hlk hret X0 e0
  have N0 := Fr.nil n0
  have D := @hb _ _ hby
  refine Go.st (T' := s₁) (f' := (mkF m 0 #[.val (.long w1), .second] [])) (fun _ k => castTop (by first | (simp [entryFrame, mkF, argsToLocals, Value.category]; done) | rfl) k) ?_
  refine zln 1 X0 hx (D d37_0) rfl ?_
  refine Go.st (f' := (mkF m 4 #[.val (.long w1), .second] [(.long (10 : Int64)), (.long w1)])) (fun _ k => X0.ldc2Long hx hown (mvT hZ (ww hw 199 rfl)) (g := (mkF m 1 #[.val (.long w1), .second] [(.long w1)])) rfl (D d37_1) _ k) ?_
  refine Go.st (f' := (mkF m 5 #[.val (.long w1), .second] [(.int (lcmpW w1 (10 : Int64)))])) (fun _ k => XS.lcmp X0.here hx rfl (D d37_4) rfl k) ?_
  by_cases cd1 : (lcmpW w1 (10 : Int64)) < (0 : Int32)
  · refine zfn 8 X0 hx (D d37_5) ((if0 _ _).trans (tlt cd1).2.1) ?_
    refine zic 9 1 X0 hx (D d37_8) ?_
    refine Go.retV X0 hlk hx (t := .int) hret rfl (Or.inl ⟨rfl, Or.inl rfl, _, rfl⟩) (D d37_9) e0 ?_ (by decide) (by decide)
    exact ⟨_, rfl, N0, rfl, own_dc (k := 1) (dgs_of (by decide) (by decide) (Or.inl rfl) (Or.inr (own_ll cd1 hm (by decide)))) (by decide)⟩
  · refine zfy 10 X0 hx (D d37_5) ((if0 _ _).trans (flt cd1).2.1) ?_
    refine zln 11 X0 hx (D d37_10) rfl ?_
    refine Go.st (f' := (mkF m 14 #[.val (.long w1), .second] [(.long (100 : Int64)), (.long w1)])) (fun _ k => X0.ldc2Long hx hown (mvT hZ (ww hw 243 rfl)) (g := (mkF m 11 #[.val (.long w1), .second] [(.long w1)])) rfl (D d37_11) _ k) ?_
    refine Go.st (f' := (mkF m 15 #[.val (.long w1), .second] [(.int (lcmpW w1 (100 : Int64)))])) (fun _ k => XS.lcmp X0.here hx rfl (D d37_14) rfl k) ?_
    by_cases cd2 : (lcmpW w1 (100 : Int64)) < (0 : Int32)
    · refine zfn 18 X0 hx (D d37_15) ((if0 _ _).trans (tlt cd2).2.1) ?_
      refine zic 19 2 X0 hx (D d37_18) ?_
      refine Go.retV X0 hlk hx (t := .int) hret rfl (Or.inl ⟨rfl, Or.inl rfl, _, rfl⟩) (D d37_19) e0 ?_ (by decide) (by decide)
      exact ⟨_, rfl, N0, rfl, own_dc (k := 2) (dgs_of (by decide) (by decide) (Or.inr (own_lg cd1 hm (by decide))) (Or.inr (own_ll cd2 hm (by decide)))) (by decide)⟩
    · refine zfy 20 X0 hx (D d37_15) ((if0 _ _).trans (flt cd2).2.1) ?_
      refine zln 21 X0 hx (D d37_20) rfl ?_
      refine Go.st (f' := (mkF m 24 #[.val (.long w1), .second] [(.long (1000 : Int64)), (.long w1)])) (fun _ k => X0.ldc2Long hx hown (mvT hZ (ww hw 247 rfl)) (g := (mkF m 21 #[.val (.long w1), .second] [(.long w1)])) rfl (D d37_21) _ k) ?_
      refine Go.st (f' := (mkF m 25 #[.val (.long w1), .second] [(.int (lcmpW w1 (1000 : Int64)))])) (fun _ k => XS.lcmp X0.here hx rfl (D d37_24) rfl k) ?_
      by_cases cd3 : (lcmpW w1 (1000 : Int64)) < (0 : Int32)
      · refine zfn 28 X0 hx (D d37_25) ((if0 _ _).trans (tlt cd3).2.1) ?_
        refine zic 29 3 X0 hx (D d37_28) ?_
        refine Go.retV X0 hlk hx (t := .int) hret rfl (Or.inl ⟨rfl, Or.inl rfl, _, rfl⟩) (D d37_29) e0 ?_ (by decide) (by decide)
        exact ⟨_, rfl, N0, rfl, own_dc (k := 3) (dgs_of (by decide) (by decide) (Or.inr (own_lg cd2 hm (by decide))) (Or.inr (own_ll cd3 hm (by decide)))) (by decide)⟩
      · refine zfy 30 X0 hx (D d37_25) ((if0 _ _).trans (flt cd3).2.1) ?_
        refine zln 31 X0 hx (D d37_30) rfl ?_
        refine Go.st (f' := (mkF m 34 #[.val (.long w1), .second] [(.long (10000 : Int64)), (.long w1)])) (fun _ k => X0.ldc2Long hx hown (mvT hZ (ww hw 248 rfl)) (g := (mkF m 31 #[.val (.long w1), .second] [(.long w1)])) rfl (D d37_31) _ k) ?_
        refine Go.st (f' := (mkF m 35 #[.val (.long w1), .second] [(.int (lcmpW w1 (10000 : Int64)))])) (fun _ k => XS.lcmp X0.here hx rfl (D d37_34) rfl k) ?_
        by_cases cd4 : (lcmpW w1 (10000 : Int64)) < (0 : Int32)
        · refine zfn 38 X0 hx (D d37_35) ((if0 _ _).trans (tlt cd4).2.1) ?_
          refine zic 39 4 X0 hx (D d37_38) ?_
          refine Go.retV X0 hlk hx (t := .int) hret rfl (Or.inl ⟨rfl, Or.inl rfl, _, rfl⟩) (D d37_39) e0 ?_ (by decide) (by decide)
          exact ⟨_, rfl, N0, rfl, own_dc (k := 4) (dgs_of (by decide) (by decide) (Or.inr (own_lg cd3 hm (by decide))) (Or.inr (own_ll cd4 hm (by decide)))) (by decide)⟩
        · refine zfy 40 X0 hx (D d37_35) ((if0 _ _).trans (flt cd4).2.1) ?_
          refine zln 41 X0 hx (D d37_40) rfl ?_
          refine Go.st (f' := (mkF m 44 #[.val (.long w1), .second] [(.long (100000 : Int64)), (.long w1)])) (fun _ k => X0.ldc2Long hx hown (mvT hZ (ww hw 249 rfl)) (g := (mkF m 41 #[.val (.long w1), .second] [(.long w1)])) rfl (D d37_41) _ k) ?_
          refine Go.st (f' := (mkF m 45 #[.val (.long w1), .second] [(.int (lcmpW w1 (100000 : Int64)))])) (fun _ k => XS.lcmp X0.here hx rfl (D d37_44) rfl k) ?_
          by_cases cd5 : (lcmpW w1 (100000 : Int64)) < (0 : Int32)
          · refine zfn 48 X0 hx (D d37_45) ((if0 _ _).trans (tlt cd5).2.1) ?_
            refine zic 49 5 X0 hx (D d37_48) ?_
            refine Go.retV X0 hlk hx (t := .int) hret rfl (Or.inl ⟨rfl, Or.inl rfl, _, rfl⟩) (D d37_49) e0 ?_ (by decide) (by decide)
            exact ⟨_, rfl, N0, rfl, own_dc (k := 5) (dgs_of (by decide) (by decide) (Or.inr (own_lg cd4 hm (by decide))) (Or.inr (own_ll cd5 hm (by decide)))) (by decide)⟩
          · refine zfy 50 X0 hx (D d37_45) ((if0 _ _).trans (flt cd5).2.1) ?_
            refine zln 51 X0 hx (D d37_50) rfl ?_
            refine Go.st (f' := (mkF m 54 #[.val (.long w1), .second] [(.long (1000000 : Int64)), (.long w1)])) (fun _ k => X0.ldc2Long hx hown (mvT hZ (ww hw 250 rfl)) (g := (mkF m 51 #[.val (.long w1), .second] [(.long w1)])) rfl (D d37_51) _ k) ?_
            refine Go.st (f' := (mkF m 55 #[.val (.long w1), .second] [(.int (lcmpW w1 (1000000 : Int64)))])) (fun _ k => XS.lcmp X0.here hx rfl (D d37_54) rfl k) ?_
            by_cases cd6 : (lcmpW w1 (1000000 : Int64)) < (0 : Int32)
            · refine zfn 58 X0 hx (D d37_55) ((if0 _ _).trans (tlt cd6).2.1) ?_
              refine zbp 60 6 X0 hx (D d37_58) ?_
              refine Go.retV X0 hlk hx (t := .int) hret rfl (Or.inl ⟨rfl, Or.inl rfl, _, rfl⟩) (D d37_60) e0 ?_ (by decide) (by decide)
              exact ⟨_, rfl, N0, rfl, own_dc (k := 6) (dgs_of (by decide) (by decide) (Or.inr (own_lg cd5 hm (by decide))) (Or.inr (own_ll cd6 hm (by decide)))) (by decide)⟩
            · refine zfy 61 X0 hx (D d37_55) ((if0 _ _).trans (flt cd6).2.1) ?_
              refine zln 62 X0 hx (D d37_61) rfl ?_
              refine Go.st (f' := (mkF m 65 #[.val (.long w1), .second] [(.long (10000000 : Int64)), (.long w1)])) (fun _ k => X0.ldc2Long hx hown (mvT hZ (ww hw 251 rfl)) (g := (mkF m 62 #[.val (.long w1), .second] [(.long w1)])) rfl (D d37_62) _ k) ?_
              refine Go.st (f' := (mkF m 66 #[.val (.long w1), .second] [(.int (lcmpW w1 (10000000 : Int64)))])) (fun _ k => XS.lcmp X0.here hx rfl (D d37_65) rfl k) ?_
              by_cases cd7 : (lcmpW w1 (10000000 : Int64)) < (0 : Int32)
              · refine zfn 69 X0 hx (D d37_66) ((if0 _ _).trans (tlt cd7).2.1) ?_
                refine zbp 71 7 X0 hx (D d37_69) ?_
                refine Go.retV X0 hlk hx (t := .int) hret rfl (Or.inl ⟨rfl, Or.inl rfl, _, rfl⟩) (D d37_71) e0 ?_ (by decide) (by decide)
                exact ⟨_, rfl, N0, rfl, own_dc (k := 7) (dgs_of (by decide) (by decide) (Or.inr (own_lg cd6 hm (by decide))) (Or.inr (own_ll cd7 hm (by decide)))) (by decide)⟩
              · refine zfy 72 X0 hx (D d37_66) ((if0 _ _).trans (flt cd7).2.1) ?_
                refine zln 73 X0 hx (D d37_72) rfl ?_
                refine Go.st (f' := (mkF m 76 #[.val (.long w1), .second] [(.long (100000000 : Int64)), (.long w1)])) (fun _ k => X0.ldc2Long hx hown (mvT hZ (ww hw 252 rfl)) (g := (mkF m 73 #[.val (.long w1), .second] [(.long w1)])) rfl (D d37_73) _ k) ?_
                refine Go.st (f' := (mkF m 77 #[.val (.long w1), .second] [(.int (lcmpW w1 (100000000 : Int64)))])) (fun _ k => XS.lcmp X0.here hx rfl (D d37_76) rfl k) ?_
                by_cases cd8 : (lcmpW w1 (100000000 : Int64)) < (0 : Int32)
                · refine zfn 80 X0 hx (D d37_77) ((if0 _ _).trans (tlt cd8).2.1) ?_
                  refine zbp 82 8 X0 hx (D d37_80) ?_
                  refine Go.retV X0 hlk hx (t := .int) hret rfl (Or.inl ⟨rfl, Or.inl rfl, _, rfl⟩) (D d37_82) e0 ?_ (by decide) (by decide)
                  exact ⟨_, rfl, N0, rfl, own_dc (k := 8) (dgs_of (by decide) (by decide) (Or.inr (own_lg cd7 hm (by decide))) (Or.inr (own_ll cd8 hm (by decide)))) (by decide)⟩
                · refine zfy 83 X0 hx (D d37_77) ((if0 _ _).trans (flt cd8).2.1) ?_
                  refine zln 84 X0 hx (D d37_83) rfl ?_
                  refine Go.st (f' := (mkF m 87 #[.val (.long w1), .second] [(.long (1000000000 : Int64)), (.long w1)])) (fun _ k => X0.ldc2Long hx hown (mvT hZ (ww hw 253 rfl)) (g := (mkF m 84 #[.val (.long w1), .second] [(.long w1)])) rfl (D d37_84) _ k) ?_
                  refine Go.st (f' := (mkF m 88 #[.val (.long w1), .second] [(.int (lcmpW w1 (1000000000 : Int64)))])) (fun _ k => XS.lcmp X0.here hx rfl (D d37_87) rfl k) ?_
                  by_cases cd9 : (lcmpW w1 (1000000000 : Int64)) < (0 : Int32)
                  · refine zfn 91 X0 hx (D d37_88) ((if0 _ _).trans (tlt cd9).2.1) ?_
                    refine zbp 93 9 X0 hx (D d37_91) ?_
                    refine Go.retV X0 hlk hx (t := .int) hret rfl (Or.inl ⟨rfl, Or.inl rfl, _, rfl⟩) (D d37_93) e0 ?_ (by decide) (by decide)
                    exact ⟨_, rfl, N0, rfl, own_dc (k := 9) (dgs_of (by decide) (by decide) (Or.inr (own_lg cd8 hm (by decide))) (Or.inr (own_ll cd9 hm (by decide)))) (by decide)⟩
                  · refine zfy 94 X0 hx (D d37_88) ((if0 _ _).trans (flt cd9).2.1) ?_
                    refine zbp 96 10 X0 hx (D d37_94) ?_
                    refine Go.retV X0 hlk hx (t := .int) hret rfl (Or.inl ⟨rfl, Or.inl rfl, _, rfl⟩) (D d37_96) e0 ?_ (by decide) (by decide)
                    exact ⟨_, rfl, N0, rfl, own_dc (k := 10) (dgs_of (by decide) (by decide) (Or.inr (own_lg cd9 hm (by decide))) (Or.inl rfl)) (by decide)⟩
theorem own_p0 {q : Int32} {k : Nat} (h : ¬ (0 : Int32) < q) (e : q.toInt = (k : Int)) : k = 0 := by
  rw [Int32.lt_iff_toInt_lt] at h; have e0 : (0 : Int32).toInt = 0 := by decide
  omega
theorem own_pk {q c : Int32} {k j : Nat} (h : q = c) (e : q.toInt = (k : Int)) (f : c.toInt = (j : Int)) : k = j := by subst h; omega
theorem own_pn {q c : Int32} {k j : Nat} (h : ¬ q = c) (e : q.toInt = (k : Int)) (f : c.toInt = (j : Int)) : k ≠ j := fun g => h (by rw [← Int32.toInt_inj]; omega)
theorem own_pr {r : Int64} {k j : Nat} (h : k = j) (e : r.toInt = ((10 ^ j : Nat) : Int)) : r.toInt = ((10 ^ k : Nat) : Int) := by rw [h]; exact e
theorem own_p1 {q : Int32} {k : Nat} (h : (0 : Int32) < q) (e : q.toInt = (k : Int)) : k ≠ 0 := by
  rw [Int32.lt_iff_toInt_lt] at h; have e0 : (0 : Int32).toInt = 0 := by decide
  omega
theorem d45_0 : decode method_4_code 0 = .ok (.iload_n 0, 1) := by decide +kernel
theorem d45_1 : decode method_4_code 1 = .ok (.ifCond .gt 5, 3) := by decide +kernel
theorem d45_6 : decode method_4_code 6 = .ok (.iload_n 0, 1) := by decide +kernel
theorem d45_7 : decode method_4_code 7 = .ok (.iconst 1, 1) := by decide +kernel
theorem d45_8 : decode method_4_code 8 = .ok (.if_icmp .ne 7, 3) := by decide +kernel
theorem d45_11 : decode method_4_code 11 = .ok (.ldc2_w 17, 3) := by decide +kernel
theorem d45_14 : decode method_4_code 14 = .ok (.lreturn, 1) := by decide +kernel
theorem d45_15 : decode method_4_code 15 = .ok (.iload_n 0, 1) := by decide +kernel
theorem d45_16 : decode method_4_code 16 = .ok (.iconst 2, 1) := by decide +kernel
theorem d45_17 : decode method_4_code 17 = .ok (.if_icmp .ne 7, 3) := by decide +kernel
theorem d45_20 : decode method_4_code 20 = .ok (.ldc2_w 19, 3) := by decide +kernel
theorem d45_23 : decode method_4_code 23 = .ok (.lreturn, 1) := by decide +kernel
theorem d45_24 : decode method_4_code 24 = .ok (.iload_n 0, 1) := by decide +kernel
theorem d45_25 : decode method_4_code 25 = .ok (.iconst 3, 1) := by decide +kernel
theorem d45_26 : decode method_4_code 26 = .ok (.if_icmp .ne 7, 3) := by decide +kernel
theorem d45_29 : decode method_4_code 29 = .ok (.ldc2_w 21, 3) := by decide +kernel
theorem d45_32 : decode method_4_code 32 = .ok (.lreturn, 1) := by decide +kernel
theorem d45_33 : decode method_4_code 33 = .ok (.iload_n 0, 1) := by decide +kernel
theorem d45_34 : decode method_4_code 34 = .ok (.iconst 4, 1) := by decide +kernel
theorem d45_35 : decode method_4_code 35 = .ok (.if_icmp .ne 7, 3) := by decide +kernel
theorem d45_38 : decode method_4_code 38 = .ok (.ldc2_w 23, 3) := by decide +kernel
theorem d45_41 : decode method_4_code 41 = .ok (.lreturn, 1) := by decide +kernel
theorem d45_42 : decode method_4_code 42 = .ok (.iload_n 0, 1) := by decide +kernel
theorem d45_43 : decode method_4_code 43 = .ok (.iconst 5, 1) := by decide +kernel
theorem d45_44 : decode method_4_code 44 = .ok (.if_icmp .ne 7, 3) := by decide +kernel
theorem d45_47 : decode method_4_code 47 = .ok (.ldc2_w 25, 3) := by decide +kernel
theorem d45_50 : decode method_4_code 50 = .ok (.lreturn, 1) := by decide +kernel
theorem d45_51 : decode method_4_code 51 = .ok (.iload_n 0, 1) := by decide +kernel
theorem d45_52 : decode method_4_code 52 = .ok (.bipush 6, 2) := by decide +kernel
theorem d45_54 : decode method_4_code 54 = .ok (.if_icmp .ne 7, 3) := by decide +kernel
theorem d45_57 : decode method_4_code 57 = .ok (.ldc2_w 27, 3) := by decide +kernel
theorem d45_60 : decode method_4_code 60 = .ok (.lreturn, 1) := by decide +kernel
theorem d45_61 : decode method_4_code 61 = .ok (.iload_n 0, 1) := by decide +kernel
theorem d45_62 : decode method_4_code 62 = .ok (.bipush 7, 2) := by decide +kernel
theorem d45_64 : decode method_4_code 64 = .ok (.if_icmp .ne 7, 3) := by decide +kernel
theorem d45_67 : decode method_4_code 67 = .ok (.ldc2_w 29, 3) := by decide +kernel
theorem d45_70 : decode method_4_code 70 = .ok (.lreturn, 1) := by decide +kernel
theorem d45_71 : decode method_4_code 71 = .ok (.iload_n 0, 1) := by decide +kernel
theorem d45_72 : decode method_4_code 72 = .ok (.bipush 8, 2) := by decide +kernel
theorem d45_74 : decode method_4_code 74 = .ok (.if_icmp .ne 7, 3) := by decide +kernel
theorem d45_77 : decode method_4_code 77 = .ok (.ldc2_w 31, 3) := by decide +kernel
theorem d45_80 : decode method_4_code 80 = .ok (.lreturn, 1) := by decide +kernel
theorem d45_81 : decode method_4_code 81 = .ok (.ldc2_w 33, 3) := by decide +kernel
theorem d45_84 : decode method_4_code 84 = .ok (.lreturn, 1) := by decide +kernel
theorem d45_4 : decode method_4_code 4 = .ok (.lconst 1, 1) := by decide +kernel
theorem d45_5 : decode method_4_code 5 = .ok (.lreturn, 1) := by decide +kernel
set_option maxRecDepth 65536 in
set_option maxHeartbeats 40000000 in
theorem rmPw (l : Launch) (Z : State) (a0 : Array Value) (hw : ∀ d ∈ tables_1, d.before a0 Z = true) (ws : List Jvm.Cond) (q1 : Int32) (k0 : Nat) (h0 : Heap) (n0 : Nat) (O0 : Old Z n0 h0) (hk : q1.toInt = (k0 : Int)) (h9 : k0 ≤ 9) :
    Con l Z mq42 method_4_code 1 (some .long) ws ({ frames := 0, cells := 0, slots := 0, locals := 0 } : Room) #[(.int q1)] h0 (fun v h L => ∃ r : Int64, v = some (.long r) ∧ Fr n0 L ∧ h = h0 ∧ r.toInt = ((10 ^ k0 : Nat) : Int)) := by
  refine own_body (plainFor_of_name pn_com_example_wirecall_wirecall_demo_UserToStringPinLaw) ?_
  intro p e s m below meth c s₁ hx hby hml hZ hown hnm hlk hret X0 e0
  have N0 := Fr.nil n0
  have D := @hb _ _ hby
  refine Go.st (T' := s₁) (f' := (mkF m 0 #[iv q1] [])) (fun _ k => castTop (by first | (simp [entryFrame, mkF, argsToLocals, Value.category]; done) | rfl) k) ?_
  refine zin 1 X0 hx (D d45_0) rfl ?_
  by_cases cd1 : (0 : Int32) < q1
  · refine zfy 6 X0 hx (D d45_1) ((if0 _ _).trans (tlt cd1).2.2.1) ?_
    refine zin 7 X0 hx (D d45_6) rfl ?_
    refine zic 8 1 X0 hx (D d45_7) ?_
    by_cases cd2 : q1 = (1 : Int32)
    · refine zcn 11 X0 hx (D d45_8) (teq cd2).2 ?_
      refine Go.st (f' := (mkF m 14 #[iv q1] [(.long (10 : Int64))])) (fun _ k => X0.ldc2Long hx hown (mvT hZ (ww hw 199 rfl)) (g := (mkF m 11 #[iv q1] [])) rfl (D d45_11) _ k) ?_
      refine Go.retV X0 hlk hx (t := .long) hret rfl (Or.inr (Or.inl ⟨rfl, rfl, _, rfl⟩)) (D d45_14) e0 ?_ (by decide) (by decide)
      exact ⟨_, rfl, N0, rfl, own_pr (j := 1) (own_pk cd2 hk (by decide)) (by decide)⟩
    · refine zcy 15 X0 hx (D d45_8) (feq cd2).2 ?_
      refine zin 16 X0 hx (D d45_15) rfl ?_
      refine zic 17 2 X0 hx (D d45_16) ?_
      by_cases cd3 : q1 = (2 : Int32)
      · refine zcn 20 X0 hx (D d45_17) (teq cd3).2 ?_
        refine Go.st (f' := (mkF m 23 #[iv q1] [(.long (100 : Int64))])) (fun _ k => X0.ldc2Long hx hown (mvT hZ (ww hw 243 rfl)) (g := (mkF m 20 #[iv q1] [])) rfl (D d45_20) _ k) ?_
        refine Go.retV X0 hlk hx (t := .long) hret rfl (Or.inr (Or.inl ⟨rfl, rfl, _, rfl⟩)) (D d45_23) e0 ?_ (by decide) (by decide)
        exact ⟨_, rfl, N0, rfl, own_pr (j := 2) (own_pk cd3 hk (by decide)) (by decide)⟩
      · refine zcy 24 X0 hx (D d45_17) (feq cd3).2 ?_
        refine zin 25 X0 hx (D d45_24) rfl ?_
        refine zic 26 3 X0 hx (D d45_25) ?_
        by_cases cd4 : q1 = (3 : Int32)
        · refine zcn 29 X0 hx (D d45_26) (teq cd4).2 ?_
          refine Go.st (f' := (mkF m 32 #[iv q1] [(.long (1000 : Int64))])) (fun _ k => X0.ldc2Long hx hown (mvT hZ (ww hw 247 rfl)) (g := (mkF m 29 #[iv q1] [])) rfl (D d45_29) _ k) ?_
          refine Go.retV X0 hlk hx (t := .long) hret rfl (Or.inr (Or.inl ⟨rfl, rfl, _, rfl⟩)) (D d45_32) e0 ?_ (by decide) (by decide)
          exact ⟨_, rfl, N0, rfl, own_pr (j := 3) (own_pk cd4 hk (by decide)) (by decide)⟩
        · refine zcy 33 X0 hx (D d45_26) (feq cd4).2 ?_
          refine zin 34 X0 hx (D d45_33) rfl ?_
          refine zic 35 4 X0 hx (D d45_34) ?_
          by_cases cd5 : q1 = (4 : Int32)
          · refine zcn 38 X0 hx (D d45_35) (teq cd5).2 ?_
            refine Go.st (f' := (mkF m 41 #[iv q1] [(.long (10000 : Int64))])) (fun _ k => X0.ldc2Long hx hown (mvT hZ (ww hw 248 rfl)) (g := (mkF m 38 #[iv q1] [])) rfl (D d45_38) _ k) ?_
            refine Go.retV X0 hlk hx (t := .long) hret rfl (Or.inr (Or.inl ⟨rfl, rfl, _, rfl⟩)) (D d45_41) e0 ?_ (by decide) (by decide)
            exact ⟨_, rfl, N0, rfl, own_pr (j := 4) (own_pk cd5 hk (by decide)) (by decide)⟩
          · refine zcy 42 X0 hx (D d45_35) (feq cd5).2 ?_
            refine zin 43 X0 hx (D d45_42) rfl ?_
            refine zic 44 5 X0 hx (D d45_43) ?_
            by_cases cd6 : q1 = (5 : Int32)
            · refine zcn 47 X0 hx (D d45_44) (teq cd6).2 ?_
              refine Go.st (f' := (mkF m 50 #[iv q1] [(.long (100000 : Int64))])) (fun _ k => X0.ldc2Long hx hown (mvT hZ (ww hw 249 rfl)) (g := (mkF m 47 #[iv q1] [])) rfl (D d45_47) _ k) ?_
              refine Go.retV X0 hlk hx (t := .long) hret rfl (Or.inr (Or.inl ⟨rfl, rfl, _, rfl⟩)) (D d45_50) e0 ?_ (by decide) (by decide)
              exact ⟨_, rfl, N0, rfl, own_pr (j := 5) (own_pk cd6 hk (by decide)) (by decide)⟩
            · refine zcy 51 X0 hx (D d45_44) (feq cd6).2 ?_
              refine zin 52 X0 hx (D d45_51) rfl ?_
              refine zbp 54 6 X0 hx (D d45_52) ?_
              by_cases cd7 : q1 = (6 : Int32)
              · refine zcn 57 X0 hx (D d45_54) (teq cd7).2 ?_
                refine Go.st (f' := (mkF m 60 #[iv q1] [(.long (1000000 : Int64))])) (fun _ k => X0.ldc2Long hx hown (mvT hZ (ww hw 250 rfl)) (g := (mkF m 57 #[iv q1] [])) rfl (D d45_57) _ k) ?_
                refine Go.retV X0 hlk hx (t := .long) hret rfl (Or.inr (Or.inl ⟨rfl, rfl, _, rfl⟩)) (D d45_60) e0 ?_ (by decide) (by decide)
                exact ⟨_, rfl, N0, rfl, own_pr (j := 6) (own_pk cd7 hk (by decide)) (by decide)⟩
              · refine zcy 61 X0 hx (D d45_54) (feq cd7).2 ?_
                refine zin 62 X0 hx (D d45_61) rfl ?_
                refine zbp 64 7 X0 hx (D d45_62) ?_
                by_cases cd8 : q1 = (7 : Int32)
                · refine zcn 67 X0 hx (D d45_64) (teq cd8).2 ?_
                  refine Go.st (f' := (mkF m 70 #[iv q1] [(.long (10000000 : Int64))])) (fun _ k => X0.ldc2Long hx hown (mvT hZ (ww hw 251 rfl)) (g := (mkF m 67 #[iv q1] [])) rfl (D d45_67) _ k) ?_
                  refine Go.retV X0 hlk hx (t := .long) hret rfl (Or.inr (Or.inl ⟨rfl, rfl, _, rfl⟩)) (D d45_70) e0 ?_ (by decide) (by decide)
                  exact ⟨_, rfl, N0, rfl, own_pr (j := 7) (own_pk cd8 hk (by decide)) (by decide)⟩
                · refine zcy 71 X0 hx (D d45_64) (feq cd8).2 ?_
                  refine zin 72 X0 hx (D d45_71) rfl ?_
                  refine zbp 74 8 X0 hx (D d45_72) ?_
                  by_cases cd9 : q1 = (8 : Int32)
                  · refine zcn 77 X0 hx (D d45_74) (teq cd9).2 ?_
                    refine Go.st (f' := (mkF m 80 #[iv q1] [(.long (100000000 : Int64))])) (fun _ k => X0.ldc2Long hx hown (mvT hZ (ww hw 252 rfl)) (g := (mkF m 77 #[iv q1] [])) rfl (D d45_77) _ k) ?_
                    refine Go.retV X0 hlk hx (t := .long) hret rfl (Or.inr (Or.inl ⟨rfl, rfl, _, rfl⟩)) (D d45_80) e0 ?_ (by decide) (by decide)
                    exact ⟨_, rfl, N0, rfl, own_pr (j := 8) (own_pk cd9 hk (by decide)) (by decide)⟩
                  · refine zcy 81 X0 hx (D d45_74) (feq cd9).2 ?_
                    refine Go.st (f' := (mkF m 84 #[iv q1] [(.long (1000000000 : Int64))])) (fun _ k => X0.ldc2Long hx hown (mvT hZ (ww hw 253 rfl)) (g := (mkF m 81 #[iv q1] [])) rfl (D d45_81) _ k) ?_
                    refine Go.retV X0 hlk hx (t := .long) hret rfl (Or.inr (Or.inl ⟨rfl, rfl, _, rfl⟩)) (D d45_84) e0 ?_ (by decide) (by decide)
                    have pg : k0 ≠ 0 := own_p1 cd1 hk
                    have pn1 : k0 ≠ 1 := own_pn cd2 hk (by decide)
                    have pn2 : k0 ≠ 2 := own_pn cd3 hk (by decide)
                    have pn3 : k0 ≠ 3 := own_pn cd4 hk (by decide)
                    have pn4 : k0 ≠ 4 := own_pn cd5 hk (by decide)
                    have pn5 : k0 ≠ 5 := own_pn cd6 hk (by decide)
                    have pn6 : k0 ≠ 6 := own_pn cd7 hk (by decide)
                    have pn7 : k0 ≠ 7 := own_pn cd8 hk (by decide)
                    have pn8 : k0 ≠ 8 := own_pn cd9 hk (by decide)
                    exact ⟨_, rfl, N0, rfl, own_pr (j := 9) (by omega) (by decide)⟩
  · refine zfn 4 X0 hx (D d45_1) ((if0 _ _).trans (flt cd1).2.2.1) ?_
    refine Go.st (f' := (mkF m 5 #[iv q1] [(.long (1 : Int64))])) (fun _ k => XS.lconst X0.here hx rfl (D d45_4) k) ?_
    refine Go.retV X0 hlk hx (t := .long) hret rfl (Or.inr (Or.inl ⟨rfl, rfl, _, rfl⟩)) (D d45_5) e0 ?_ (by decide) (by decide)
    exact ⟨_, rfl, N0, rfl, own_pr (j := 0) (own_p0 cd1 hk) (by decide)⟩
theorem d38_0 : decode method_2_code 0 = .ok (.iload_n 1, 1) := by decide +kernel
theorem d38_1 : decode method_2_code 1 = .ok (.ifCond .lt 24, 3) := by decide +kernel
theorem d38_4 : decode method_2_code 4 = .ok (.iload_n 1, 1) := by decide +kernel
theorem d38_5 : decode method_2_code 5 = .ok (.aload_n 0, 1) := by decide +kernel
theorem d38_6 : decode method_2_code 6 = .ok (.invokevirtual 7, 3) := by decide +kernel
theorem d38_9 : decode method_2_code 9 = .ok (.if_icmp .ge 16, 3) := by decide +kernel
theorem d38_12 : decode method_2_code 12 = .ok (.aload_n 0, 1) := by decide +kernel
theorem d38_13 : decode method_2_code 13 = .ok (.iload_n 1, 1) := by decide +kernel
theorem d38_14 : decode method_2_code 14 = .ok (.invokevirtual 13, 3) := by decide +kernel
theorem pd__I_C : parseMethodDescriptor "(I)C" = some ⟨[.int], some .char⟩ := by decide +kernel
theorem d38_17 : decode method_2_code 17 = .ok (.iload_n 2, 1) := by decide +kernel
theorem d38_18 : decode method_2_code 18 = .ok (.if_icmp .ne 7, 3) := by decide +kernel
theorem d38_21 : decode method_2_code 21 = .ok (.iconst 1, 1) := by decide +kernel
theorem d38_22 : decode method_2_code 22 = .ok (.goto 4, 3) := by decide +kernel
theorem d38_26 : decode method_2_code 26 = .ok (.ireturn, 1) := by decide +kernel
set_option maxRecDepth 65536 in
set_option maxHeartbeats 40000000 in
theorem rmCh (l : Launch) (Z : State) (a0 : Array Value) (hw : ∀ d ∈ tables_1, d.before a0 Z = true) (ws : List Jvm.Cond) (a1 : Addr) (t1 : Addr) (k1 : ClassId) (n : Int32) (es : List Value) (i : Int32) (x : Int32) (c3 : Int32) (wO : Addr) (wT : Addr) (kO : ClassId) (kT : ClassId) (iC : Int32) (vF : Value) (h0 : Heap) (n0 : Nat) (O0 : Old Z n0 h0) (hlo : ¬ i < (0 : Int32)) (hhi : i < n) (hg : es.getD i.toNatClampNeg (.int 0) = .int x) (he : (caL x) = c3) (E_a1 : Exa Z h0 a1 "java/lang/String") (F_a1_coder : Fld Z h0 a1 "java/lang/String" "coder" "B" (.int 0)) (F_a1_value : Fld Z h0 a1 "java/lang/String" "value" "[B" (.ref t1)) (V_t1 : Arv Z h0 t1 k1 .byte n es (.int 0)) (WW : World1 Z wO wT kO kT iC vF) :
    Con l Z mq43 method_2_code 3 (some .boolean) ws ({ frames := 4, cells := 0, slots := 0, locals := 53 } : Room) #[(.ref a1), (.int i), (.int c3)] h0 (fun v h L => v = some (.int 1) ∧ Fr n0 L ∧ h = h0) := by
  refine own_body (plainFor_of_name pn_com_example_wirecall_wirecall_demo_UserToStringPinLaw) ?_
  intro p e s m below meth c s₁ hx hby hml hZ hown hnm hlk hret X0 e0
  have N0 := Fr.nil n0
  have D := @hb _ _ hby
  refine Go.st (T' := s₁) (f' := (mkF m 0 #[rv a1, iv i, iv c3] [])) (fun _ k => castTop (by first | (simp [entryFrame, mkF, argsToLocals, Value.category]; done) | rfl) k) ?_
  have ⟨S_iC, nz_iC, S_vF, r_vF, S_wO, E_wO, S_wT, E_wT, V_wO, V_wT⟩ := WW
  have lt_wO := E_wO.lt
  have lt_wT := E_wT.lt
  have lt_a1 := E_a1.lt
  have lt_t1 := V_t1.lt
  refine zin 1 X0 hx (D d38_0) rfl ?_
  refine zfn 4 X0 hx (D d38_1) ((if0 _ _).trans (flt hlo).1) ?_
  refine zin 5 X0 hx (D d38_4) rfl ?_
  refine zan 6 X0 hx (D d38_5) rfl rfl ?_
  refine gV 9 1 0 0 X0 N0 hx hZ (y := mq7) hown hml (ww hw 200 rfl) (ww hw 68 rfl) (ww hw 70 rfl) (ww hw 69 rfl) (slen l Z a0 hw [] a1 t1 k1 n es wO wT kO kT iC vF h0 n0 O0 E_a1 F_a1_coder F_a1_value V_t1 WW) (ww hw 71 rfl) (ww hw 3 rfl) e0 E_a1 [] [(.int i)] (lenOf pd___I rfl) (D d38_6) ?_
  rintro T1 L1 M1 _ X1 uu1 ⟨rfl, Nq1, kq1⟩
  have N1 := uu1 Nq1
  refine zsk [(.int n), (.int i)] ?_
  refine zcn 12 X1 hx (D d38_9) (tlt hhi).2.1 ?_
  refine zan 13 X1 hx (D d38_12) rfl rfl ?_
  refine zin 14 X1 hx (D d38_13) rfl ?_
  refine gV 17 0 0 0 X1 N1 hx hZ (y := mq11) hown hml (ww hw 204 rfl) (ww hw 205 rfl) (ww hw 207 rfl) (ww hw 206 rfl) (ca0 l Z a0 hw [] a1 t1 k1 n es i x wO wT kO kT iC vF h0 n0 O0 hlo hhi hg E_a1 F_a1_coder F_a1_value V_t1 WW) (ww hw 208 rfl) (ww hw 3 rfl) kq1 E_a1 [(.int i)] [] (lenOf pd__I_C rfl) (D d38_14) ?_
  rintro T2 L2 M2 _ X2 uu2 ⟨rfl, Nq2, kq2⟩
  have N2 := uu2 Nq2
  refine zsk [(.int (caL x))] ?_
  refine zin 18 X2 hx (D d38_17) rfl ?_
  refine zcn 21 X2 hx (D d38_18) (teq he).2 ?_
  refine zic 22 1 X2 hx (D d38_21) ?_
  refine zgo 26 X2 hx (D d38_22) ?_
  refine Go.retB X2 hlk hx (t := .boolean) hret (by simp) (D d38_26) kq2 ?_ (by decide) (by decide)
  exact ⟨rfl, N2, rfl⟩
/-- the digits of m stand from p on -/
def Dg (p n nt : Int32) (m : Nat) (es : List Value) : Prop := m ≤ 2 ^ 31 ∧ n.toInt = (dgs m : Int) ∧ 0 ≤ p.toInt ∧ p.toInt + n.toInt ≤ nt.toInt ∧ nt.toInt ≤ 200 ∧ ∀ j, j < dgs m → es.getD (p.toNatClampNeg + j) (.int (0 : Int32)) = dgv m (dgs m - 1 - j)
theorem dg_e {p n nt q : Int32} {m : Nat} {es : List Value} (G : Dg p n nt m es) (q0 : 0 ≤ q.toInt) (h : q < n) : ((n - (1 : Int32)) - q).toInt = ((dgs m - 1 - q.toInt.toNat : Nat) : Int) ∧ dgs m - 1 - q.toInt.toNat ≤ 9 := by
  obtain ⟨g0, g1, g2, g3, g4, g5⟩ := G
  have a := c_isub n 1
  have r := rng32 (n - 1)
  have b := c_isub (n - 1) q
  have r2 := rng32 ((n - 1) - q)
  have e1 : (1 : Int32).toInt = 1 := by decide
  have d := dgs_b m
  rw [Int32.lt_iff_toInt_lt] at h
  constructor <;> omega
theorem dg_i {p n nt q : Int32} {m : Nat} {es : List Value} (G : Dg p n nt m es) (q0 : 0 ≤ q.toInt) (h : q < n) : ¬ (p + q) < (0 : Int32) ∧ (p + q) < nt ∧ es.getD (p + q).toNatClampNeg (.int (0 : Int32)) = .int (Int32.ofNat (48 + m / 10 ^ (dgs m - 1 - q.toInt.toNat) % 10)) := by
  obtain ⟨g0, g1, g2, g3, g4, g5⟩ := G
  have a := c_iadd p q
  have r := rng32 (p + q)
  have e0 : (0 : Int32).toInt = 0 := by decide
  have d := dgs_b m
  rw [Int32.lt_iff_toInt_lt] at h
  have k := g5 q.toInt.toNat (by omega)
  have i : p.toNatClampNeg + q.toInt.toNat = (p + q).toNatClampNeg := by simp only [Int32.toNatClampNeg]; omega
  rw [i] at k
  refine ⟨?_, ?_, k⟩
  · rw [Int32.lt_iff_toInt_lt]; omega
  · rw [Int32.lt_iff_toInt_lt]; omega
theorem dg_nz {r : Int64} {e : Nat} (h : r.toInt = ((10 ^ e : Nat) : Int)) : r ≠ 0 := fun q => by
  subst q; have e0 : (0 : Int64).toInt = 0 := by decide
  have : 0 < 10 ^ e := Nat.pos_of_ne_zero (by simp)
  omega
theorem dg_c {v r d : Int64} {m e : Nat} (hm : m ≤ 2 ^ 31) (hv : v.toInt = (m : Int)) (he : e ≤ 9) (hr : r.toInt = ((10 ^ e : Nat) : Int)) (hd : d = ((v / r) - ((v / r) / (10 : Int64)) * (10 : Int64))) : (caL (Int32.ofNat (48 + m / 10 ^ e % 10))) = (((48 : Int32) + d.toInt32).toUInt32.toUInt16.toUInt32.toInt32) := by
  have p1 : 0 < 10 ^ e := Nat.pos_of_ne_zero (by simp)
  have hm1 : r ≠ -1 := fun q => by
    subst q; have e0 : (-1 : Int64).toInt = -1 := by decide
    omega
  have q1 := (c_ldiv v r _ hr hm1).1 (by omega)
  have e10 : (10 : Int64).toInt = 10 := by decide
  have q0 : (v / r).toInt = ((m / 10 ^ e : Nat) : Int) := by rw [q1, hv]; exact (Int.natCast_ediv _ _).symm
  have q2 := (c_lrem (v / r) (10 : Int64) 10 e10).1 (by rw [q0]; exact Int.natCast_nonneg _)
  rw [← hd, q0] at q2
  have k : ∀ j : Fin 10, (caL (Int32.ofNat (48 + j.val))) = Int32.ofNat (48 + j.val) := by decide
  have hj : m / 10 ^ e % 10 < 10 := Nat.mod_lt _ (by decide)
  rw [k ⟨_, hj⟩]
  have l := c_l2i d
  have rl := rng32 d.toInt32
  have a := c_iadd 48 d.toInt32
  have ra := rng32 (48 + d.toInt32)
  have c := c_i2c (48 + d.toInt32)
  have e48 : (48 : Int32).toInt = 48 := by decide
  have t : (Int32.ofNat (48 + m / 10 ^ e % 10)).toInt = ((48 + m / 10 ^ e % 10 : Nat) : Int) := Int32.toInt_ofNat_of_lt (by omega)
  rw [← Int32.toInt_inj, t]
  generalize (48 + d.toInt32).toUInt32.toUInt16.toUInt32.toInt32 = z at *
  generalize m / 10 ^ e = N at *
  omega
theorem d44_0 : decode method_5_code 0 = .ok (.iload 5, 2) := by decide +kernel
theorem d44_2 : decode method_5_code 2 = .ok (.iload 4, 2) := by decide +kernel
theorem d44_4 : decode method_5_code 4 = .ok (.if_icmp .lt 5, 3) := by decide +kernel
theorem d44_9 : decode method_5_code 9 = .ok (.lload_n 2, 1) := by decide +kernel
theorem d44_10 : decode method_5_code 10 = .ok (.iload 4, 2) := by decide +kernel
theorem d44_12 : decode method_5_code 12 = .ok (.iconst 1, 1) := by decide +kernel
theorem d44_13 : decode method_5_code 13 = .ok (.isub, 1) := by decide +kernel
theorem d44_14 : decode method_5_code 14 = .ok (.iload 5, 2) := by decide +kernel
theorem d44_16 : decode method_5_code 16 = .ok (.isub, 1) := by decide +kernel
theorem d44_17 : decode method_5_code 17 = .ok (.invokestatic 35, 3) := by decide +kernel
theorem pd__I_J : parseMethodDescriptor "(I)J" = some ⟨[.int], some .long⟩ := by decide +kernel
theorem d44_20 : decode method_5_code 20 = .ok (.ldiv, 1) := by decide +kernel
theorem d44_21 : decode method_5_code 21 = .ok (.ldc2_w 17, 3) := by decide +kernel
theorem d44_24 : decode method_5_code 24 = .ok (.lrem, 1) := by decide +kernel
theorem d44_25 : decode method_5_code 25 = .ok (.lstore 6, 2) := by decide +kernel
theorem d44_27 : decode method_5_code 27 = .ok (.aload_n 0, 1) := by decide +kernel
theorem d44_28 : decode method_5_code 28 = .ok (.iload_n 1, 1) := by decide +kernel
theorem d44_29 : decode method_5_code 29 = .ok (.iload 5, 2) := by decide +kernel
theorem d44_31 : decode method_5_code 31 = .ok (.iadd, 1) := by decide +kernel
theorem d44_32 : decode method_5_code 32 = .ok (.bipush 48, 2) := by decide +kernel
theorem d44_34 : decode method_5_code 34 = .ok (.lload 6, 2) := by decide +kernel
theorem d44_36 : decode method_5_code 36 = .ok (.l2i, 1) := by decide +kernel
theorem d44_37 : decode method_5_code 37 = .ok (.iadd, 1) := by decide +kernel
theorem d44_38 : decode method_5_code 38 = .ok (.i2c, 1) := by decide +kernel
theorem d44_39 : decode method_5_code 39 = .ok (.invokestatic 41, 3) := by decide +kernel
theorem pd__Ljava_lang_String_IC_Z : parseMethodDescriptor "(Ljava/lang/String;IC)Z" = some ⟨[(.object "java/lang/String"), .int, .char], some .boolean⟩ := by decide +kernel
theorem d44_42 : decode method_5_code 42 = .ok (.ireturn, 1) := by decide +kernel
theorem d44_7 : decode method_5_code 7 = .ok (.iconst 1, 1) := by decide +kernel
theorem d44_8 : decode method_5_code 8 = .ok (.ireturn, 1) := by decide +kernel
set_option maxRecDepth 65536 in
set_option maxHeartbeats 40000000 in
theorem rmDk (l : Launch) (Z : State) (a0 : Array Value) (hw : ∀ d ∈ tables_1, d.before a0 Z = true) (ws : List Jvm.Cond) (a1 : Addr) (t1 : Addr) (k1 : ClassId) (nt : Int32) (es : List Value) (p1 : Int32) (w1 : Int64) (m0 : Nat) (n : Int32) (q5 : Int32) (wO : Addr) (wT : Addr) (kO : ClassId) (kT : ClassId) (iC : Int32) (vF : Value) (h0 : Heap) (n0 : Nat) (O0 : Old Z n0 h0) (G : Dg p1 n nt m0 es) (hv : w1.toInt = (m0 : Int)) (q0 : 0 ≤ q5.toInt) (E_a1 : Exa Z h0 a1 "java/lang/String") (F_a1_coder : Fld Z h0 a1 "java/lang/String" "coder" "B" (.int 0)) (F_a1_value : Fld Z h0 a1 "java/lang/String" "value" "[B" (.ref t1)) (V_t1 : Arv Z h0 t1 k1 .byte nt es (.int 0)) (WW : World1 Z wO wT kO kT iC vF) :
    Con l Z mq44 method_5_code 8 (some .boolean) ws ({ frames := 5, cells := 0, slots := 0, locals := 67 } : Room) #[(.ref a1), (.int p1), (.long w1), (.int n), (.int q5)] h0 (fun v h L => v = some (.int 1) ∧ Fr n0 L ∧ h = h0) := by
  refine own_body (plainFor_of_name pn_com_example_wirecall_wirecall_demo_UserToStringPinLaw) ?_
  intro p e s m below meth c s₁ hx hby hml hZ hown hnm hlk hret X0 e0
  have N0 := Fr.nil n0
  have D := @hb _ _ hby
  refine Go.st (T' := s₁) (f' := (mkF m 0 #[rv a1, iv p1, .val (.long w1), .second, iv n, iv q5, .unset, .unset] [])) (fun _ k => castTop (by first | (simp [entryFrame, mkF, argsToLocals, Value.category]; done) | rfl) k) ?_
  have ⟨S_iC, nz_iC, S_vF, r_vF, S_wO, E_wO, S_wT, E_wT, V_wO, V_wT⟩ := WW
  have lt_wO := E_wO.lt
  have lt_wT := E_wT.lt
  have lt_a1 := E_a1.lt
  have lt_t1 := V_t1.lt
  refine zil 2 X0 hx (D d44_0) rfl ?_
  refine zil 4 X0 hx (D d44_2) rfl ?_
  by_cases cd1 : q5 < n
  · refine zcy 9 X0 hx (D d44_4) (tlt cd1).1 ?_
    refine zln 10 X0 hx (D d44_9) rfl ?_
    refine zil 12 X0 hx (D d44_10) rfl ?_
    refine zic 13 1 X0 hx (D d44_12) ?_
    refine zsb 14 X0 hx (D d44_13) ?_
    refine zil 16 X0 hx (D d44_14) rfl ?_
    refine zsb 17 X0 hx (D d44_16) ?_
    refine gS 20 2 0 0 X0 N0 hx hZ (y := mq42) hown hml (ww hw 229 rfl) (ww hw 230 rfl) (ww hw 197 rfl) (rmPw l Z a0 hw [] ((n - (1 : Int32)) - q5) (dgs m0 - 1 - q5.toInt.toNat) h0 n0 O0 (dg_e G q0 cd1).1 (dg_e G q0 cd1).2) (ww hw 231 rfl) e0 [(.int ((n - (1 : Int32)) - q5))] [(.long w1)] (lenOf pd__I_J rfl) (D d44_17) ?_
    rintro T2 L2 M2 _ X2 uu2 ⟨pw2, rfl, Nq2, kq2, ep2⟩
    have N2 := uu2 Nq2
    refine zsk [(.long pw2), (.long w1)] ?_
    refine Go.st (f' := (mkF m 21 #[rv a1, iv p1, .val (.long w1), .second, iv n, iv q5, .unset, .unset] [(.long (w1 / pw2))])) (fun _ k => XS.ldiv X2.here hx rfl (D d44_20) rfl (dg_nz ep2) k) ?_
    refine Go.st (f' := (mkF m 24 #[rv a1, iv p1, .val (.long w1), .second, iv n, iv q5, .unset, .unset] [(.long (10 : Int64)), (.long (w1 / pw2))])) (fun _ k => X2.ldc2Long hx hown (mvT hZ (ww hw 199 rfl)) (g := (mkF m 21 #[rv a1, iv p1, .val (.long w1), .second, iv n, iv q5, .unset, .unset] [(.long (w1 / pw2))])) rfl (D d44_21) _ k) ?_
    refine Go.st (f' := (mkF m 25 #[rv a1, iv p1, .val (.long w1), .second, iv n, iv q5, .unset, .unset] [(.long ((w1 / pw2) - ((w1 / pw2) / (10 : Int64)) * (10 : Int64)))])) (fun _ k => XS.lrem X2.here hx rfl (D d44_24) rfl (by decide) k) ?_
    obtain ⟨yy3, hyy3⟩ : ∃ z, z = ((w1 / pw2) - ((w1 / pw2) / (10 : Int64)) * (10 : Int64)) := ⟨_, rfl⟩
    rw [← hyy3]
    refine Go.st (f' := (mkF m 27 #[rv a1, iv p1, .val (.long w1), .second, iv n, iv q5, .val (.long yy3), .second] [])) (fun _ k => XS.lstore X2.here hx rfl (D d44_25) rfl (l' := #[rv a1, iv p1, .val (.long w1), .second, iv n, iv q5, .val (.long yy3), .second]) rfl k) ?_
    refine zan 28 X2 hx (D d44_27) rfl rfl ?_
    refine zin 29 X2 hx (D d44_28) rfl ?_
    refine zil 31 X2 hx (D d44_29) rfl ?_
    refine zad 32 X2 hx (D d44_31) ?_
    refine zbp 34 48 X2 hx (D d44_32) ?_
    refine zll 36 X2 hx (D d44_34) rfl ?_
    refine Go.st (f' := (mkF m 37 #[rv a1, iv p1, .val (.long w1), .second, iv n, iv q5, .val (.long yy3), .second] [(.int (yy3.toInt32)), (.int 48), (.int (p1 + q5)), (.ref a1)])) (fun _ k => XS.l2i X2.here hx rfl (D d44_36) rfl k) ?_
    refine zad 38 X2 hx (D d44_37) ?_
    refine Go.st (f' := (mkF m 39 #[rv a1, iv p1, .val (.long w1), .second, iv n, iv q5, .val (.long yy3), .second] [(.int (((48 : Int32) + (yy3.toInt32)).toUInt32.toUInt16.toUInt32.toInt32)), (.int (p1 + q5)), (.ref a1)])) (fun _ k => XS.i2c X2.here hx rfl (D d44_38) rfl k) ?_
    refine gS 42 0 0 0 X2 N2 hx hZ (y := mq43) hown hml (ww hw 201 rfl) (ww hw 202 rfl) (ww hw 197 rfl) (rmCh l Z a0 hw [] a1 t1 k1 nt es (p1 + q5) (Int32.ofNat (48 + m0 / 10 ^ (dgs m0 - 1 - q5.toInt.toNat) % 10)) (((48 : Int32) + (yy3.toInt32)).toUInt32.toUInt16.toUInt32.toInt32) wO wT kO kT iC vF h0 n0 O0 (dg_i G q0 cd1).1 (dg_i G q0 cd1).2.1 (dg_i G q0 cd1).2.2 (dg_c G.1 hv (dg_e G q0 cd1).2 ep2 hyy3) E_a1 F_a1_coder F_a1_value V_t1 WW) (ww hw 203 rfl) kq2 [(.ref a1), (.int (p1 + q5)), (.int (((48 : Int32) + (yy3.toInt32)).toUInt32.toUInt16.toUInt32.toInt32))] [] (lenOf pd__Ljava_lang_String_IC_Z rfl) (D d44_39) ?_
    rintro T4 L4 M4 _ X4 uu4 ⟨rfl, Nq4, kq4⟩
    have N4 := uu4 Nq4
    refine zsk [(.int 1)] ?_
    refine Go.retB X4 hlk hx (t := .boolean) hret (by simp) (D d44_42) kq4 ?_ (by decide) (by decide)
    exact ⟨rfl, N4, rfl⟩
  · refine zcn 7 X0 hx (D d44_4) (flt cd1).1 ?_
    refine zic 8 1 X0 hx (D d44_7) ?_
    refine Go.retB X0 hlk hx (t := .boolean) hret (by simp) (D d44_8) e0 ?_ (by decide) (by decide)
    exact ⟨rfl, N0, rfl⟩
theorem pn_com_example_wirecall_wirecall_demo_User : plainName "com/example/wirecall/wirecall/demo/User" = true := by first | (simp [plainName, overriddenIn]; done) | decide +kernel
theorem d49_0 : decode prog_20_method_1_code 0 = .ok (.aload_n 0, 1) := by decide +kernel
theorem d49_1 : decode prog_20_method_1_code 1 = .ok (.invokespecial 1, 3) := by decide +kernel
theorem d49_4 : decode prog_20_method_1_code 4 = .ok (.return_, 1) := by decide +kernel
set_option maxRecDepth 65536 in
set_option maxHeartbeats 40000000 in
theorem rmU0 (l : Launch) (Z : State) (a0 : Array Value) (hw : ∀ d ∈ tables_1, d.before a0 Z = true) (ws : List Jvm.Cond) (a1 : Addr) (h0 : Heap) (n0 : Nat) (O0 : Old Z n0 h0) (g_a1 : n0 ≤ a1) (E_a1 : Exa Z h0 a1 "com/example/wirecall/wirecall/demo/User") (F_a1_userId : Fld Z h0 a1 "com/example/wirecall/wirecall/demo/User" "userId" "I" (.int 0)) (F_a1_userName : Fld Z h0 a1 "com/example/wirecall/wirecall/demo/User" "userName" "Ljava/lang/String;" .null) :
    Con l Z mq45 prog_20_method_1_code 1 none ws ({ frames := 1, cells := 0, slots := 0, locals := 12 } : Room) #[(.ref a1)] h0 (fun v h L => v = none ∧ Fr n0 L ∧ Keep h0 h [a1] ∧ Exa Z h a1 "com/example/wirecall/wirecall/demo/User" ∧ Fld Z h a1 "com/example/wirecall/wirecall/demo/User" "userId" "I" (.int 0) ∧ Fld Z h a1 "com/example/wirecall/wirecall/demo/User" "userName" "Ljava/lang/String;" .null) := by
  refine own_body (plainFor_of_name pn_com_example_wirecall_wirecall_demo_User) ?_
  intro p e s m below meth c s₁ hx hby hml hZ hown hnm hlk hret X0 e0
  have N0 := Fr.nil n0
  have D := @hb _ _ hby
  have K0 : Keep h0 h0 [a1] := Keep.refl _ _
  refine Go.st (T' := s₁) (f' := (mkF m 0 #[rv a1] [])) (fun _ k => castTop (by first | (simp [entryFrame, mkF, argsToLocals, Value.category]; done) | rfl) k) ?_
  have lt_a1 := E_a1.lt
  refine zan 1 X0 hx (D d49_0) rfl rfl ?_
  obtain ⟨T1, X1, e1, st1⟩ := initO X0 hx hZ hown (ww hw 28 rfl) (ww hw 12 rfl) (ww hw 13 rfl) e0 (g := (mkF m 1 #[rv a1] [(.ref a1)])) rfl (by rw [hml]; rfl) rfl (D d49_1) (by decide) (W := 0) (by show 2 * 0 + _ ≤ _; exact Nat.le_of_eq rfl) (by decide)
  refine zst 4 #[rv a1] [] st1 ?_
  refine Go.ret0 X1 hlk hx hret (D d49_4) e1 ?_ (by decide) (by decide)
  exact ⟨rfl, N0, K0, E_a1, F_a1_userId, F_a1_userName⟩
theorem d4_0 : decode prog_20_method_2_code 0 = .ok (.aload_n 0, 1) := by decide +kernel
theorem d4_1 : decode prog_20_method_2_code 1 = .ok (.invokespecial 1, 3) := by decide +kernel
theorem d4_4 : decode prog_20_method_2_code 4 = .ok (.aload_n 0, 1) := by decide +kernel
theorem d4_5 : decode prog_20_method_2_code 5 = .ok (.iload_n 1, 1) := by decide +kernel
theorem d4_6 : decode prog_20_method_2_code 6 = .ok (.putfield 7, 3) := by decide +kernel
theorem d4_9 : decode prog_20_method_2_code 9 = .ok (.aload_n 0, 1) := by decide +kernel
theorem d4_10 : decode prog_20_method_2_code 10 = .ok (.aload_n 2, 1) := by decide +kernel
theorem d4_11 : decode prog_20_method_2_code 11 = .ok (.putfield 13, 3) := by decide +kernel
theorem d4_14 : decode prog_20_method_2_code 14 = .ok (.return_, 1) := by decide +kernel
set_option maxRecDepth 65536 in
set_option maxHeartbeats 40000000 in
theorem rmU2 (l : Launch) (Z : State) (a0 : Array Value) (hw : ∀ d ∈ tables_1, d.before a0 Z = true) (ws : List Jvm.Cond) (a1 : Addr) (x : Int32) (h0 : Heap) (n0 : Nat) (O0 : Old Z n0 h0) (g_a1 : n0 ≤ a1) (E_a1 : Exa Z h0 a1 "com/example/wirecall/wirecall/demo/User") (F_a1_userId : Fld Z h0 a1 "com/example/wirecall/wirecall/demo/User" "userId" "I" (.int 0)) (F_a1_userName : Fld Z h0 a1 "com/example/wirecall/wirecall/demo/User" "userName" "Ljava/lang/String;" .null) :
    Con l Z mq46 prog_20_method_2_code 3 none ws ({ frames := 1, cells := 0, slots := 0, locals := 12 } : Room) #[(.ref a1), (.int x), .null] h0 (fun v h L => v = none ∧ Fr n0 L ∧ Keep h0 h [a1] ∧ Exa Z h a1 "com/example/wirecall/wirecall/demo/User" ∧ Fld Z h a1 "com/example/wirecall/wirecall/demo/User" "userId" "I" (.int x) ∧ Fld Z h a1 "com/example/wirecall/wirecall/demo/User" "userName" "Ljava/lang/String;" .null) := by
  refine own_body (plainFor_of_name pn_com_example_wirecall_wirecall_demo_User) ?_
  intro p e s m below meth c s₁ hx hby hml hZ hown hnm hlk hret X0 e0
  have N0 := Fr.nil n0
  have D := @hb _ _ hby
  have K0 : Keep h0 h0 [a1] := Keep.refl _ _
  refine Go.st (T' := s₁) (f' := (mkF m 0 #[rv a1, iv x, .val .null] [])) (fun _ k => castTop (by first | (simp [entryFrame, mkF, argsToLocals, Value.category]; done) | rfl) k) ?_
  have lt_a1 := E_a1.lt
  refine zan 1 X0 hx (D d4_0) rfl rfl ?_
  obtain ⟨T1, X1, e1, st1⟩ := initO X0 hx hZ hown (ww hw 28 rfl) (ww hw 12 rfl) (ww hw 13 rfl) e0 (g := (mkF m 1 #[rv a1, iv x, .val .null] [(.ref a1)])) rfl (by rw [hml]; rfl) rfl (D d4_1) (by decide) (W := 0) (by show 2 * 0 + _ ≤ _; exact Nat.le_of_eq rfl) (by decide)
  refine zst 4 #[rv a1, iv x, .val .null] [] st1 ?_
  refine zan 5 X1 hx (D d4_4) rfl rfl ?_
  refine zin 6 X1 hx (D d4_5) rfl ?_
  obtain ⟨T2, h2, X2, e2, W2, st2⟩ := putF X1 hx hZ hown (host := "") (Or.inl (ww hw 29 rfl)) Via.refl e1 F_a1_userId E_a1 (Or.inl (ww hw 30 rfl)) (ww hw 23 rfl) (ty := .int) (by decide) rfl rfl (g := (mkF m 6 #[rv a1, iv x, .val .null] [(.int x), (.ref a1)])) rfl rfl (D d4_6)
  have N2 := Fr.snoc X2 N0 g_a1
  have O2 : Old Z n0 h2 := O0.wr W2 g_a1
  have K2 : Keep h0 h2 [a1] := K0.wr W2 (Or.inl (List.mem_of_getElem? (i := 0) rfl))
  have Fw2 := F_a1_userId.same W2
  refine zst 9 #[rv a1, iv x, .val .null] [] st2 ?_
  refine zan 10 X2 hx (D d4_9) rfl rfl ?_
  refine zan 11 X2 hx (D d4_10) rfl rfl ?_
  have ft3 := (E_a1.wr W2)
  have ft4 := (F_a1_userName.other W2 (Or.inr (slot_ne (Or.inl (ww hw 32 rfl)) (Or.inl (ww hw 30 rfl)) (by decide) (t := (.object "java/lang/String")) (t' := .int) (by decide) (by decide))))
  obtain ⟨T5, h5, X5, e5, W5, st5⟩ := putF X2 hx hZ hown (host := "") (Or.inl (ww hw 31 rfl)) Via.refl e2 ft4 ft3 (Or.inl (ww hw 32 rfl)) (ww hw 23 rfl) (ty := (.object "java/lang/String")) (by decide) rfl rfl (g := (mkF m 11 #[rv a1, iv x, .val .null] [.null, (.ref a1)])) rfl rfl (D d4_11)
  have N5 := Fr.snoc X5 N2 g_a1
  have O5 : Old Z n0 h5 := O2.wr W5 g_a1
  have K5 : Keep h0 h5 [a1] := K2.wr W5 (Or.inl (List.mem_of_getElem? (i := 0) rfl))
  have Fw5 := ft4.same W5
  refine zst 14 #[rv a1, iv x, .val .null] [] st5 ?_
  refine Go.ret0 X5 hlk hx hret (D d4_14) e5 ?_ (by decide) (by decide)
  have ft6 := (ft3.wr W5)
  have ft7 := (Fw2.other W5 (Or.inr (slot_ne (Or.inl (ww hw 30 rfl)) (Or.inl (ww hw 32 rfl)) (by decide) (t := .int) (t' := (.object "java/lang/String")) (by decide) (by decide))))
  exact ⟨rfl, N5, K5, ft6, ft7, Fw5⟩
set_option maxRecDepth 65536 in
set_option maxHeartbeats 40000000 in
theorem rmU3 (l : Launch) (Z : State) (a0 : Array Value) (hw : ∀ d ∈ tables_1, d.before a0 Z = true) (ws : List Jvm.Cond) (a1 : Addr) (x : Int32) (m1 : Addr) (h0 : Heap) (n0 : Nat) (O0 : Old Z n0 h0) (g_a1 : n0 ≤ a1) (E_a1 : Exa Z h0 a1 "com/example/wirecall/wirecall/demo/User") (F_a1_userId : Fld Z h0 a1 "com/example/wirecall/wirecall/demo/User" "userId" "I" (.int 0)) (F_a1_userName : Fld Z h0 a1 "com/example/wirecall/wirecall/demo/User" "userName" "Ljava/lang/String;" .null) :
    Con l Z mq46 prog_20_method_2_code 3 none ws ({ frames := 1, cells := 0, slots := 0, locals := 12 } : Room) #[(.ref a1), (.int x), (.ref m1)] h0 (fun v h L => v = none ∧ Fr n0 L ∧ Keep h0 h [a1] ∧ Exa Z h a1 "com/example/wirecall/wirecall/demo/User" ∧ Fld Z h a1 "com/example/wirecall/wirecall/demo/User" "userId" "I" (.int x) ∧ Fld Z h a1 "com/example/wirecall/wirecall/demo/User" "userName" "Ljava/lang/String;" (.ref m1)) := by
  refine own_body (plainFor_of_name pn_com_example_wirecall_wirecall_demo_User) ?_
  intro p e s m below meth c s₁ hx hby hml hZ hown hnm hlk hret X0 e0
  have N0 := Fr.nil n0
  have D := @hb _ _ hby
  have K0 : Keep h0 h0 [a1] := Keep.refl _ _
  refine Go.st (T' := s₁) (f' := (mkF m 0 #[rv a1, iv x, rv m1] [])) (fun _ k => castTop (by first | (simp [entryFrame, mkF, argsToLocals, Value.category]; done) | rfl) k) ?_
  have lt_a1 := E_a1.lt
  refine zan 1 X0 hx (D d4_0) rfl rfl ?_
  obtain ⟨T1, X1, e1, st1⟩ := initO X0 hx hZ hown (ww hw 28 rfl) (ww hw 12 rfl) (ww hw 13 rfl) e0 (g := (mkF m 1 #[rv a1, iv x, rv m1] [(.ref a1)])) rfl (by rw [hml]; rfl) rfl (D d4_1) (by decide) (W := 0) (by show 2 * 0 + _ ≤ _; exact Nat.le_of_eq rfl) (by decide)
  refine zst 4 #[rv a1, iv x, rv m1] [] st1 ?_
  refine zan 5 X1 hx (D d4_4) rfl rfl ?_
  refine zin 6 X1 hx (D d4_5) rfl ?_
  obtain ⟨T2, h2, X2, e2, W2, st2⟩ := putF X1 hx hZ hown (host := "") (Or.inl (ww hw 29 rfl)) Via.refl e1 F_a1_userId E_a1 (Or.inl (ww hw 30 rfl)) (ww hw 23 rfl) (ty := .int) (by decide) rfl rfl (g := (mkF m 6 #[rv a1, iv x, rv m1] [(.int x), (.ref a1)])) rfl rfl (D d4_6)
  have N2 := Fr.snoc X2 N0 g_a1
  have O2 : Old Z n0 h2 := O0.wr W2 g_a1
  have K2 : Keep h0 h2 [a1] := K0.wr W2 (Or.inl (List.mem_of_getElem? (i := 0) rfl))
  have Fw2 := F_a1_userId.same W2
  refine zst 9 #[rv a1, iv x, rv m1] [] st2 ?_
  refine zan 10 X2 hx (D d4_9) rfl rfl ?_
  refine zan 11 X2 hx (D d4_10) rfl rfl ?_
  have ft3 := (E_a1.wr W2)
  have ft4 := (F_a1_userName.other W2 (Or.inr (slot_ne (Or.inl (ww hw 32 rfl)) (Or.inl (ww hw 30 rfl)) (by decide) (t := (.object "java/lang/String")) (t' := .int) (by decide) (by decide))))
  obtain ⟨T5, h5, X5, e5, W5, st5⟩ := putF X2 hx hZ hown (host := "") (Or.inl (ww hw 31 rfl)) Via.refl e2 ft4 ft3 (Or.inl (ww hw 32 rfl)) (ww hw 23 rfl) (ty := (.object "java/lang/String")) (by decide) rfl rfl (g := (mkF m 11 #[rv a1, iv x, rv m1] [(.ref m1), (.ref a1)])) rfl rfl (D d4_11)
  have N5 := Fr.snoc X5 N2 g_a1
  have O5 : Old Z n0 h5 := O2.wr W5 g_a1
  have K5 : Keep h0 h5 [a1] := K2.wr W5 (Or.inl (List.mem_of_getElem? (i := 0) rfl))
  have Fw5 := ft4.same W5
  refine zst 14 #[rv a1, iv x, rv m1] [] st5 ?_
  refine Go.ret0 X5 hlk hx hret (D d4_14) e5 ?_ (by decide) (by decide)
  have ft6 := (ft3.wr W5)
  have ft7 := (Fw2.other W5 (Or.inr (slot_ne (Or.inl (ww hw 30 rfl)) (Or.inl (ww hw 32 rfl)) (by decide) (t := .int) (t' := (.object "java/lang/String")) (by decide) (by decide))))
  exact ⟨rfl, N5, K5, ft6, ft7, Fw5⟩
abbrev nulL : List Value := [(Value.int (110 : Int32)), (Value.int (117 : Int32)), (Value.int (108 : Int32)), (Value.int (108 : Int32))]

/-- the text -/
def RL (x : Int32) (nm : List Value) : List Value := ((((([] : List Value) ++ [(Value.int (85 : Int32)), (Value.int (115 : Int32)), (Value.int (101 : Int32)), (Value.int (114 : Int32)), (Value.int (40 : Int32)), (Value.int (117 : Int32)), (Value.int (115 : Int32)), (Value.int (101 : Int32)), (Value.int (114 : Int32)), (Value.int (73 : Int32)), (Value.int (100 : Int32)), (Value.int (61 : Int32))]) ++ dsL x) ++ [(Value.int (44 : Int32)), (Value.int (32 : Int32)), (Value.int (117 : Int32)), (Value.int (115 : Int32)), (Value.int (101 : Int32)), (Value.int (114 : Int32)), (Value.int (78 : Int32)), (Value.int (97 : Int32)), (Value.int (109 : Int32)), (Value.int (101 : Int32)), (Value.int (61 : Int32))]) ++ nm) ++ [(Value.int (41 : Int32))]
theorem rl_len (x : Int32) (nm : List Value) : (RL x nm).length = 12 + (dsL x).length + 11 + nm.length + 1 := by
  unfold RL; simp only [List.length_append, List.length_cons, List.length_nil] <;> omega
theorem rl_u (x : Int32) (nm : List Value) (j : Nat) (d : Value) (h : j < 12) : (RL x nm).getD j d = ([(Value.int (85 : Int32)), (Value.int (115 : Int32)), (Value.int (101 : Int32)), (Value.int (114 : Int32)), (Value.int (40 : Int32)), (Value.int (117 : Int32)), (Value.int (115 : Int32)), (Value.int (101 : Int32)), (Value.int (114 : Int32)), (Value.int (73 : Int32)), (Value.int (100 : Int32)), (Value.int (61 : Int32))] : List Value).getD j d := by
  unfold RL; simp only [List.getD_eq_getElem?_getD, List.append_assoc, List.nil_append]
  rw [List.getElem?_append_left (by simp; omega)]
theorem rl_d (x : Int32) (nm : List Value) (j : Nat) (d : Value) (h : j < (dsL x).length) : (RL x nm).getD (12 + j) d = (dsL x).getD j d := by
  unfold RL; simp only [List.getD_eq_getElem?_getD, List.append_assoc, List.nil_append]
  rw [List.getElem?_append_right (by simp), show 12 + j - ([(Value.int (85 : Int32)), (Value.int (115 : Int32)), (Value.int (101 : Int32)), (Value.int (114 : Int32)), (Value.int (40 : Int32)), (Value.int (117 : Int32)), (Value.int (115 : Int32)), (Value.int (101 : Int32)), (Value.int (114 : Int32)), (Value.int (73 : Int32)), (Value.int (100 : Int32)), (Value.int (61 : Int32))] : List Value).length = j by simp, List.getElem?_append_left h]
theorem rl_q (x : Int32) (nm : List Value) (j : Nat) (d : Value) (h : j < 11) : (RL x nm).getD (12 + (dsL x).length + j) d = ([(Value.int (44 : Int32)), (Value.int (32 : Int32)), (Value.int (117 : Int32)), (Value.int (115 : Int32)), (Value.int (101 : Int32)), (Value.int (114 : Int32)), (Value.int (78 : Int32)), (Value.int (97 : Int32)), (Value.int (109 : Int32)), (Value.int (101 : Int32)), (Value.int (61 : Int32))] : List Value).getD j d := by
  unfold RL; simp only [List.getD_eq_getElem?_getD, List.append_assoc, List.nil_append]
  rw [List.getElem?_append_right (by simp; omega), show 12 + (dsL x).length + j - ([(Value.int (85 : Int32)), (Value.int (115 : Int32)), (Value.int (101 : Int32)), (Value.int (114 : Int32)), (Value.int (40 : Int32)), (Value.int (117 : Int32)), (Value.int (115 : Int32)), (Value.int (101 : Int32)), (Value.int (114 : Int32)), (Value.int (73 : Int32)), (Value.int (100 : Int32)), (Value.int (61 : Int32))] : List Value).length = (dsL x).length + j by simp; omega, List.getElem?_append_right (by omega), show (dsL x).length + j - (dsL x).length = j by omega, List.getElem?_append_left (by simp; omega)]
theorem rl_n (x : Int32) (nm : List Value) (j : Nat) (d : Value) (h : j < nm.length) : (RL x nm).getD (12 + (dsL x).length + 11 + j) d = nm.getD j d := by
  unfold RL; simp only [List.getD_eq_getElem?_getD, List.append_assoc, List.nil_append]
  rw [List.getElem?_append_right (by simp; omega), show 12 + (dsL x).length + 11 + j - ([(Value.int (85 : Int32)), (Value.int (115 : Int32)), (Value.int (101 : Int32)), (Value.int (114 : Int32)), (Value.int (40 : Int32)), (Value.int (117 : Int32)), (Value.int (115 : Int32)), (Value.int (101 : Int32)), (Value.int (114 : Int32)), (Value.int (73 : Int32)), (Value.int (100 : Int32)), (Value.int (61 : Int32))] : List Value).length = (dsL x).length + 11 + j by simp; omega, List.getElem?_append_right (by omega), show (dsL x).length + 11 + j - (dsL x).length = 11 + j by omega, List.getElem?_append_right (by simp), show 11 + j - ([(Value.int (44 : Int32)), (Value.int (32 : Int32)), (Value.int (117 : Int32)), (Value.int (115 : Int32)), (Value.int (101 : Int32)), (Value.int (114 : Int32)), (Value.int (78 : Int32)), (Value.int (97 : Int32)), (Value.int (109 : Int32)), (Value.int (101 : Int32)), (Value.int (61 : Int32))] : List Value).length = j by simp, List.getElem?_append_left h]
theorem rl_e (x : Int32) (nm : List Value) (d : Value) : (RL x nm).getD (12 + (dsL x).length + 11 + nm.length) d = .int (41 : Int32) := by
  unfold RL; simp only [List.getD_eq_getElem?_getD, List.append_assoc, List.nil_append]
  rw [List.getElem?_append_right (by simp; omega), show 12 + (dsL x).length + 11 + nm.length - ([(Value.int (85 : Int32)), (Value.int (115 : Int32)), (Value.int (101 : Int32)), (Value.int (114 : Int32)), (Value.int (40 : Int32)), (Value.int (117 : Int32)), (Value.int (115 : Int32)), (Value.int (101 : Int32)), (Value.int (114 : Int32)), (Value.int (73 : Int32)), (Value.int (100 : Int32)), (Value.int (61 : Int32))] : List Value).length = (dsL x).length + 11 + nm.length by simp; omega, List.getElem?_append_right (by omega), show (dsL x).length + 11 + nm.length - (dsL x).length = 11 + nm.length by omega, List.getElem?_append_right (by simp), show 11 + nm.length - ([(Value.int (44 : Int32)), (Value.int (32 : Int32)), (Value.int (117 : Int32)), (Value.int (115 : Int32)), (Value.int (101 : Int32)), (Value.int (114 : Int32)), (Value.int (78 : Int32)), (Value.int (97 : Int32)), (Value.int (109 : Int32)), (Value.int (101 : Int32)), (Value.int (61 : Int32))] : List Value).length = nm.length by simp, List.getElem?_append_right (by omega), Nat.sub_self]
  rfl
theorem rl_ix {x nt i : Int32} {nm : List Value} (l : Ln nt (RL x nm)) (k : Nat) (hk : k < (RL x nm).length) (hi : i.toInt = (k : Int)) : ¬ i < (0 : Int32) ∧ i < nt ∧ i.toNatClampNeg = k := by
  have := l.2
  have e0 : (0 : Int32).toInt = 0 := by decide
  rw [Int32.lt_iff_toInt_lt, Int32.lt_iff_toInt_lt]; simp only [Int32.toNatClampNeg]
  refine ⟨?_, ?_, ?_⟩ <;> omega
theorem own_dg {x p n nt : Int32} {nm : List Value} (hn : n.toInt = (dgs (nAbs x) : Int)) (hp : p.toInt = ((12 + if x < 0 then 1 else 0 : Nat) : Int)) (l : Ln nt (RL x nm)) (hs : nm.length ≤ 4) : Dg p n nt (nAbs x) (RL x nm) := by
  have h1 := l.2
  rw [rl_len, dsL_len] at h1
  have d := dgs_b (nAbs x)
  have hs' : (if x < 0 then 1 else 0 : Nat) ≤ 1 := by split <;> omega
  refine ⟨nAbs_le x, hn, by omega, by omega, by omega, fun j hj => ?_⟩
  have e : p.toNatClampNeg + j = 12 + ((if x < 0 then 1 else 0) + j) := by simp only [Int32.toNatClampNeg]; omega
  rw [e, rl_d x nm _ _ (by rw [dsL_len]; omega)]
  exact dsL_at x j _ hj
theorem rl_s {x : Int32} (nm : List Value) (d : Value) (h : x < 0) : (RL x nm).getD 12 d = .int (45 : Int32) := by
  have q := rl_d x nm 0 d (by rw [dsL_len, if_pos h]; omega)
  rw [q]; unfold dsL; rw [if_pos h]; rfl
theorem d5_0 : decode prog_20_method_7_code 0 = .ok (.new 33, 3) := by decide +kernel
theorem d5_3 : decode prog_20_method_7_code 3 = .ok (.dup, 1) := by decide +kernel
theorem d5_4 : decode prog_20_method_7_code 4 = .ok (.invokespecial 35, 3) := by decide +kernel
theorem pd___V : parseMethodDescriptor "()V" = some ⟨[], none⟩ := by decide +kernel
theorem d5_7 : decode prog_20_method_7_code 7 = .ok (.ldc 36, 2) := by decide +kernel
theorem d5_9 : decode prog_20_method_7_code 9 = .ok (.invokevirtual 38, 3) := by decide +kernel
theorem pd__Ljava_lang_String__Ljava_lang_StringBuilder_ : parseMethodDescriptor "(Ljava/lang/String;)Ljava/lang/StringBuilder;" = some ⟨[(.object "java/lang/String")], some (.object "java/lang/StringBuilder")⟩ := by decide +kernel
theorem d5_12 : decode prog_20_method_7_code 12 = .ok (.aload_n 0, 1) := by decide +kernel
theorem d5_13 : decode prog_20_method_7_code 13 = .ok (.getfield 7, 3) := by decide +kernel
theorem d5_16 : decode prog_20_method_7_code 16 = .ok (.invokevirtual 42, 3) := by decide +kernel
theorem pd__I_Ljava_lang_StringBuilder_ : parseMethodDescriptor "(I)Ljava/lang/StringBuilder;" = some ⟨[.int], some (.object "java/lang/StringBuilder")⟩ := by decide +kernel
theorem d5_19 : decode prog_20_method_7_code 19 = .ok (.ldc 45, 2) := by decide +kernel
theorem d5_21 : decode prog_20_method_7_code 21 = .ok (.invokevirtual 38, 3) := by decide +kernel
theorem d5_24 : decode prog_20_method_7_code 24 = .ok (.aload_n 0, 1) := by decide +kernel
theorem d5_25 : decode prog_20_method_7_code 25 = .ok (.getfield 13, 3) := by decide +kernel
theorem d5_28 : decode prog_20_method_7_code 28 = .ok (.invokevirtual 38, 3) := by decide +kernel
theorem d5_31 : decode prog_20_method_7_code 31 = .ok (.ldc 47, 2) := by decide +kernel
theorem d5_33 : decode prog_20_method_7_code 33 = .ok (.invokevirtual 38, 3) := by decide +kernel
theorem d5_36 : decode prog_20_method_7_code 36 = .ok (.invokevirtual 49, 3) := by decide +kernel
theorem pd___Ljava_lang_String_ : parseMethodDescriptor "()Ljava/lang/String;" = some ⟨[], some (.object "java/lang/String")⟩ := by decide +kernel
theorem d5_39 : decode prog_20_method_7_code 39 = .ok (.areturn, 1) := by decide +kernel
set_option maxRecDepth 65536 in
set_option maxHeartbeats 40000000 in
theorem rmT1 (l : Launch) (Z : State) (a0 : Array Value) (hw : ∀ d ∈ tables_1, d.before a0 Z = true) (ws : List Jvm.Cond) (a1 : Addr) (x : Int32) (wO : Addr) (wT : Addr) (kO : ClassId) (kT : ClassId) (iC : Int32) (vF : Value) (h0 : Heap) (n0 : Nat) (O0 : Old Z n0 h0) (E_a1 : Exa Z h0 a1 "com/example/wirecall/wirecall/demo/User") (F_a1_userId : Fld Z h0 a1 "com/example/wirecall/wirecall/demo/User" "userId" "I" (.int x)) (F_a1_userName : Fld Z h0 a1 "com/example/wirecall/wirecall/demo/User" "userName" "Ljava/lang/String;" .null) (WW : World1 Z wO wT kO kT iC vF) :
    ConW l Z EL mq47 prog_20_method_7_code 1 (some (.object "java/lang/String")) ws ({ frames := 7, cells := 15, slots := 1332, locals := 103 } : Room) #[(.ref a1)] h0 (fun v h L => ∃ (b t : Addr) (kt : ClassId) (n : Int32), v = some (.ref b) ∧ Fr n0 L ∧ h0.size ≤ b ∧ Keep h0 h [] ∧ Exa Z h b "java/lang/String" ∧ Fld Z h b "java/lang/String" "coder" "B" (.int 0) ∧ Fld Z h b "java/lang/String" "value" "[B" (.ref t) ∧ Arv Z h t kt .byte n (RL x nulL) (.int 0) ∧ Ln n (RL x nulL)) := by
  refine own_bodyW (plainFor_of_name pn_com_example_wirecall_wirecall_demo_User) ?_
  intro p e s m below meth c s₁ hx hby hml hZ hown hnm hlk hret X0 e0 hh hS CR0
  have hEL := own_EL hw
  have wS := own_wS hw
  have N0 := Fr.nil n0
  have D := @hb _ _ hby
  have K0 : Keep h0 h0 [] := Keep.refl _ _
  refine Go.st (T' := s₁) (f' := (mkF m 0 #[rv a1] [])) (fun _ k => castTop (by first | (simp [entryFrame, mkF, argsToLocals, Value.category]; done) | rfl) k) ?_
  have ⟨S_iC, nz_iC, S_vF, r_vF, S_wO, E_wO, S_wT, E_wT, V_wO, V_wT⟩ := WW
  have lt_wO := E_wO.lt
  have lt_wT := E_wT.lt
  have lt_a1 := E_a1.lt
  have db := dsL_b x
  have lk0 : Ln (12 : Int32) [(Value.int (85 : Int32)), (Value.int (115 : Int32)), (Value.int (101 : Int32)), (Value.int (114 : Int32)), (Value.int (40 : Int32)), (Value.int (117 : Int32)), (Value.int (115 : Int32)), (Value.int (101 : Int32)), (Value.int (114 : Int32)), (Value.int (73 : Int32)), (Value.int (100 : Int32)), (Value.int (61 : Int32))] := ⟨by decide, by decide⟩
  have lk1 : Ln (11 : Int32) [(Value.int (44 : Int32)), (Value.int (32 : Int32)), (Value.int (117 : Int32)), (Value.int (115 : Int32)), (Value.int (101 : Int32)), (Value.int (114 : Int32)), (Value.int (78 : Int32)), (Value.int (97 : Int32)), (Value.int (109 : Int32)), (Value.int (101 : Int32)), (Value.int (61 : Int32))] := ⟨by decide, by decide⟩
  have lk2 : Ln (1 : Int32) [(Value.int (41 : Int32))] := ⟨by decide, by decide⟩
  obtain ⟨T1, h1, X1, e1, E1, A1, D1, -, st1⟩ := newO X0 hx hZ hown (ww hw 38 rfl) (ww hw 39 rfl) (ww hw 40 rfl) e0 (g := (mkF m 0 #[rv a1] [])) rfl (D d5_0) (by decide) (by decide)
  obtain ⟨b1, g1⟩ : ∃ z, z = h0.size := ⟨_, rfl⟩
  rw [← g1] at A1 D1 st1
  have ne_a1_b1 : a1 ≠ b1 := Nat.ne_of_lt (Nat.lt_of_lt_of_eq lt_a1 g1.symm)
  have ne_wO_b1 : wO ≠ b1 := Nat.ne_of_lt (Nat.lt_of_lt_of_le lt_wO (Nat.le_trans O0.2.1 (Nat.le_of_eq g1.symm)))
  have ne_wT_b1 : wT ≠ b1 := Nat.ne_of_lt (Nat.lt_of_lt_of_le lt_wT (Nat.le_trans O0.2.1 (Nat.le_of_eq g1.symm)))
  have g_b1 : n0 ≤ b1 := Nat.le_trans (O0.1 ▸ O0.2.1) (Nat.le_of_eq g1.symm)
  have O1 : Old Z n0 h1 := O0.ext E1
  have sz_b1 : h0.size ≤ b1 := Nat.le_trans K0.1 (Nat.le_of_eq g1.symm)
  have K1 : Keep h0 h1 [] := K0.ext E1
  have CR1 : CHr Z EL s.vm h0 s.vm h1 := CR0.trans (CHr.ext E1 CR0.1)
  have sf_b1 : Safe Z EL s.vm h1 b1 := (Safe.new (Nat.le_of_eq g1.symm)).ext E1 CR0.1
  have lt_b1 := A1.lt
  have F_value_b1 : Fld Z h1 b1 "java/lang/AbstractStringBuilder" "value" "[B" .null := D1 (Or.inl (ww hw 53 rfl)) (ty := (.array .byte)) (by decide)
  have F_coder_b1 : Fld Z h1 b1 "java/lang/AbstractStringBuilder" "coder" "B" (.int (0 : Int32)) := D1 (Or.inl (ww hw 55 rfl)) (ty := .byte) (by decide)
  have F_count_b1 : Fld Z h1 b1 "java/lang/AbstractStringBuilder" "count" "I" (.int (0 : Int32)) := D1 (Or.inl (ww hw 79 rfl)) (ty := .int) (by decide)
  refine zst 3 #[rv a1] [(.ref b1)] st1 ?_
  refine Go.st (f' := (mkF m 4 #[rv a1] [(.ref b1), (.ref b1)])) (fun _ k => XS.dup X1.here hx rfl (D d5_3) rfl rfl k) ?_
  obtain ⟨_, _, ⟨T2, L2, kk2, nn2⟩, -, X2, ⟨Lc2, hQ2, lq2, yq2, zz2⟩, st2⟩ := X1.specialBack hx (y := mq30) rfl hown (mvT hZ (ww hw 41 rfl)) (mvT hZ (ww hw 42 rfl)) (mvT hZ (ww hw 43 rfl)) (by decide) (own_back (W := 1) (gc2 l Z a0 hw [] b1 wO wT kO kT iC vF h1 n0 O1 g_b1 A1 F_coder_b1 F_value_b1 F_count_b1 WW) hZ (ww hw 43 rfl) (ww hw 40 rfl) (by decide) (by decide)) (g := (mkF m 4 #[rv a1] [(.ref b1), (.ref b1)])) rfl (by rw [hml]; rfl) (Steps.refl _) (a := b1) (argsL := []) (rest := [(.ref b1)]) (lenOf pd___V rfl) rfl (by show 2 * 0 + _ ≤ _; exact Nat.le_of_eq rfl) (D d5_4) (fun _ _ => ⟨rfl, e1, (by decide : 1 + 1 ≤ _), (by decide : 4 + 16 ≤ _)⟩)
  dsimp only [Pt.U, Pt.locs, Pt.cells, Pt.slots] at X2 lq2 yq2 zz2 st2 hQ2
  subst lq2 yq2 zz2
  obtain ⟨rfl, Nq2, kq2, eq2, cq2, nq2, tt2, kt2, zq2, fq2, xq2, vq2⟩ := hQ2
  have N2 := Fr.app N0 Nq2
  have ft3 := (Nat.lt_of_lt_of_le lt_a1 E1.1)
  have ne_a1_tt2 : a1 ≠ tt2 := Nat.ne_of_lt (Nat.lt_of_lt_of_le ft3 zq2)
  have ne_b1_tt2 : b1 ≠ tt2 := Nat.ne_of_lt (Nat.lt_of_lt_of_le lt_b1 zq2)
  have ne_wO_tt2 : wO ≠ tt2 := Nat.ne_of_lt (Nat.lt_of_lt_of_le lt_wO (Nat.le_trans O1.2.1 zq2))
  have ne_wT_tt2 : wT ≠ tt2 := Nat.ne_of_lt (Nat.lt_of_lt_of_le lt_wT (Nat.le_trans O1.2.1 zq2))
  have g_tt2 : n0 ≤ tt2 := Nat.le_trans (O1.1 ▸ O1.2.1) zq2
  have sz_tt2 : h0.size ≤ tt2 := Nat.le_trans K1.1 zq2
  have sn_tt2 : Safe Z EL s.vm h1 tt2 := Safe.new zq2
  have O2 : Old Z n0 T2.heap := O1.keep kq2 (allS g_b1 all0)
  have CR2 : CHr Z EL s.vm h0 s.vm T2.heap := CR1.trans (CHr.keep kq2 (sfS sf_b1 sf0) CR1.1)
  have K2 : Keep h0 T2.heap [] := K1.trans kq2 (allS (Or.inr sz_b1) all0)
  have lt_tt2 := vq2.lt
  have ln2 : Ln (0 : Int32) [] := ⟨by decide, by decide⟩
  have bd2 : Bd (0 : Int32) (16 : Int32) := ⟨by decide, by decide, by decide⟩
  refine Go.tr (f' := (mkF m 7 #[rv a1] [(.ref b1)])) st2 ?_
  obtain ⟨b4, T4, h4, k14, t4, kt4, X4, e4, E4, hS4, hk4, hZ4, hown4, A4, cq4, fq4, vq4, lt_b4, lt_t4, crw4, -, sfx4, st4⟩ := ldcCH (EL := EL) X2 hx hZ hown (ww hw 56 rfl) wS rfl hS (Nat.zero_le _) hEL (List.mem_of_getElem? (i := 0) rfl) CR2.1 (vs := [(.int (85 : Int32)), (.int (115 : Int32)), (.int (101 : Int32)), (.int (114 : Int32)), (.int (40 : Int32)), (.int (117 : Int32)), (.int (115 : Int32)), (.int (101 : Int32)), (.int (114 : Int32)), (.int (73 : Int32)), (.int (100 : Int32)), (.int (61 : Int32))]) (z := (12 : Int32)) ⟨by decide, by decide⟩ (by decide) rfl (g := (mkF m 7 #[rv a1] [(.ref b1)])) rfl (D d5_7) (n := 48) (by decide) (by decide) (by decide) (by decide)
  have ft5 := (Safe.keep kq2 (sfS sf_b1 sf0) CR1.1 sf_b1)
  have ft6 := (Nat.lt_of_lt_of_le lt_b1 kq2.1)
  have ft7 := (Safe.keep kq2 (sfS sf_b1 sf0) CR1.1 sn_tt2)
  have O4 : Old Z n0 h4 := O2.ext E4
  have K4 : Keep h0 h4 [] := K2.ext E4
  have sf8 := crw4.safe ft6 ft5
  have sf9 := crw4.safe lt_tt2 ft7
  have CR4 := CR2.trans crw4
  refine zst 9 #[rv a1] [(.ref b4), (.ref b1)] st4 ?_
  have ft11 := (eq2.ext E4)
  have ft12 := (cq2.ext E4)
  have ft13 := (fq2.ext E4)
  have ft14 := (nq2.ext E4)
  have ft15 := (xq2.ext E4)
  have ft16 := (vq2.ext E4)
  refine gV 12 0 5 272 X4 N2 hx hZ4 (y := mq23) hown4 hml (ww hw 57 rfl) (ww hw 58 rfl) (ww hw 60 rfl) (ww hw 59 rfl) (gbs l Z a0 hw [] b1 b4 t4 kt4 (12 : Int32) [(.int (85 : Int32)), (.int (115 : Int32)), (.int (101 : Int32)), (.int (114 : Int32)), (.int (40 : Int32)), (.int (117 : Int32)), (.int (115 : Int32)), (.int (101 : Int32)), (.int (114 : Int32)), (.int (73 : Int32)), (.int (100 : Int32)), (.int (61 : Int32))] tt2 kt2 (16 : Int32) (0 : Int32) [] wO wT kO kT iC vF h4 n0 O4 ln2 bd2 lk0 (by decide) g_b1 g_tt2 ft11 ft12 ft13 ft14 A4 cq4 fq4 vq4 ft15 ft16 WW) (ww hw 61 rfl) (ww hw 40 rfl) e4 ft11 [(.ref b4)] [] (lenOf pd__Ljava_lang_String__Ljava_lang_StringBuilder_ rfl) (D d5_9) ?_
  rintro T10 L10 M10 _ X10 uu10 ⟨rfl, Nq10, kq10, eq10, cq10, nq10, tt10, kt10, NN10, dz10, fq10, xq10, vq10, bd10⟩
  have N10 := uu10 Nq10
  have ft17 := (Nat.lt_of_lt_of_le (Nat.lt_of_lt_of_le ft3 kq2.1) E4.1)
  have ne_a1_tt10 : a1 ≠ tt10 := own_dn dz10 ne_a1_tt2 ft17
  have ft18 := (Nat.lt_of_lt_of_le ft6 E4.1)
  have ne_b1_tt10 : b1 ≠ tt10 := own_dn dz10 ne_b1_tt2 ft18
  have ne_b4_tt10 : b4 ≠ tt10 := own_dn dz10 (Ne.symm (sfx4 _ sf9).1) lt_b4
  have ne_t4_tt10 : t4 ≠ tt10 := own_dn dz10 (Ne.symm (sfx4 _ sf9).2) lt_t4
  have ne_wO_tt10 : wO ≠ tt10 := own_dn dz10 ne_wO_tt2 (Nat.lt_of_lt_of_le lt_wO O4.2.1)
  have ne_wT_tt10 : wT ≠ tt10 := own_dn dz10 ne_wT_tt2 (Nat.lt_of_lt_of_le lt_wT O4.2.1)
  have g_tt10 : n0 ≤ tt10 := own_dt dz10 g_tt2 (O4.1 ▸ O4.2.1)
  have sz_tt10 : h0.size ≤ tt10 := own_dt dz10 sz_tt2 K4.1
  have sn_tt10 : Safe Z EL T4.vm h4 tt10 := dz10.elim (fun q => by rw [q]; exact sf9) Safe.new
  have O10 : Old Z n0 T10.heap := O4.keep kq10 (allS g_b1 (allS g_tt2 all0))
  have CR10 : CHr Z EL s.vm h0 T4.vm T10.heap := CR4.trans (CHr.keep kq10 (sfS sf8 (sfS sf9 sf0)) CR4.1)
  have K10 : Keep h0 T10.heap [] := K4.trans kq10 (allS (Or.inr sz_b1) (allS (Or.inr sz_tt2) all0))
  have lt_tt10 := vq10.lt
  have ln10 := own_la ln2 lk0 (by decide)
  refine zsk [(.ref b1)] ?_
  refine zan 13 X10 hx (D d5_12) rfl rfl ?_
  have ft19 := ((((F_a1_userId.ext E1).keep kq2 (ninS ne_a1_b1 nin0)).ext E4).keep kq10 (ninS ne_a1_b1 (ninS ne_a1_tt2 nin0)))
  refine zgf 16 X10 hx hZ4 hown4 (host := "") (Or.inl (ww hw 29 rfl)) Via.refl rfl ft19 (D d5_13) fun T20 X20 e20 => ?_
  refine gV 19 0 6 472 X20 N10 hx hZ4 (y := mq28) hown4 hml (ww hw 105 rfl) (ww hw 106 rfl) (ww hw 108 rfl) (ww hw 107 rfl) (gbi l Z a0 hw [] b1 x tt10 kt10 NN10 ((0 : Int32) + (12 : Int32)) ([] ++ [(.int (85 : Int32)), (.int (115 : Int32)), (.int (101 : Int32)), (.int (114 : Int32)), (.int (40 : Int32)), (.int (117 : Int32)), (.int (115 : Int32)), (.int (101 : Int32)), (.int (114 : Int32)), (.int (73 : Int32)), (.int (100 : Int32)), (.int (61 : Int32))]) wO wT kO kT iC vF T10.heap n0 O10 ln10 bd10 (by decide) g_b1 g_tt10 eq10 cq10 fq10 nq10 xq10 vq10 WW) (ww hw 109 rfl) (ww hw 40 rfl) e20 eq10 [(.int x)] [] (lenOf pd__I_Ljava_lang_StringBuilder_ rfl) (D d5_16) ?_
  rintro T21 L21 M21 _ X21 uu21 ⟨cn21, ln21, rfl, Nq21, kq21, eq21, cq21, nq21, tt21, kt21, NN21, dz21, fq21, xq21, vq21, bd21⟩
  have N21 := uu21 Nq21
  have ft22 := (Nat.lt_of_lt_of_le ft17 kq10.1)
  have ne_a1_tt21 : a1 ≠ tt21 := own_dn dz21 ne_a1_tt10 ft22
  have ft23 := (Nat.lt_of_lt_of_le ft18 kq10.1)
  have ne_b1_tt21 : b1 ≠ tt21 := own_dn dz21 ne_b1_tt10 ft23
  have ft24 := (Nat.lt_of_lt_of_le lt_b4 kq10.1)
  have ne_b4_tt21 : b4 ≠ tt21 := own_dn dz21 ne_b4_tt10 ft24
  have ft25 := (Nat.lt_of_lt_of_le lt_t4 kq10.1)
  have ne_t4_tt21 : t4 ≠ tt21 := own_dn dz21 ne_t4_tt10 ft25
  have ne_wO_tt21 : wO ≠ tt21 := own_dn dz21 ne_wO_tt10 (Nat.lt_of_lt_of_le lt_wO O10.2.1)
  have ne_wT_tt21 : wT ≠ tt21 := own_dn dz21 ne_wT_tt10 (Nat.lt_of_lt_of_le lt_wT O10.2.1)
  have g_tt21 : n0 ≤ tt21 := own_dt dz21 g_tt10 (O10.1 ▸ O10.2.1)
  have sz_tt21 : h0.size ≤ tt21 := own_dt dz21 sz_tt10 K10.1
  have ft26 := (Safe.keep kq10 (sfS sf8 (sfS sf9 sf0)) CR4.1 sn_tt10)
  have sn_tt21 : Safe Z EL T4.vm T10.heap tt21 := dz21.elim (fun q => by rw [q]; exact ft26) Safe.new
  have O21 : Old Z n0 T21.heap := O10.keep kq21 (allS g_b1 (allS g_tt10 all0))
  have ft27 := (Safe.keep kq10 (sfS sf8 (sfS sf9 sf0)) CR4.1 sf8)
  have CR21 : CHr Z EL s.vm h0 T4.vm T21.heap := CR10.trans (CHr.keep kq21 (sfS ft27 (sfS ft26 sf0)) CR10.1)
  have K21 : Keep h0 T21.heap [] := K10.trans kq21 (allS (Or.inr sz_b1) (allS (Or.inr sz_tt10) all0))
  have lt_tt21 := vq21.lt
  refine zsk [(.ref b1)] ?_
  have ft29 := (Nat.le_trans (Nat.le_trans hk4 kq10.1) kq21.1)
  obtain ⟨b28, T28, h28, k128, t28, kt28, X28, e28, E28, hS28, hk28, hZ28, hown28, A28, cq28, fq28, vq28, lt_b28, lt_t28, crw28, -, sfx28, st28⟩ := ldcCH (EL := EL) X21 hx hZ4 hown4 (ww hw 127 rfl) wS rfl hS4 ft29 hEL (List.mem_of_getElem? (i := 1) rfl) CR21.1 (vs := [(.int (44 : Int32)), (.int (32 : Int32)), (.int (117 : Int32)), (.int (115 : Int32)), (.int (101 : Int32)), (.int (114 : Int32)), (.int (78 : Int32)), (.int (97 : Int32)), (.int (109 : Int32)), (.int (101 : Int32)), (.int (61 : Int32))]) (z := (11 : Int32)) ⟨by decide, by decide⟩ (by decide) rfl (g := (mkF m 19 #[rv a1] [(.ref b1)])) rfl (D d5_19) (n := 44) (by decide) (by decide) (by decide) (by decide)
  have ft30 := (Safe.keep kq21 (sfS ft27 (sfS ft26 sf0)) CR10.1 ft27)
  have ft31 := (Nat.lt_of_lt_of_le ft23 kq21.1)
  have ft32 := (Safe.keep kq21 (sfS ft27 (sfS ft26 sf0)) CR10.1 (Safe.keep kq10 (sfS sf8 (sfS sf9 sf0)) CR4.1 sf9))
  have ft33 := (Nat.lt_of_lt_of_le (Nat.lt_of_lt_of_le (Nat.lt_of_lt_of_le lt_tt2 E4.1) kq10.1) kq21.1)
  have ft34 := (Safe.keep kq21 (sfS ft27 (sfS ft26 sf0)) CR10.1 ft26)
  have ft35 := (Nat.lt_of_lt_of_le lt_tt10 kq21.1)
  have ft36 := (Safe.keep kq21 (sfS ft27 (sfS ft26 sf0)) CR10.1 sn_tt21)
  have O28 : Old Z n0 h28 := O21.ext E28
  have K28 : Keep h0 h28 [] := K21.ext E28
  have sf37 := crw28.safe ft31 ft30
  have sf38 := crw28.safe ft33 ft32
  have sf39 := crw28.safe ft35 ft34
  have sf40 := crw28.safe lt_tt21 ft36
  have CR28 := CR21.trans crw28
  refine zst 21 #[rv a1] [(.ref b28), (.ref b1)] st28 ?_
  have ft42 := (eq21.ext E28)
  have ft43 := (cq21.ext E28)
  have ft44 := (fq21.ext E28)
  have ft45 := (nq21.ext E28)
  have ft46 := (xq21.ext E28)
  have ft47 := (vq21.ext E28)
  refine gV 24 0 9 720 X28 N21 hx hZ28 (y := mq23) hown28 hml (ww hw 57 rfl) (ww hw 58 rfl) (ww hw 60 rfl) (ww hw 59 rfl) (gbs l Z a0 hw [] b1 b28 t28 kt28 (11 : Int32) [(.int (44 : Int32)), (.int (32 : Int32)), (.int (117 : Int32)), (.int (115 : Int32)), (.int (101 : Int32)), (.int (114 : Int32)), (.int (78 : Int32)), (.int (97 : Int32)), (.int (109 : Int32)), (.int (101 : Int32)), (.int (61 : Int32))] tt21 kt21 NN21 cn21 (([] ++ [(.int (85 : Int32)), (.int (115 : Int32)), (.int (101 : Int32)), (.int (114 : Int32)), (.int (40 : Int32)), (.int (117 : Int32)), (.int (115 : Int32)), (.int (101 : Int32)), (.int (114 : Int32)), (.int (73 : Int32)), (.int (100 : Int32)), (.int (61 : Int32))]) ++ dsL x) wO wT kO kT iC vF h28 n0 O28 ln21 bd21 lk1 (by simp only [List.length_append, List.length_cons, List.length_nil]; omega) g_b1 g_tt21 ft42 ft43 ft44 ft45 A28 cq28 fq28 vq28 ft46 ft47 WW) (ww hw 61 rfl) (ww hw 40 rfl) e28 ft42 [(.ref b28)] [] (lenOf pd__Ljava_lang_String__Ljava_lang_StringBuilder_ rfl) (D d5_21) ?_
  rintro T41 L41 M41 _ X41 uu41 ⟨rfl, Nq41, kq41, eq41, cq41, nq41, tt41, kt41, NN41, dz41, fq41, xq41, vq41, bd41⟩
  have N41 := uu41 Nq41
  have ft48 := (Nat.lt_of_lt_of_le (Nat.lt_of_lt_of_le ft22 kq21.1) E28.1)
  have ne_a1_tt41 : a1 ≠ tt41 := own_dn dz41 ne_a1_tt21 ft48
  have ft49 := (Nat.lt_of_lt_of_le ft31 E28.1)
  have ne_b1_tt41 : b1 ≠ tt41 := own_dn dz41 ne_b1_tt21 ft49
  have ft50 := (Nat.lt_of_lt_of_le (Nat.lt_of_lt_of_le ft24 kq21.1) E28.1)
  have ne_b4_tt41 : b4 ≠ tt41 := own_dn dz41 ne_b4_tt21 ft50
  have ft51 := (Nat.lt_of_lt_of_le (Nat.lt_of_lt_of_le ft25 kq21.1) E28.1)
  have ne_t4_tt41 : t4 ≠ tt41 := own_dn dz41 ne_t4_tt21 ft51
  have ne_b28_tt41 : b28 ≠ tt41 := own_dn dz41 (Ne.symm (sfx28 _ sf40).1) lt_b28
  have ne_t28_tt41 : t28 ≠ tt41 := own_dn dz41 (Ne.symm (sfx28 _ sf40).2) lt_t28
  have ne_wO_tt41 : wO ≠ tt41 := own_dn dz41 ne_wO_tt21 (Nat.lt_of_lt_of_le lt_wO O28.2.1)
  have ne_wT_tt41 : wT ≠ tt41 := own_dn dz41 ne_wT_tt21 (Nat.lt_of_lt_of_le lt_wT O28.2.1)
  have g_tt41 : n0 ≤ tt41 := own_dt dz41 g_tt21 (O28.1 ▸ O28.2.1)
  have sz_tt41 : h0.size ≤ tt41 := own_dt dz41 sz_tt21 K28.1
  have sn_tt41 : Safe Z EL T28.vm h28 tt41 := dz41.elim (fun q => by rw [q]; exact sf40) Safe.new
  have O41 : Old Z n0 T41.heap := O28.keep kq41 (allS g_b1 (allS g_tt21 all0))
  have CR41 : CHr Z EL s.vm h0 T28.vm T41.heap := CR28.trans (CHr.keep kq41 (sfS sf37 (sfS sf40 sf0)) CR28.1)
  have K41 : Keep h0 T41.heap [] := K28.trans kq41 (allS (Or.inr sz_b1) (allS (Or.inr sz_tt21) all0))
  have lt_tt41 := vq41.lt
  have ln41 := own_la ln21 lk1 (by simp only [List.length_append, List.length_cons, List.length_nil]; omega)
  refine zsk [(.ref b1)] ?_
  refine zan 25 X41 hx (D d5_24) rfl rfl ?_
  have ft52 := (((((((F_a1_userName.ext E1).keep kq2 (ninS ne_a1_b1 nin0)).ext E4).keep kq10 (ninS ne_a1_b1 (ninS ne_a1_tt2 nin0))).keep kq21 (ninS ne_a1_b1 (ninS ne_a1_tt10 nin0))).ext E28).keep kq41 (ninS ne_a1_b1 (ninS ne_a1_tt21 nin0)))
  refine zgf 28 X41 hx hZ28 hown28 (host := "") (Or.inl (ww hw 31 rfl)) Via.refl rfl ft52 (D d5_25) fun T53 X53 e53 => ?_
  refine gV 31 0 10 920 X53 N41 hx hZ28 (y := mq23) hown28 hml (ww hw 57 rfl) (ww hw 58 rfl) (ww hw 60 rfl) (ww hw 59 rfl) (gbN l Z a0 hw [] b1 tt41 kt41 NN41 (cn21 + (11 : Int32)) ((([] ++ [(.int (85 : Int32)), (.int (115 : Int32)), (.int (101 : Int32)), (.int (114 : Int32)), (.int (40 : Int32)), (.int (117 : Int32)), (.int (115 : Int32)), (.int (101 : Int32)), (.int (114 : Int32)), (.int (73 : Int32)), (.int (100 : Int32)), (.int (61 : Int32))]) ++ dsL x) ++ [(.int (44 : Int32)), (.int (32 : Int32)), (.int (117 : Int32)), (.int (115 : Int32)), (.int (101 : Int32)), (.int (114 : Int32)), (.int (78 : Int32)), (.int (97 : Int32)), (.int (109 : Int32)), (.int (101 : Int32)), (.int (61 : Int32))]) wO wT kO kT iC vF T41.heap n0 O41 ln41 bd41 (by simp only [List.length_append, List.length_cons, List.length_nil]; omega) g_b1 g_tt41 eq41 cq41 fq41 nq41 xq41 vq41 WW) (ww hw 61 rfl) (ww hw 40 rfl) e53 eq41 [.null] [] (lenOf pd__Ljava_lang_String__Ljava_lang_StringBuilder_ rfl) (D d5_28) ?_
  rintro T54 L54 M54 _ X54 uu54 ⟨rfl, Nq54, kq54, eq54, cq54, nq54, tt54, kt54, NN54, dz54, fq54, xq54, vq54, bd54⟩
  have N54 := uu54 Nq54
  have ft55 := (Nat.lt_of_lt_of_le ft48 kq41.1)
  have ne_a1_tt54 : a1 ≠ tt54 := own_dn dz54 ne_a1_tt41 ft55
  have ft56 := (Nat.lt_of_lt_of_le ft49 kq41.1)
  have ne_b1_tt54 : b1 ≠ tt54 := own_dn dz54 ne_b1_tt41 ft56
  have ft57 := (Nat.lt_of_lt_of_le ft50 kq41.1)
  have ne_b4_tt54 : b4 ≠ tt54 := own_dn dz54 ne_b4_tt41 ft57
  have ft58 := (Nat.lt_of_lt_of_le ft51 kq41.1)
  have ne_t4_tt54 : t4 ≠ tt54 := own_dn dz54 ne_t4_tt41 ft58
  have ft59 := (Nat.lt_of_lt_of_le lt_b28 kq41.1)
  have ne_b28_tt54 : b28 ≠ tt54 := own_dn dz54 ne_b28_tt41 ft59
  have ft60 := (Nat.lt_of_lt_of_le lt_t28 kq41.1)
  have ne_t28_tt54 : t28 ≠ tt54 := own_dn dz54 ne_t28_tt41 ft60
  have ne_wO_tt54 : wO ≠ tt54 := own_dn dz54 ne_wO_tt41 (Nat.lt_of_lt_of_le lt_wO O41.2.1)
  have ne_wT_tt54 : wT ≠ tt54 := own_dn dz54 ne_wT_tt41 (Nat.lt_of_lt_of_le lt_wT O41.2.1)
  have g_tt54 : n0 ≤ tt54 := own_dt dz54 g_tt41 (O41.1 ▸ O41.2.1)
  have sz_tt54 : h0.size ≤ tt54 := own_dt dz54 sz_tt41 K41.1
  have ft61 := (Safe.keep kq41 (sfS sf37 (sfS sf40 sf0)) CR28.1 sn_tt41)
  have sn_tt54 : Safe Z EL T28.vm T41.heap tt54 := dz54.elim (fun q => by rw [q]; exact ft61) Safe.new
  have O54 : Old Z n0 T54.heap := O41.keep kq54 (allS g_b1 (allS g_tt41 all0))
  have ft62 := (Safe.keep kq41 (sfS sf37 (sfS sf40 sf0)) CR28.1 sf37)
  have CR54 : CHr Z EL s.vm h0 T28.vm T54.heap := CR41.trans (CHr.keep kq54 (sfS ft62 (sfS ft61 sf0)) CR41.1)
  have K54 : Keep h0 T54.heap [] := K41.trans kq54 (allS (Or.inr sz_b1) (allS (Or.inr sz_tt41) all0))
  have lt_tt54 := vq54.lt
  have ln54 := own_l4 ln41 (by simp only [List.length_append, List.length_cons, List.length_nil]; omega)
  refine zsk [(.ref b1)] ?_
  have ft64 := (Nat.le_trans (Nat.le_trans hk28 kq41.1) kq54.1)
  obtain ⟨b63, T63, h63, k163, t63, kt63, X63, e63, E63, hS63, hk63, hZ63, hown63, A63, cq63, fq63, vq63, lt_b63, lt_t63, crw63, -, sfx63, st63⟩ := ldcCH (EL := EL) X54 hx hZ28 hown28 (ww hw 156 rfl) wS rfl hS28 ft64 hEL (List.mem_of_getElem? (i := 2) rfl) CR54.1 (vs := [(.int (41 : Int32))]) (z := (1 : Int32)) ⟨by decide, by decide⟩ (by decide) rfl (g := (mkF m 31 #[rv a1] [(.ref b1)])) rfl (D d5_31) (n := 4) (by decide) (by decide) (by decide) (by decide)
  have ft65 := (Safe.keep kq54 (sfS ft62 (sfS ft61 sf0)) CR41.1 ft62)
  have ft66 := (Nat.lt_of_lt_of_le ft56 kq54.1)
  have ft67 := (Safe.keep kq54 (sfS ft62 (sfS ft61 sf0)) CR41.1 (Safe.keep kq41 (sfS sf37 (sfS sf40 sf0)) CR28.1 sf38))
  have ft68 := (Nat.lt_of_lt_of_le (Nat.lt_of_lt_of_le (Nat.lt_of_lt_of_le ft33 E28.1) kq41.1) kq54.1)
  have ft69 := (Safe.keep kq54 (sfS ft62 (sfS ft61 sf0)) CR41.1 (Safe.keep kq41 (sfS sf37 (sfS sf40 sf0)) CR28.1 sf39))
  have ft70 := (Nat.lt_of_lt_of_le (Nat.lt_of_lt_of_le (Nat.lt_of_lt_of_le ft35 E28.1) kq41.1) kq54.1)
  have ft71 := (Safe.keep kq54 (sfS ft62 (sfS ft61 sf0)) CR41.1 (Safe.keep kq41 (sfS sf37 (sfS sf40 sf0)) CR28.1 sf40))
  have ft72 := (Nat.lt_of_lt_of_le (Nat.lt_of_lt_of_le (Nat.lt_of_lt_of_le lt_tt21 E28.1) kq41.1) kq54.1)
  have ft73 := (Safe.keep kq54 (sfS ft62 (sfS ft61 sf0)) CR41.1 ft61)
  have ft74 := (Nat.lt_of_lt_of_le lt_tt41 kq54.1)
  have ft75 := (Safe.keep kq54 (sfS ft62 (sfS ft61 sf0)) CR41.1 sn_tt54)
  have O63 : Old Z n0 h63 := O54.ext E63
  have K63 : Keep h0 h63 [] := K54.ext E63
  have sf76 := crw63.safe ft66 ft65
  have sf77 := crw63.safe ft68 ft67
  have sf78 := crw63.safe ft70 ft69
  have sf79 := crw63.safe ft72 ft71
  have sf80 := crw63.safe ft74 ft73
  have sf81 := crw63.safe lt_tt54 ft75
  have CR63 := CR54.trans crw63
  refine zst 33 #[rv a1] [(.ref b63), (.ref b1)] st63 ?_
  have ft83 := (eq54.ext E63)
  have ft84 := (cq54.ext E63)
  have ft85 := (fq54.ext E63)
  have ft86 := (nq54.ext E63)
  have ft87 := (xq54.ext E63)
  have ft88 := (vq54.ext E63)
  refine gV 36 0 13 1128 X63 N54 hx hZ63 (y := mq23) hown63 hml (ww hw 57 rfl) (ww hw 58 rfl) (ww hw 60 rfl) (ww hw 59 rfl) (gbs l Z a0 hw [] b1 b63 t63 kt63 (1 : Int32) [(.int (41 : Int32))] tt54 kt54 NN54 (((((cn21 + (11 : Int32)) + (1 : Int32)) + (1 : Int32)) + (1 : Int32)) + (1 : Int32)) (((([] ++ [(.int (85 : Int32)), (.int (115 : Int32)), (.int (101 : Int32)), (.int (114 : Int32)), (.int (40 : Int32)), (.int (117 : Int32)), (.int (115 : Int32)), (.int (101 : Int32)), (.int (114 : Int32)), (.int (73 : Int32)), (.int (100 : Int32)), (.int (61 : Int32))]) ++ dsL x) ++ [(.int (44 : Int32)), (.int (32 : Int32)), (.int (117 : Int32)), (.int (115 : Int32)), (.int (101 : Int32)), (.int (114 : Int32)), (.int (78 : Int32)), (.int (97 : Int32)), (.int (109 : Int32)), (.int (101 : Int32)), (.int (61 : Int32))]) ++ [(.int (110 : Int32)), (.int (117 : Int32)), (.int (108 : Int32)), (.int (108 : Int32))]) wO wT kO kT iC vF h63 n0 O63 ln54 bd54 lk2 (by simp only [List.length_append, List.length_cons, List.length_nil]; omega) g_b1 g_tt54 ft83 ft84 ft85 ft86 A63 cq63 fq63 vq63 ft87 ft88 WW) (ww hw 61 rfl) (ww hw 40 rfl) e63 ft83 [(.ref b63)] [] (lenOf pd__Ljava_lang_String__Ljava_lang_StringBuilder_ rfl) (D d5_33) ?_
  rintro T82 L82 M82 _ X82 uu82 ⟨rfl, Nq82, kq82, eq82, cq82, nq82, tt82, kt82, NN82, dz82, fq82, xq82, vq82, bd82⟩
  have N82 := uu82 Nq82
  have ft89 := (Nat.lt_of_lt_of_le (Nat.lt_of_lt_of_le ft55 kq54.1) E63.1)
  have ne_a1_tt82 : a1 ≠ tt82 := own_dn dz82 ne_a1_tt54 ft89
  have ft90 := (Nat.lt_of_lt_of_le ft66 E63.1)
  have ne_b1_tt82 : b1 ≠ tt82 := own_dn dz82 ne_b1_tt54 ft90
  have ft91 := (Nat.lt_of_lt_of_le (Nat.lt_of_lt_of_le ft57 kq54.1) E63.1)
  have ne_b4_tt82 : b4 ≠ tt82 := own_dn dz82 ne_b4_tt54 ft91
  have ft92 := (Nat.lt_of_lt_of_le (Nat.lt_of_lt_of_le ft58 kq54.1) E63.1)
  have ne_t4_tt82 : t4 ≠ tt82 := own_dn dz82 ne_t4_tt54 ft92
  have ft93 := (Nat.lt_of_lt_of_le (Nat.lt_of_lt_of_le ft59 kq54.1) E63.1)
  have ne_b28_tt82 : b28 ≠ tt82 := own_dn dz82 ne_b28_tt54 ft93
  have ft94 := (Nat.lt_of_lt_of_le (Nat.lt_of_lt_of_le ft60 kq54.1) E63.1)
  have ne_t28_tt82 : t28 ≠ tt82 := own_dn dz82 ne_t28_tt54 ft94
  have ne_b63_tt82 : b63 ≠ tt82 := own_dn dz82 (Ne.symm (sfx63 _ sf81).1) lt_b63
  have ne_t63_tt82 : t63 ≠ tt82 := own_dn dz82 (Ne.symm (sfx63 _ sf81).2) lt_t63
  have ne_wO_tt82 : wO ≠ tt82 := own_dn dz82 ne_wO_tt54 (Nat.lt_of_lt_of_le lt_wO O63.2.1)
  have ne_wT_tt82 : wT ≠ tt82 := own_dn dz82 ne_wT_tt54 (Nat.lt_of_lt_of_le lt_wT O63.2.1)
  have g_tt82 : n0 ≤ tt82 := own_dt dz82 g_tt54 (O63.1 ▸ O63.2.1)
  have sz_tt82 : h0.size ≤ tt82 := own_dt dz82 sz_tt54 K63.1
  have sn_tt82 : Safe Z EL T63.vm h63 tt82 := dz82.elim (fun q => by rw [q]; exact sf81) Safe.new
  have O82 : Old Z n0 T82.heap := O63.keep kq82 (allS g_b1 (allS g_tt54 all0))
  have CR82 : CHr Z EL s.vm h0 T63.vm T82.heap := CR63.trans (CHr.keep kq82 (sfS sf76 (sfS sf81 sf0)) CR63.1)
  have K82 : Keep h0 T82.heap [] := K63.trans kq82 (allS (Or.inr sz_b1) (allS (Or.inr sz_tt54) all0))
  have lt_tt82 := vq82.lt
  have ln82 := own_la ln54 lk2 (by simp only [List.length_append, List.length_cons, List.length_nil]; omega)
  refine zsk [(.ref b1)] ?_
  refine gV 39 0 15 1332 X82 N82 hx hZ63 (y := mq39) hown63 hml (ww hw 157 rfl) (ww hw 158 rfl) (ww hw 160 rfl) (ww hw 159 rfl) (gt3 l Z a0 hw [] b1 tt82 kt82 NN82 ((((((cn21 + (11 : Int32)) + (1 : Int32)) + (1 : Int32)) + (1 : Int32)) + (1 : Int32)) + (1 : Int32)) ((((([] ++ [(.int (85 : Int32)), (.int (115 : Int32)), (.int (101 : Int32)), (.int (114 : Int32)), (.int (40 : Int32)), (.int (117 : Int32)), (.int (115 : Int32)), (.int (101 : Int32)), (.int (114 : Int32)), (.int (73 : Int32)), (.int (100 : Int32)), (.int (61 : Int32))]) ++ dsL x) ++ [(.int (44 : Int32)), (.int (32 : Int32)), (.int (117 : Int32)), (.int (115 : Int32)), (.int (101 : Int32)), (.int (114 : Int32)), (.int (78 : Int32)), (.int (97 : Int32)), (.int (109 : Int32)), (.int (101 : Int32)), (.int (61 : Int32))]) ++ [(.int (110 : Int32)), (.int (117 : Int32)), (.int (108 : Int32)), (.int (108 : Int32))]) ++ [(.int (41 : Int32))]) wO wT kO kT iC vF T82.heap n0 O82 ln82 bd82 (by simp only [List.length_append, List.length_cons, List.length_nil]; omega) eq82 cq82 fq82 nq82 xq82 vq82 WW) (ww hw 161 rfl) (ww hw 40 rfl) rfl eq82 [] [] (lenOf pd___Ljava_lang_String_ rfl) (D d5_36) ?_
  rintro T95 L95 M95 _ X95 uu95 ⟨b95, rfl, Nq95, zb95, kq95, eq95, cq95, tt95, kt95, zq95, fq95, vq95⟩
  have N95 := uu95 Nq95
  have ft96 := (Nat.lt_of_lt_of_le ft89 kq82.1)
  have ne_a1_b95 : a1 ≠ b95 := Nat.ne_of_lt (Nat.lt_of_lt_of_le ft96 zb95)
  have ft97 := (Nat.lt_of_lt_of_le ft90 kq82.1)
  have ne_b1_b95 : b1 ≠ b95 := Nat.ne_of_lt (Nat.lt_of_lt_of_le ft97 zb95)
  have ft98 := (Nat.lt_of_lt_of_le (Nat.lt_of_lt_of_le ft68 E63.1) kq82.1)
  have ne_tt2_b95 : tt2 ≠ b95 := Nat.ne_of_lt (Nat.lt_of_lt_of_le ft98 zb95)
  have ft99 := (Nat.lt_of_lt_of_le ft91 kq82.1)
  have ne_b4_b95 : b4 ≠ b95 := Nat.ne_of_lt (Nat.lt_of_lt_of_le ft99 zb95)
  have ft100 := (Nat.lt_of_lt_of_le ft92 kq82.1)
  have ne_t4_b95 : t4 ≠ b95 := Nat.ne_of_lt (Nat.lt_of_lt_of_le ft100 zb95)
  have ft101 := (Nat.lt_of_lt_of_le (Nat.lt_of_lt_of_le ft70 E63.1) kq82.1)
  have ne_tt10_b95 : tt10 ≠ b95 := Nat.ne_of_lt (Nat.lt_of_lt_of_le ft101 zb95)
  have ft102 := (Nat.lt_of_lt_of_le (Nat.lt_of_lt_of_le ft72 E63.1) kq82.1)
  have ne_tt21_b95 : tt21 ≠ b95 := Nat.ne_of_lt (Nat.lt_of_lt_of_le ft102 zb95)
  have ft103 := (Nat.lt_of_lt_of_le ft93 kq82.1)
  have ne_b28_b95 : b28 ≠ b95 := Nat.ne_of_lt (Nat.lt_of_lt_of_le ft103 zb95)
  have ft104 := (Nat.lt_of_lt_of_le ft94 kq82.1)
  have ne_t28_b95 : t28 ≠ b95 := Nat.ne_of_lt (Nat.lt_of_lt_of_le ft104 zb95)
  have ft105 := (Nat.lt_of_lt_of_le (Nat.lt_of_lt_of_le ft74 E63.1) kq82.1)
  have ne_tt41_b95 : tt41 ≠ b95 := Nat.ne_of_lt (Nat.lt_of_lt_of_le ft105 zb95)
  have ft106 := (Nat.lt_of_lt_of_le (Nat.lt_of_lt_of_le lt_tt54 E63.1) kq82.1)
  have ne_tt54_b95 : tt54 ≠ b95 := Nat.ne_of_lt (Nat.lt_of_lt_of_le ft106 zb95)
  have ft107 := (Nat.lt_of_lt_of_le lt_b63 kq82.1)
  have ne_b63_b95 : b63 ≠ b95 := Nat.ne_of_lt (Nat.lt_of_lt_of_le ft107 zb95)
  have ft108 := (Nat.lt_of_lt_of_le lt_t63 kq82.1)
  have ne_t63_b95 : t63 ≠ b95 := Nat.ne_of_lt (Nat.lt_of_lt_of_le ft108 zb95)
  have ne_tt82_b95 : tt82 ≠ b95 := Nat.ne_of_lt (Nat.lt_of_lt_of_le lt_tt82 zb95)
  have ne_wO_b95 : wO ≠ b95 := Nat.ne_of_lt (Nat.lt_of_lt_of_le lt_wO (Nat.le_trans O82.2.1 zb95))
  have ne_wT_b95 : wT ≠ b95 := Nat.ne_of_lt (Nat.lt_of_lt_of_le lt_wT (Nat.le_trans O82.2.1 zb95))
  have g_b95 : n0 ≤ b95 := Nat.le_trans (O82.1 ▸ O82.2.1) zb95
  have sz_b95 : h0.size ≤ b95 := Nat.le_trans K82.1 zb95
  have sn_b95 : Safe Z EL T63.vm T82.heap b95 := Safe.new zb95
  have ne_a1_tt95 : a1 ≠ tt95 := Nat.ne_of_lt (Nat.lt_of_lt_of_le ft96 zq95)
  have ne_b1_tt95 : b1 ≠ tt95 := Nat.ne_of_lt (Nat.lt_of_lt_of_le ft97 zq95)
  have ne_tt2_tt95 : tt2 ≠ tt95 := Nat.ne_of_lt (Nat.lt_of_lt_of_le ft98 zq95)
  have ne_b4_tt95 : b4 ≠ tt95 := Nat.ne_of_lt (Nat.lt_of_lt_of_le ft99 zq95)
  have ne_t4_tt95 : t4 ≠ tt95 := Nat.ne_of_lt (Nat.lt_of_lt_of_le ft100 zq95)
  have ne_tt10_tt95 : tt10 ≠ tt95 := Nat.ne_of_lt (Nat.lt_of_lt_of_le ft101 zq95)
  have ne_tt21_tt95 : tt21 ≠ tt95 := Nat.ne_of_lt (Nat.lt_of_lt_of_le ft102 zq95)
  have ne_b28_tt95 : b28 ≠ tt95 := Nat.ne_of_lt (Nat.lt_of_lt_of_le ft103 zq95)
  have ne_t28_tt95 : t28 ≠ tt95 := Nat.ne_of_lt (Nat.lt_of_lt_of_le ft104 zq95)
  have ne_tt41_tt95 : tt41 ≠ tt95 := Nat.ne_of_lt (Nat.lt_of_lt_of_le ft105 zq95)
  have ne_tt54_tt95 : tt54 ≠ tt95 := Nat.ne_of_lt (Nat.lt_of_lt_of_le ft106 zq95)
  have ne_b63_tt95 : b63 ≠ tt95 := Nat.ne_of_lt (Nat.lt_of_lt_of_le ft107 zq95)
  have ne_t63_tt95 : t63 ≠ tt95 := Nat.ne_of_lt (Nat.lt_of_lt_of_le ft108 zq95)
  have ne_tt82_tt95 : tt82 ≠ tt95 := Nat.ne_of_lt (Nat.lt_of_lt_of_le lt_tt82 zq95)
  have ne_wO_tt95 : wO ≠ tt95 := Nat.ne_of_lt (Nat.lt_of_lt_of_le lt_wO (Nat.le_trans O82.2.1 zq95))
  have ne_wT_tt95 : wT ≠ tt95 := Nat.ne_of_lt (Nat.lt_of_lt_of_le lt_wT (Nat.le_trans O82.2.1 zq95))
  have g_tt95 : n0 ≤ tt95 := Nat.le_trans (O82.1 ▸ O82.2.1) zq95
  have sz_tt95 : h0.size ≤ tt95 := Nat.le_trans K82.1 zq95
  have sn_tt95 : Safe Z EL T63.vm T82.heap tt95 := Safe.new zq95
  have O95 : Old Z n0 T95.heap := O82.keep kq95 all0
  have CR95 : CHr Z EL s.vm h0 T63.vm T95.heap := CR82.trans (CHr.keep kq95 sf0 CR82.1)
  have K95 : Keep h0 T95.heap [] := K82.trans kq95 all0
  have lt_b95 := eq95.lt
  have lt_tt95 := vq95.lt
  refine zsk [(.ref b95)] ?_
  have ft109 := (Nat.le_trans (Nat.le_trans hk63 kq82.1) kq95.1)
  refine GoW.retV X95 hlk hx (t := (.object "java/lang/String")) hret rfl (Or.inr (Or.inr (Or.inr (Or.inr ⟨rfl, rfl, rfl⟩)))) (D d5_39) rfl hS63 ft109 hZ63 hEL CR95 hh ?_ (by decide) (by decide)
  exact ⟨b95, tt95, kt95, ((((((cn21 + (11 : Int32)) + (1 : Int32)) + (1 : Int32)) + (1 : Int32)) + (1 : Int32)) + (1 : Int32)), rfl, N95, sz_b95, K95, eq95, cq95, fq95, vq95, ln82⟩
set_option maxRecDepth 65536 in
set_option maxHeartbeats 40000000 in
theorem rmT0 (l : Launch) (Z : State) (a0 : Array Value) (hw : ∀ d ∈ tables_1, d.before a0 Z = true) (ws : List Jvm.Cond) (a1 : Addr) (x : Int32) (m1 : Addr) (t1 : Addr) (k1 : ClassId) (n1 : Int32) (es1 : List Value) (wO : Addr) (wT : Addr) (kO : ClassId) (kT : ClassId) (iC : Int32) (vF : Value) (h0 : Heap) (n0 : Nat) (O0 : Old Z n0 h0) (l1 : Ln n1 es1) (z1 : es1.length ≤ 2) (E_a1 : Exa Z h0 a1 "com/example/wirecall/wirecall/demo/User") (F_a1_userId : Fld Z h0 a1 "com/example/wirecall/wirecall/demo/User" "userId" "I" (.int x)) (F_a1_userName : Fld Z h0 a1 "com/example/wirecall/wirecall/demo/User" "userName" "Ljava/lang/String;" (.ref m1)) (E_m1 : Exa Z h0 m1 "java/lang/String") (F_m1_coder : Fld Z h0 m1 "java/lang/String" "coder" "B" (.int 0)) (F_m1_value : Fld Z h0 m1 "java/lang/String" "value" "[B" (.ref t1)) (V_t1 : Arv Z h0 t1 k1 .byte n1 es1 (.int 0)) (WW : World1 Z wO wT kO kT iC vF) :
    ConW l Z EL mq47 prog_20_method_7_code 1 (some (.object "java/lang/String")) ws ({ frames := 6, cells := 15, slots := 1332, locals := 93 } : Room) #[(.ref a1)] h0 (fun v h L => ∃ (b t : Addr) (kt : ClassId) (n : Int32), v = some (.ref b) ∧ Fr n0 L ∧ h0.size ≤ b ∧ Keep h0 h [] ∧ Exa Z h b "java/lang/String" ∧ Fld Z h b "java/lang/String" "coder" "B" (.int 0) ∧ Fld Z h b "java/lang/String" "value" "[B" (.ref t) ∧ Arv Z h t kt .byte n (RL x es1) (.int 0) ∧ Ln n (RL x es1)) := by
  refine own_bodyW (plainFor_of_name pn_com_example_wirecall_wirecall_demo_User) ?_
  intro p e s m below meth c s₁ hx hby hml hZ hown hnm hlk hret X0 e0 hh hS CR0
  have hEL := own_EL hw
  have wS := own_wS hw
  have N0 := Fr.nil n0
  have D := @hb _ _ hby
  have K0 : Keep h0 h0 [] := Keep.refl _ _
  refine Go.st (T' := s₁) (f' := (mkF m 0 #[rv a1] [])) (fun _ k => castTop (by first | (simp [entryFrame, mkF, argsToLocals, Value.category]; done) | rfl) k) ?_
  have ⟨S_iC, nz_iC, S_vF, r_vF, S_wO, E_wO, S_wT, E_wT, V_wO, V_wT⟩ := WW
  have lt_wO := E_wO.lt
  have lt_wT := E_wT.lt
  have lt_a1 := E_a1.lt
  have db := dsL_b x
  have lt_m1 := E_m1.lt
  have lt_t1 := V_t1.lt
  have nt_a1_t1 : a1 ≠ t1 := Exa.neArv E_a1 V_t1 (ww hw 23 rfl)
  have nt_m1_t1 : m1 ≠ t1 := Exa.neArv E_m1 V_t1 (ww hw 2 rfl)
  have lk0 : Ln (12 : Int32) [(Value.int (85 : Int32)), (Value.int (115 : Int32)), (Value.int (101 : Int32)), (Value.int (114 : Int32)), (Value.int (40 : Int32)), (Value.int (117 : Int32)), (Value.int (115 : Int32)), (Value.int (101 : Int32)), (Value.int (114 : Int32)), (Value.int (73 : Int32)), (Value.int (100 : Int32)), (Value.int (61 : Int32))] := ⟨by decide, by decide⟩
  have lk1 : Ln (11 : Int32) [(Value.int (44 : Int32)), (Value.int (32 : Int32)), (Value.int (117 : Int32)), (Value.int (115 : Int32)), (Value.int (101 : Int32)), (Value.int (114 : Int32)), (Value.int (78 : Int32)), (Value.int (97 : Int32)), (Value.int (109 : Int32)), (Value.int (101 : Int32)), (Value.int (61 : Int32))] := ⟨by decide, by decide⟩
  have lk2 : Ln (1 : Int32) [(Value.int (41 : Int32))] := ⟨by decide, by decide⟩
  obtain ⟨T1, h1, X1, e1, E1, A1, D1, -, st1⟩ := newO X0 hx hZ hown (ww hw 38 rfl) (ww hw 39 rfl) (ww hw 40 rfl) e0 (g := (mkF m 0 #[rv a1] [])) rfl (D d5_0) (by decide) (by decide)
  obtain ⟨b1, g1⟩ : ∃ z, z = h0.size := ⟨_, rfl⟩
  rw [← g1] at A1 D1 st1
  have ne_a1_b1 : a1 ≠ b1 := Nat.ne_of_lt (Nat.lt_of_lt_of_eq lt_a1 g1.symm)
  have ne_m1_b1 : m1 ≠ b1 := Nat.ne_of_lt (Nat.lt_of_lt_of_eq lt_m1 g1.symm)
  have ne_t1_b1 : t1 ≠ b1 := Nat.ne_of_lt (Nat.lt_of_lt_of_eq lt_t1 g1.symm)
  have ne_wO_b1 : wO ≠ b1 := Nat.ne_of_lt (Nat.lt_of_lt_of_le lt_wO (Nat.le_trans O0.2.1 (Nat.le_of_eq g1.symm)))
  have ne_wT_b1 : wT ≠ b1 := Nat.ne_of_lt (Nat.lt_of_lt_of_le lt_wT (Nat.le_trans O0.2.1 (Nat.le_of_eq g1.symm)))
  have g_b1 : n0 ≤ b1 := Nat.le_trans (O0.1 ▸ O0.2.1) (Nat.le_of_eq g1.symm)
  have O1 : Old Z n0 h1 := O0.ext E1
  have sz_b1 : h0.size ≤ b1 := Nat.le_trans K0.1 (Nat.le_of_eq g1.symm)
  have K1 : Keep h0 h1 [] := K0.ext E1
  have CR1 : CHr Z EL s.vm h0 s.vm h1 := CR0.trans (CHr.ext E1 CR0.1)
  have sf_b1 : Safe Z EL s.vm h1 b1 := (Safe.new (Nat.le_of_eq g1.symm)).ext E1 CR0.1
  have lt_b1 := A1.lt
  have F_value_b1 : Fld Z h1 b1 "java/lang/AbstractStringBuilder" "value" "[B" .null := D1 (Or.inl (ww hw 53 rfl)) (ty := (.array .byte)) (by decide)
  have F_coder_b1 : Fld Z h1 b1 "java/lang/AbstractStringBuilder" "coder" "B" (.int (0 : Int32)) := D1 (Or.inl (ww hw 55 rfl)) (ty := .byte) (by decide)
  have F_count_b1 : Fld Z h1 b1 "java/lang/AbstractStringBuilder" "count" "I" (.int (0 : Int32)) := D1 (Or.inl (ww hw 79 rfl)) (ty := .int) (by decide)
  refine zst 3 #[rv a1] [(.ref b1)] st1 ?_
  refine Go.st (f' := (mkF m 4 #[rv a1] [(.ref b1), (.ref b1)])) (fun _ k => XS.dup X1.here hx rfl (D d5_3) rfl rfl k) ?_
  obtain ⟨_, _, ⟨T2, L2, kk2, nn2⟩, -, X2, ⟨Lc2, hQ2, lq2, yq2, zz2⟩, st2⟩ := X1.specialBack hx (y := mq30) rfl hown (mvT hZ (ww hw 41 rfl)) (mvT hZ (ww hw 42 rfl)) (mvT hZ (ww hw 43 rfl)) (by decide) (own_back (W := 1) (gc2 l Z a0 hw [] b1 wO wT kO kT iC vF h1 n0 O1 g_b1 A1 F_coder_b1 F_value_b1 F_count_b1 WW) hZ (ww hw 43 rfl) (ww hw 40 rfl) (by decide) (by decide)) (g := (mkF m 4 #[rv a1] [(.ref b1), (.ref b1)])) rfl (by rw [hml]; rfl) (Steps.refl _) (a := b1) (argsL := []) (rest := [(.ref b1)]) (lenOf pd___V rfl) rfl (by show 2 * 0 + _ ≤ _; exact Nat.le_of_eq rfl) (D d5_4) (fun _ _ => ⟨rfl, e1, (by decide : 1 + 1 ≤ _), (by decide : 4 + 16 ≤ _)⟩)
  dsimp only [Pt.U, Pt.locs, Pt.cells, Pt.slots] at X2 lq2 yq2 zz2 st2 hQ2
  subst lq2 yq2 zz2
  obtain ⟨rfl, Nq2, kq2, eq2, cq2, nq2, tt2, kt2, zq2, fq2, xq2, vq2⟩ := hQ2
  have N2 := Fr.app N0 Nq2
  have ft3 := (Nat.lt_of_lt_of_le lt_a1 E1.1)
  have ne_a1_tt2 : a1 ≠ tt2 := Nat.ne_of_lt (Nat.lt_of_lt_of_le ft3 zq2)
  have ft4 := (Nat.lt_of_lt_of_le lt_m1 E1.1)
  have ne_m1_tt2 : m1 ≠ tt2 := Nat.ne_of_lt (Nat.lt_of_lt_of_le ft4 zq2)
  have ft5 := (Nat.lt_of_lt_of_le lt_t1 E1.1)
  have ne_t1_tt2 : t1 ≠ tt2 := Nat.ne_of_lt (Nat.lt_of_lt_of_le ft5 zq2)
  have ne_b1_tt2 : b1 ≠ tt2 := Nat.ne_of_lt (Nat.lt_of_lt_of_le lt_b1 zq2)
  have ne_wO_tt2 : wO ≠ tt2 := Nat.ne_of_lt (Nat.lt_of_lt_of_le lt_wO (Nat.le_trans O1.2.1 zq2))
  have ne_wT_tt2 : wT ≠ tt2 := Nat.ne_of_lt (Nat.lt_of_lt_of_le lt_wT (Nat.le_trans O1.2.1 zq2))
  have g_tt2 : n0 ≤ tt2 := Nat.le_trans (O1.1 ▸ O1.2.1) zq2
  have sz_tt2 : h0.size ≤ tt2 := Nat.le_trans K1.1 zq2
  have sn_tt2 : Safe Z EL s.vm h1 tt2 := Safe.new zq2
  have O2 : Old Z n0 T2.heap := O1.keep kq2 (allS g_b1 all0)
  have CR2 : CHr Z EL s.vm h0 s.vm T2.heap := CR1.trans (CHr.keep kq2 (sfS sf_b1 sf0) CR1.1)
  have K2 : Keep h0 T2.heap [] := K1.trans kq2 (allS (Or.inr sz_b1) all0)
  have lt_tt2 := vq2.lt
  have ln2 : Ln (0 : Int32) [] := ⟨by decide, by decide⟩
  have bd2 : Bd (0 : Int32) (16 : Int32) := ⟨by decide, by decide, by decide⟩
  refine Go.tr (f' := (mkF m 7 #[rv a1] [(.ref b1)])) st2 ?_
  obtain ⟨b6, T6, h6, k16, t6, kt6, X6, e6, E6, hS6, hk6, hZ6, hown6, A6, cq6, fq6, vq6, lt_b6, lt_t6, crw6, -, sfx6, st6⟩ := ldcCH (EL := EL) X2 hx hZ hown (ww hw 56 rfl) wS rfl hS (Nat.zero_le _) hEL (List.mem_of_getElem? (i := 0) rfl) CR2.1 (vs := [(.int (85 : Int32)), (.int (115 : Int32)), (.int (101 : Int32)), (.int (114 : Int32)), (.int (40 : Int32)), (.int (117 : Int32)), (.int (115 : Int32)), (.int (101 : Int32)), (.int (114 : Int32)), (.int (73 : Int32)), (.int (100 : Int32)), (.int (61 : Int32))]) (z := (12 : Int32)) ⟨by decide, by decide⟩ (by decide) rfl (g := (mkF m 7 #[rv a1] [(.ref b1)])) rfl (D d5_7) (n := 48) (by decide) (by decide) (by decide) (by decide)
  have ft7 := (Safe.keep kq2 (sfS sf_b1 sf0) CR1.1 sf_b1)
  have ft8 := (Nat.lt_of_lt_of_le lt_b1 kq2.1)
  have ft9 := (Safe.keep kq2 (sfS sf_b1 sf0) CR1.1 sn_tt2)
  have O6 : Old Z n0 h6 := O2.ext E6
  have K6 : Keep h0 h6 [] := K2.ext E6
  have sf10 := crw6.safe ft8 ft7
  have sf11 := crw6.safe lt_tt2 ft9
  have CR6 := CR2.trans crw6
  refine zst 9 #[rv a1] [(.ref b6), (.ref b1)] st6 ?_
  have ft13 := (eq2.ext E6)
  have ft14 := (cq2.ext E6)
  have ft15 := (fq2.ext E6)
  have ft16 := (nq2.ext E6)
  have ft17 := (xq2.ext E6)
  have ft18 := (vq2.ext E6)
  refine gV 12 0 5 272 X6 N2 hx hZ6 (y := mq23) hown6 hml (ww hw 57 rfl) (ww hw 58 rfl) (ww hw 60 rfl) (ww hw 59 rfl) (gbs l Z a0 hw [] b1 b6 t6 kt6 (12 : Int32) [(.int (85 : Int32)), (.int (115 : Int32)), (.int (101 : Int32)), (.int (114 : Int32)), (.int (40 : Int32)), (.int (117 : Int32)), (.int (115 : Int32)), (.int (101 : Int32)), (.int (114 : Int32)), (.int (73 : Int32)), (.int (100 : Int32)), (.int (61 : Int32))] tt2 kt2 (16 : Int32) (0 : Int32) [] wO wT kO kT iC vF h6 n0 O6 ln2 bd2 lk0 (by decide) g_b1 g_tt2 ft13 ft14 ft15 ft16 A6 cq6 fq6 vq6 ft17 ft18 WW) (ww hw 61 rfl) (ww hw 40 rfl) e6 ft13 [(.ref b6)] [] (lenOf pd__Ljava_lang_String__Ljava_lang_StringBuilder_ rfl) (D d5_9) ?_
  rintro T12 L12 M12 _ X12 uu12 ⟨rfl, Nq12, kq12, eq12, cq12, nq12, tt12, kt12, NN12, dz12, fq12, xq12, vq12, bd12⟩
  have N12 := uu12 Nq12
  have ft19 := (Nat.lt_of_lt_of_le (Nat.lt_of_lt_of_le ft3 kq2.1) E6.1)
  have ne_a1_tt12 : a1 ≠ tt12 := own_dn dz12 ne_a1_tt2 ft19
  have ft20 := (Nat.lt_of_lt_of_le (Nat.lt_of_lt_of_le ft4 kq2.1) E6.1)
  have ne_m1_tt12 : m1 ≠ tt12 := own_dn dz12 ne_m1_tt2 ft20
  have ft21 := (Nat.lt_of_lt_of_le (Nat.lt_of_lt_of_le ft5 kq2.1) E6.1)
  have ne_t1_tt12 : t1 ≠ tt12 := own_dn dz12 ne_t1_tt2 ft21
  have ft22 := (Nat.lt_of_lt_of_le ft8 E6.1)
  have ne_b1_tt12 : b1 ≠ tt12 := own_dn dz12 ne_b1_tt2 ft22
  have ne_b6_tt12 : b6 ≠ tt12 := own_dn dz12 (Ne.symm (sfx6 _ sf11).1) lt_b6
  have ne_t6_tt12 : t6 ≠ tt12 := own_dn dz12 (Ne.symm (sfx6 _ sf11).2) lt_t6
  have ne_wO_tt12 : wO ≠ tt12 := own_dn dz12 ne_wO_tt2 (Nat.lt_of_lt_of_le lt_wO O6.2.1)
  have ne_wT_tt12 : wT ≠ tt12 := own_dn dz12 ne_wT_tt2 (Nat.lt_of_lt_of_le lt_wT O6.2.1)
  have g_tt12 : n0 ≤ tt12 := own_dt dz12 g_tt2 (O6.1 ▸ O6.2.1)
  have sz_tt12 : h0.size ≤ tt12 := own_dt dz12 sz_tt2 K6.1
  have sn_tt12 : Safe Z EL T6.vm h6 tt12 := dz12.elim (fun q => by rw [q]; exact sf11) Safe.new
  have O12 : Old Z n0 T12.heap := O6.keep kq12 (allS g_b1 (allS g_tt2 all0))
  have CR12 : CHr Z EL s.vm h0 T6.vm T12.heap := CR6.trans (CHr.keep kq12 (sfS sf10 (sfS sf11 sf0)) CR6.1)
  have K12 : Keep h0 T12.heap [] := K6.trans kq12 (allS (Or.inr sz_b1) (allS (Or.inr sz_tt2) all0))
  have lt_tt12 := vq12.lt
  have ln12 := own_la ln2 lk0 (by decide)
  refine zsk [(.ref b1)] ?_
  refine zan 13 X12 hx (D d5_12) rfl rfl ?_
  have ft23 := ((((F_a1_userId.ext E1).keep kq2 (ninS ne_a1_b1 nin0)).ext E6).keep kq12 (ninS ne_a1_b1 (ninS ne_a1_tt2 nin0)))
  refine zgf 16 X12 hx hZ6 hown6 (host := "") (Or.inl (ww hw 29 rfl)) Via.refl rfl ft23 (D d5_13) fun T24 X24 e24 => ?_
  refine gV 19 0 6 472 X24 N12 hx hZ6 (y := mq28) hown6 hml (ww hw 105 rfl) (ww hw 106 rfl) (ww hw 108 rfl) (ww hw 107 rfl) (gbi l Z a0 hw [] b1 x tt12 kt12 NN12 ((0 : Int32) + (12 : Int32)) ([] ++ [(.int (85 : Int32)), (.int (115 : Int32)), (.int (101 : Int32)), (.int (114 : Int32)), (.int (40 : Int32)), (.int (117 : Int32)), (.int (115 : Int32)), (.int (101 : Int32)), (.int (114 : Int32)), (.int (73 : Int32)), (.int (100 : Int32)), (.int (61 : Int32))]) wO wT kO kT iC vF T12.heap n0 O12 ln12 bd12 (by decide) g_b1 g_tt12 eq12 cq12 fq12 nq12 xq12 vq12 WW) (ww hw 109 rfl) (ww hw 40 rfl) e24 eq12 [(.int x)] [] (lenOf pd__I_Ljava_lang_StringBuilder_ rfl) (D d5_16) ?_
  rintro T25 L25 M25 _ X25 uu25 ⟨cn25, ln25, rfl, Nq25, kq25, eq25, cq25, nq25, tt25, kt25, NN25, dz25, fq25, xq25, vq25, bd25⟩
  have N25 := uu25 Nq25
  have ft26 := (Nat.lt_of_lt_of_le ft19 kq12.1)
  have ne_a1_tt25 : a1 ≠ tt25 := own_dn dz25 ne_a1_tt12 ft26
  have ft27 := (Nat.lt_of_lt_of_le ft20 kq12.1)
  have ne_m1_tt25 : m1 ≠ tt25 := own_dn dz25 ne_m1_tt12 ft27
  have ft28 := (Nat.lt_of_lt_of_le ft21 kq12.1)
  have ne_t1_tt25 : t1 ≠ tt25 := own_dn dz25 ne_t1_tt12 ft28
  have ft29 := (Nat.lt_of_lt_of_le ft22 kq12.1)
  have ne_b1_tt25 : b1 ≠ tt25 := own_dn dz25 ne_b1_tt12 ft29
  have ft30 := (Nat.lt_of_lt_of_le lt_b6 kq12.1)
  have ne_b6_tt25 : b6 ≠ tt25 := own_dn dz25 ne_b6_tt12 ft30
  have ft31 := (Nat.lt_of_lt_of_le lt_t6 kq12.1)
  have ne_t6_tt25 : t6 ≠ tt25 := own_dn dz25 ne_t6_tt12 ft31
  have ne_wO_tt25 : wO ≠ tt25 := own_dn dz25 ne_wO_tt12 (Nat.lt_of_lt_of_le lt_wO O12.2.1)
  have ne_wT_tt25 : wT ≠ tt25 := own_dn dz25 ne_wT_tt12 (Nat.lt_of_lt_of_le lt_wT O12.2.1)
  have g_tt25 : n0 ≤ tt25 := own_dt dz25 g_tt12 (O12.1 ▸ O12.2.1)
  have sz_tt25 : h0.size ≤ tt25 := own_dt dz25 sz_tt12 K12.1
  have ft32 := (Safe.keep kq12 (sfS sf10 (sfS sf11 sf0)) CR6.1 sn_tt12)
  have sn_tt25 : Safe Z EL T6.vm T12.heap tt25 := dz25.elim (fun q => by rw [q]; exact ft32) Safe.new
  have O25 : Old Z n0 T25.heap := O12.keep kq25 (allS g_b1 (allS g_tt12 all0))
  have ft33 := (Safe.keep kq12 (sfS sf10 (sfS sf11 sf0)) CR6.1 sf10)
  have CR25 : CHr Z EL s.vm h0 T6.vm T25.heap := CR12.trans (CHr.keep kq25 (sfS ft33 (sfS ft32 sf0)) CR12.1)
  have K25 : Keep h0 T25.heap [] := K12.trans kq25 (allS (Or.inr sz_b1) (allS (Or.inr sz_tt12) all0))
  have lt_tt25 := vq25.lt
  refine zsk [(.ref b1)] ?_
  have ft35 := (Nat.le_trans (Nat.le_trans hk6 kq12.1) kq25.1)
  obtain ⟨b34, T34, h34, k134, t34, kt34, X34, e34, E34, hS34, hk34, hZ34, hown34, A34, cq34, fq34, vq34, lt_b34, lt_t34, crw34, -, sfx34, st34⟩ := ldcCH (EL := EL) X25 hx hZ6 hown6 (ww hw 127 rfl) wS rfl hS6 ft35 hEL (List.mem_of_getElem? (i := 1) rfl) CR25.1 (vs := [(.int (44 : Int32)), (.int (32 : Int32)), (.int (117 : Int32)), (.int (115 : Int32)), (.int (101 : Int32)), (.int (114 : Int32)), (.int (78 : Int32)), (.int (97 : Int32)), (.int (109 : Int32)), (.int (101 : Int32)), (.int (61 : Int32))]) (z := (11 : Int32)) ⟨by decide, by decide⟩ (by decide) rfl (g := (mkF m 19 #[rv a1] [(.ref b1)])) rfl (D d5_19) (n := 44) (by decide) (by decide) (by decide) (by decide)
  have ft36 := (Safe.keep kq25 (sfS ft33 (sfS ft32 sf0)) CR12.1 ft33)
  have ft37 := (Nat.lt_of_lt_of_le ft29 kq25.1)
  have ft38 := (Safe.keep kq25 (sfS ft33 (sfS ft32 sf0)) CR12.1 (Safe.keep kq12 (sfS sf10 (sfS sf11 sf0)) CR6.1 sf11))
  have ft39 := (Nat.lt_of_lt_of_le (Nat.lt_of_lt_of_le (Nat.lt_of_lt_of_le lt_tt2 E6.1) kq12.1) kq25.1)
  have ft40 := (Safe.keep kq25 (sfS ft33 (sfS ft32 sf0)) CR12.1 ft32)
  have ft41 := (Nat.lt_of_lt_of_le lt_tt12 kq25.1)
  have ft42 := (Safe.keep kq25 (sfS ft33 (sfS ft32 sf0)) CR12.1 sn_tt25)
  have O34 : Old Z n0 h34 := O25.ext E34
  have K34 : Keep h0 h34 [] := K25.ext E34
  have sf43 := crw34.safe ft37 ft36
  have sf44 := crw34.safe ft39 ft38
  have sf45 := crw34.safe ft41 ft40
  have sf46 := crw34.safe lt_tt25 ft42
  have CR34 := CR25.trans crw34
  refine zst 21 #[rv a1] [(.ref b34), (.ref b1)] st34 ?_
  have ft48 := (eq25.ext E34)
  have ft49 := (cq25.ext E34)
  have ft50 := (fq25.ext E34)
  have ft51 := (nq25.ext E34)
  have ft52 := (xq25.ext E34)
  have ft53 := (vq25.ext E34)
  refine gV 24 0 9 720 X34 N25 hx hZ34 (y := mq23) hown34 hml (ww hw 57 rfl) (ww hw 58 rfl) (ww hw 60 rfl) (ww hw 59 rfl) (gbs l Z a0 hw [] b1 b34 t34 kt34 (11 : Int32) [(.int (44 : Int32)), (.int (32 : Int32)), (.int (117 : Int32)), (.int (115 : Int32)), (.int (101 : Int32)), (.int (114 : Int32)), (.int (78 : Int32)), (.int (97 : Int32)), (.int (109 : Int32)), (.int (101 : Int32)), (.int (61 : Int32))] tt25 kt25 NN25 cn25 (([] ++ [(.int (85 : Int32)), (.int (115 : Int32)), (.int (101 : Int32)), (.int (114 : Int32)), (.int (40 : Int32)), (.int (117 : Int32)), (.int (115 : Int32)), (.int (101 : Int32)), (.int (114 : Int32)), (.int (73 : Int32)), (.int (100 : Int32)), (.int (61 : Int32))]) ++ dsL x) wO wT kO kT iC vF h34 n0 O34 ln25 bd25 lk1 (by simp only [List.length_append, List.length_cons, List.length_nil]; omega) g_b1 g_tt25 ft48 ft49 ft50 ft51 A34 cq34 fq34 vq34 ft52 ft53 WW) (ww hw 61 rfl) (ww hw 40 rfl) e34 ft48 [(.ref b34)] [] (lenOf pd__Ljava_lang_String__Ljava_lang_StringBuilder_ rfl) (D d5_21) ?_
  rintro T47 L47 M47 _ X47 uu47 ⟨rfl, Nq47, kq47, eq47, cq47, nq47, tt47, kt47, NN47, dz47, fq47, xq47, vq47, bd47⟩
  have N47 := uu47 Nq47
  have ft54 := (Nat.lt_of_lt_of_le (Nat.lt_of_lt_of_le ft26 kq25.1) E34.1)
  have ne_a1_tt47 : a1 ≠ tt47 := own_dn dz47 ne_a1_tt25 ft54
  have ft55 := (Nat.lt_of_lt_of_le (Nat.lt_of_lt_of_le ft27 kq25.1) E34.1)
  have ne_m1_tt47 : m1 ≠ tt47 := own_dn dz47 ne_m1_tt25 ft55
  have ft56 := (Nat.lt_of_lt_of_le (Nat.lt_of_lt_of_le ft28 kq25.1) E34.1)
  have ne_t1_tt47 : t1 ≠ tt47 := own_dn dz47 ne_t1_tt25 ft56
  have ft57 := (Nat.lt_of_lt_of_le ft37 E34.1)
  have ne_b1_tt47 : b1 ≠ tt47 := own_dn dz47 ne_b1_tt25 ft57
  have ft58 := (Nat.lt_of_lt_of_le (Nat.lt_of_lt_of_le ft30 kq25.1) E34.1)
  have ne_b6_tt47 : b6 ≠ tt47 := own_dn dz47 ne_b6_tt25 ft58
  have ft59 := (Nat.lt_of_lt_of_le (Nat.lt_of_lt_of_le ft31 kq25.1) E34.1)
  have ne_t6_tt47 : t6 ≠ tt47 := own_dn dz47 ne_t6_tt25 ft59
  have ne_b34_tt47 : b34 ≠ tt47 := own_dn dz47 (Ne.symm (sfx34 _ sf46).1) lt_b34
  have ne_t34_tt47 : t34 ≠ tt47 := own_dn dz47 (Ne.symm (sfx34 _ sf46).2) lt_t34
  have ne_wO_tt47 : wO ≠ tt47 := own_dn dz47 ne_wO_tt25 (Nat.lt_of_lt_of_le lt_wO O34.2.1)
  have ne_wT_tt47 : wT ≠ tt47 := own_dn dz47 ne_wT_tt25 (Nat.lt_of_lt_of_le lt_wT O34.2.1)
  have g_tt47 : n0 ≤ tt47 := own_dt dz47 g_tt25 (O34.1 ▸ O34.2.1)
  have sz_tt47 : h0.size ≤ tt47 := own_dt dz47 sz_tt25 K34.1
  have sn_tt47 : Safe Z EL T34.vm h34 tt47 := dz47.elim (fun q => by rw [q]; exact sf46) Safe.new
  have O47 : Old Z n0 T47.heap := O34.keep kq47 (allS g_b1 (allS g_tt25 all0))
  have CR47 : CHr Z EL s.vm h0 T34.vm T47.heap := CR34.trans (CHr.keep kq47 (sfS sf43 (sfS sf46 sf0)) CR34.1)
  have K47 : Keep h0 T47.heap [] := K34.trans kq47 (allS (Or.inr sz_b1) (allS (Or.inr sz_tt25) all0))
  have lt_tt47 := vq47.lt
  have ln47 := own_la ln25 lk1 (by simp only [List.length_append, List.length_cons, List.length_nil]; omega)
  refine zsk [(.ref b1)] ?_
  refine zan 25 X47 hx (D d5_24) rfl rfl ?_
  have ft60 := (((((((F_a1_userName.ext E1).keep kq2 (ninS ne_a1_b1 nin0)).ext E6).keep kq12 (ninS ne_a1_b1 (ninS ne_a1_tt2 nin0))).keep kq25 (ninS ne_a1_b1 (ninS ne_a1_tt12 nin0))).ext E34).keep kq47 (ninS ne_a1_b1 (ninS ne_a1_tt25 nin0)))
  refine zgf 28 X47 hx hZ34 hown34 (host := "") (Or.inl (ww hw 31 rfl)) Via.refl rfl ft60 (D d5_25) fun T61 X61 e61 => ?_
  have ft63 := (((((((E_m1.ext E1).keep kq2).ext E6).keep kq12).keep kq25).ext E34).keep kq47)
  have ft64 := (((((((F_m1_coder.ext E1).keep kq2 (ninS ne_m1_b1 nin0)).ext E6).keep kq12 (ninS ne_m1_b1 (ninS ne_m1_tt2 nin0))).keep kq25 (ninS ne_m1_b1 (ninS ne_m1_tt12 nin0))).ext E34).keep kq47 (ninS ne_m1_b1 (ninS ne_m1_tt25 nin0)))
  have ft65 := (((((((F_m1_value.ext E1).keep kq2 (ninS ne_m1_b1 nin0)).ext E6).keep kq12 (ninS ne_m1_b1 (ninS ne_m1_tt2 nin0))).keep kq25 (ninS ne_m1_b1 (ninS ne_m1_tt12 nin0))).ext E34).keep kq47 (ninS ne_m1_b1 (ninS ne_m1_tt25 nin0)))
  have ft66 := (((((((V_t1.ext E1).keep kq2 (ninS ne_t1_b1 nin0)).ext E6).keep kq12 (ninS ne_t1_b1 (ninS ne_t1_tt2 nin0))).keep kq25 (ninS ne_t1_b1 (ninS ne_t1_tt12 nin0))).ext E34).keep kq47 (ninS ne_t1_b1 (ninS ne_t1_tt25 nin0)))
  refine gV 31 0 10 920 X61 N47 hx hZ34 (y := mq23) hown34 hml (ww hw 57 rfl) (ww hw 58 rfl) (ww hw 60 rfl) (ww hw 59 rfl) (gbs l Z a0 hw [] b1 m1 t1 k1 n1 es1 tt47 kt47 NN47 (cn25 + (11 : Int32)) ((([] ++ [(.int (85 : Int32)), (.int (115 : Int32)), (.int (101 : Int32)), (.int (114 : Int32)), (.int (40 : Int32)), (.int (117 : Int32)), (.int (115 : Int32)), (.int (101 : Int32)), (.int (114 : Int32)), (.int (73 : Int32)), (.int (100 : Int32)), (.int (61 : Int32))]) ++ dsL x) ++ [(.int (44 : Int32)), (.int (32 : Int32)), (.int (117 : Int32)), (.int (115 : Int32)), (.int (101 : Int32)), (.int (114 : Int32)), (.int (78 : Int32)), (.int (97 : Int32)), (.int (109 : Int32)), (.int (101 : Int32)), (.int (61 : Int32))]) wO wT kO kT iC vF T47.heap n0 O47 ln47 bd47 l1 (by simp only [List.length_append, List.length_cons, List.length_nil]; omega) g_b1 g_tt47 eq47 cq47 fq47 nq47 ft63 ft64 ft65 ft66 xq47 vq47 WW) (ww hw 61 rfl) (ww hw 40 rfl) e61 eq47 [(.ref m1)] [] (lenOf pd__Ljava_lang_String__Ljava_lang_StringBuilder_ rfl) (D d5_28) ?_
  rintro T62 L62 M62 _ X62 uu62 ⟨rfl, Nq62, kq62, eq62, cq62, nq62, tt62, kt62, NN62, dz62, fq62, xq62, vq62, bd62⟩
  have N62 := uu62 Nq62
  have ft67 := (Nat.lt_of_lt_of_le ft54 kq47.1)
  have ne_a1_tt62 : a1 ≠ tt62 := own_dn dz62 ne_a1_tt47 ft67
  have ft68 := (Nat.lt_of_lt_of_le ft55 kq47.1)
  have ne_m1_tt62 : m1 ≠ tt62 := own_dn dz62 ne_m1_tt47 ft68
  have ft69 := (Nat.lt_of_lt_of_le ft56 kq47.1)
  have ne_t1_tt62 : t1 ≠ tt62 := own_dn dz62 ne_t1_tt47 ft69
  have ft70 := (Nat.lt_of_lt_of_le ft57 kq47.1)
  have ne_b1_tt62 : b1 ≠ tt62 := own_dn dz62 ne_b1_tt47 ft70
  have ft71 := (Nat.lt_of_lt_of_le ft58 kq47.1)
  have ne_b6_tt62 : b6 ≠ tt62 := own_dn dz62 ne_b6_tt47 ft71
  have ft72 := (Nat.lt_of_lt_of_le ft59 kq47.1)
  have ne_t6_tt62 : t6 ≠ tt62 := own_dn dz62 ne_t6_tt47 ft72
  have ft73 := (Nat.lt_of_lt_of_le lt_b34 kq47.1)
  have ne_b34_tt62 : b34 ≠ tt62 := own_dn dz62 ne_b34_tt47 ft73
  have ft74 := (Nat.lt_of_lt_of_le lt_t34 kq47.1)
  have ne_t34_tt62 : t34 ≠ tt62 := own_dn dz62 ne_t34_tt47 ft74
  have ne_wO_tt62 : wO ≠ tt62 := own_dn dz62 ne_wO_tt47 (Nat.lt_of_lt_of_le lt_wO O47.2.1)
  have ne_wT_tt62 : wT ≠ tt62 := own_dn dz62 ne_wT_tt47 (Nat.lt_of_lt_of_le lt_wT O47.2.1)
  have g_tt62 : n0 ≤ tt62 := own_dt dz62 g_tt47 (O47.1 ▸ O47.2.1)
  have sz_tt62 : h0.size ≤ tt62 := own_dt dz62 sz_tt47 K47.1
  have ft75 := (Safe.keep kq47 (sfS sf43 (sfS sf46 sf0)) CR34.1 sn_tt47)
  have sn_tt62 : Safe Z EL T34.vm T47.heap tt62 := dz62.elim (fun q => by rw [q]; exact ft75) Safe.new
  have O62 : Old Z n0 T62.heap := O47.keep kq62 (allS g_b1 (allS g_tt47 all0))
  have ft76 := (Safe.keep kq47 (sfS sf43 (sfS sf46 sf0)) CR34.1 sf43)
  have CR62 : CHr Z EL s.vm h0 T34.vm T62.heap := CR47.trans (CHr.keep kq62 (sfS ft76 (sfS ft75 sf0)) CR47.1)
  have K62 : Keep h0 T62.heap [] := K47.trans kq62 (allS (Or.inr sz_b1) (allS (Or.inr sz_tt47) all0))
  have lt_tt62 := vq62.lt
  have ln62 := own_la ln47 l1 (by simp only [List.length_append, List.length_cons, List.length_nil]; omega)
  refine zsk [(.ref b1)] ?_
  have ft78 := (Nat.le_trans (Nat.le_trans hk34 kq47.1) kq62.1)
  obtain ⟨b77, T77, h77, k177, t77, kt77, X77, e77, E77, hS77, hk77, hZ77, hown77, A77, cq77, fq77, vq77, lt_b77, lt_t77, crw77, -, sfx77, st77⟩ := ldcCH (EL := EL) X62 hx hZ34 hown34 (ww hw 156 rfl) wS rfl hS34 ft78 hEL (List.mem_of_getElem? (i := 2) rfl) CR62.1 (vs := [(.int (41 : Int32))]) (z := (1 : Int32)) ⟨by decide, by decide⟩ (by decide) rfl (g := (mkF m 31 #[rv a1] [(.ref b1)])) rfl (D d5_31) (n := 4) (by decide) (by decide) (by decide) (by decide)
  have ft79 := (Safe.keep kq62 (sfS ft76 (sfS ft75 sf0)) CR47.1 ft76)
  have ft80 := (Nat.lt_of_lt_of_le ft70 kq62.1)
  have ft81 := (Safe.keep kq62 (sfS ft76 (sfS ft75 sf0)) CR47.1 (Safe.keep kq47 (sfS sf43 (sfS sf46 sf0)) CR34.1 sf44))
  have ft82 := (Nat.lt_of_lt_of_le (Nat.lt_of_lt_of_le (Nat.lt_of_lt_of_le ft39 E34.1) kq47.1) kq62.1)
  have ft83 := (Safe.keep kq62 (sfS ft76 (sfS ft75 sf0)) CR47.1 (Safe.keep kq47 (sfS sf43 (sfS sf46 sf0)) CR34.1 sf45))
  have ft84 := (Nat.lt_of_lt_of_le (Nat.lt_of_lt_of_le (Nat.lt_of_lt_of_le ft41 E34.1) kq47.1) kq62.1)
  have ft85 := (Safe.keep kq62 (sfS ft76 (sfS ft75 sf0)) CR47.1 (Safe.keep kq47 (sfS sf43 (sfS sf46 sf0)) CR34.1 sf46))
  have ft86 := (Nat.lt_of_lt_of_le (Nat.lt_of_lt_of_le (Nat.lt_of_lt_of_le lt_tt25 E34.1) kq47.1) kq62.1)
  have ft87 := (Safe.keep kq62 (sfS ft76 (sfS ft75 sf0)) CR47.1 ft75)
  have ft88 := (Nat.lt_of_lt_of_le lt_tt47 kq62.1)
  have ft89 := (Safe.keep kq62 (sfS ft76 (sfS ft75 sf0)) CR47.1 sn_tt62)
  have O77 : Old Z n0 h77 := O62.ext E77
  have K77 : Keep h0 h77 [] := K62.ext E77
  have sf90 := crw77.safe ft80 ft79
  have sf91 := crw77.safe ft82 ft81
  have sf92 := crw77.safe ft84 ft83
  have sf93 := crw77.safe ft86 ft85
  have sf94 := crw77.safe ft88 ft87
  have sf95 := crw77.safe lt_tt62 ft89
  have CR77 := CR62.trans crw77
  refine zst 33 #[rv a1] [(.ref b77), (.ref b1)] st77 ?_
  have ft97 := (eq62.ext E77)
  have ft98 := (cq62.ext E77)
  have ft99 := (fq62.ext E77)
  have ft100 := (nq62.ext E77)
  have ft101 := (xq62.ext E77)
  have ft102 := (vq62.ext E77)
  refine gV 36 0 13 1128 X77 N62 hx hZ77 (y := mq23) hown77 hml (ww hw 57 rfl) (ww hw 58 rfl) (ww hw 60 rfl) (ww hw 59 rfl) (gbs l Z a0 hw [] b1 b77 t77 kt77 (1 : Int32) [(.int (41 : Int32))] tt62 kt62 NN62 ((cn25 + (11 : Int32)) + n1) (((([] ++ [(.int (85 : Int32)), (.int (115 : Int32)), (.int (101 : Int32)), (.int (114 : Int32)), (.int (40 : Int32)), (.int (117 : Int32)), (.int (115 : Int32)), (.int (101 : Int32)), (.int (114 : Int32)), (.int (73 : Int32)), (.int (100 : Int32)), (.int (61 : Int32))]) ++ dsL x) ++ [(.int (44 : Int32)), (.int (32 : Int32)), (.int (117 : Int32)), (.int (115 : Int32)), (.int (101 : Int32)), (.int (114 : Int32)), (.int (78 : Int32)), (.int (97 : Int32)), (.int (109 : Int32)), (.int (101 : Int32)), (.int (61 : Int32))]) ++ es1) wO wT kO kT iC vF h77 n0 O77 ln62 bd62 lk2 (by simp only [List.length_append, List.length_cons, List.length_nil]; omega) g_b1 g_tt62 ft97 ft98 ft99 ft100 A77 cq77 fq77 vq77 ft101 ft102 WW) (ww hw 61 rfl) (ww hw 40 rfl) e77 ft97 [(.ref b77)] [] (lenOf pd__Ljava_lang_String__Ljava_lang_StringBuilder_ rfl) (D d5_33) ?_
  rintro T96 L96 M96 _ X96 uu96 ⟨rfl, Nq96, kq96, eq96, cq96, nq96, tt96, kt96, NN96, dz96, fq96, xq96, vq96, bd96⟩
  have N96 := uu96 Nq96
  have ft103 := (Nat.lt_of_lt_of_le (Nat.lt_of_lt_of_le ft67 kq62.1) E77.1)
  have ne_a1_tt96 : a1 ≠ tt96 := own_dn dz96 ne_a1_tt62 ft103
  have ft104 := (Nat.lt_of_lt_of_le (Nat.lt_of_lt_of_le ft68 kq62.1) E77.1)
  have ne_m1_tt96 : m1 ≠ tt96 := own_dn dz96 ne_m1_tt62 ft104
  have ft105 := (Nat.lt_of_lt_of_le (Nat.lt_of_lt_of_le ft69 kq62.1) E77.1)
  have ne_t1_tt96 : t1 ≠ tt96 := own_dn dz96 ne_t1_tt62 ft105
  have ft106 := (Nat.lt_of_lt_of_le ft80 E77.1)
  have ne_b1_tt96 : b1 ≠ tt96 := own_dn dz96 ne_b1_tt62 ft106
  have ft107 := (Nat.lt_of_lt_of_le (Nat.lt_of_lt_of_le ft71 kq62.1) E77.1)
  have ne_b6_tt96 : b6 ≠ tt96 := own_dn dz96 ne_b6_tt62 ft107
  have ft108 := (Nat.lt_of_lt_of_le (Nat.lt_of_lt_of_le ft72 kq62.1) E77.1)
  have ne_t6_tt96 : t6 ≠ tt96 := own_dn dz96 ne_t6_tt62 ft108
  have ft109 := (Nat.lt_of_lt_of_le (Nat.lt_of_lt_of_le ft73 kq62.1) E77.1)
  have ne_b34_tt96 : b34 ≠ tt96 := own_dn dz96 ne_b34_tt62 ft109
  have ft110 := (Nat.lt_of_lt_of_le (Nat.lt_of_lt_of_le ft74 kq62.1) E77.1)
  have ne_t34_tt96 : t34 ≠ tt96 := own_dn dz96 ne_t34_tt62 ft110
  have ne_b77_tt96 : b77 ≠ tt96 := own_dn dz96 (Ne.symm (sfx77 _ sf95).1) lt_b77
  have ne_t77_tt96 : t77 ≠ tt96 := own_dn dz96 (Ne.symm (sfx77 _ sf95).2) lt_t77
  have ne_wO_tt96 : wO ≠ tt96 := own_dn dz96 ne_wO_tt62 (Nat.lt_of_lt_of_le lt_wO O77.2.1)
  have ne_wT_tt96 : wT ≠ tt96 := own_dn dz96 ne_wT_tt62 (Nat.lt_of_lt_of_le lt_wT O77.2.1)
  have g_tt96 : n0 ≤ tt96 := own_dt dz96 g_tt62 (O77.1 ▸ O77.2.1)
  have sz_tt96 : h0.size ≤ tt96 := own_dt dz96 sz_tt62 K77.1
  have sn_tt96 : Safe Z EL T77.vm h77 tt96 := dz96.elim (fun q => by rw [q]; exact sf95) Safe.new
  have O96 : Old Z n0 T96.heap := O77.keep kq96 (allS g_b1 (allS g_tt62 all0))
  have CR96 : CHr Z EL s.vm h0 T77.vm T96.heap := CR77.trans (CHr.keep kq96 (sfS sf90 (sfS sf95 sf0)) CR77.1)
  have K96 : Keep h0 T96.heap [] := K77.trans kq96 (allS (Or.inr sz_b1) (allS (Or.inr sz_tt62) all0))
  have lt_tt96 := vq96.lt
  have ln96 := own_la ln62 lk2 (by simp only [List.length_append, List.length_cons, List.length_nil]; omega)
  refine zsk [(.ref b1)] ?_
  refine gV 39 0 15 1332 X96 N96 hx hZ77 (y := mq39) hown77 hml (ww hw 157 rfl) (ww hw 158 rfl) (ww hw 160 rfl) (ww hw 159 rfl) (gt3 l Z a0 hw [] b1 tt96 kt96 NN96 (((cn25 + (11 : Int32)) + n1) + (1 : Int32)) ((((([] ++ [(.int (85 : Int32)), (.int (115 : Int32)), (.int (101 : Int32)), (.int (114 : Int32)), (.int (40 : Int32)), (.int (117 : Int32)), (.int (115 : Int32)), (.int (101 : Int32)), (.int (114 : Int32)), (.int (73 : Int32)), (.int (100 : Int32)), (.int (61 : Int32))]) ++ dsL x) ++ [(.int (44 : Int32)), (.int (32 : Int32)), (.int (117 : Int32)), (.int (115 : Int32)), (.int (101 : Int32)), (.int (114 : Int32)), (.int (78 : Int32)), (.int (97 : Int32)), (.int (109 : Int32)), (.int (101 : Int32)), (.int (61 : Int32))]) ++ es1) ++ [(.int (41 : Int32))]) wO wT kO kT iC vF T96.heap n0 O96 ln96 bd96 (by simp only [List.length_append, List.length_cons, List.length_nil]; omega) eq96 cq96 fq96 nq96 xq96 vq96 WW) (ww hw 161 rfl) (ww hw 40 rfl) rfl eq96 [] [] (lenOf pd___Ljava_lang_String_ rfl) (D d5_36) ?_
  rintro T111 L111 M111 _ X111 uu111 ⟨b111, rfl, Nq111, zb111, kq111, eq111, cq111, tt111, kt111, zq111, fq111, vq111⟩
  have N111 := uu111 Nq111
  have ft112 := (Nat.lt_of_lt_of_le ft103 kq96.1)
  have ne_a1_b111 : a1 ≠ b111 := Nat.ne_of_lt (Nat.lt_of_lt_of_le ft112 zb111)
  have ft113 := (Nat.lt_of_lt_of_le ft104 kq96.1)
  have ne_m1_b111 : m1 ≠ b111 := Nat.ne_of_lt (Nat.lt_of_lt_of_le ft113 zb111)
  have ft114 := (Nat.lt_of_lt_of_le ft105 kq96.1)
  have ne_t1_b111 : t1 ≠ b111 := Nat.ne_of_lt (Nat.lt_of_lt_of_le ft114 zb111)
  have ft115 := (Nat.lt_of_lt_of_le ft106 kq96.1)
  have ne_b1_b111 : b1 ≠ b111 := Nat.ne_of_lt (Nat.lt_of_lt_of_le ft115 zb111)
  have ft116 := (Nat.lt_of_lt_of_le (Nat.lt_of_lt_of_le ft82 E77.1) kq96.1)
  have ne_tt2_b111 : tt2 ≠ b111 := Nat.ne_of_lt (Nat.lt_of_lt_of_le ft116 zb111)
  have ft117 := (Nat.lt_of_lt_of_le ft107 kq96.1)
  have ne_b6_b111 : b6 ≠ b111 := Nat.ne_of_lt (Nat.lt_of_lt_of_le ft117 zb111)
  have ft118 := (Nat.lt_of_lt_of_le ft108 kq96.1)
  have ne_t6_b111 : t6 ≠ b111 := Nat.ne_of_lt (Nat.lt_of_lt_of_le ft118 zb111)
  have ft119 := (Nat.lt_of_lt_of_le (Nat.lt_of_lt_of_le ft84 E77.1) kq96.1)
  have ne_tt12_b111 : tt12 ≠ b111 := Nat.ne_of_lt (Nat.lt_of_lt_of_le ft119 zb111)
  have ft120 := (Nat.lt_of_lt_of_le (Nat.lt_of_lt_of_le ft86 E77.1) kq96.1)
  have ne_tt25_b111 : tt25 ≠ b111 := Nat.ne_of_lt (Nat.lt_of_lt_of_le ft120 zb111)
  have ft121 := (Nat.lt_of_lt_of_le ft109 kq96.1)
  have ne_b34_b111 : b34 ≠ b111 := Nat.ne_of_lt (Nat.lt_of_lt_of_le ft121 zb111)
  have ft122 := (Nat.lt_of_lt_of_le ft110 kq96.1)
  have ne_t34_b111 : t34 ≠ b111 := Nat.ne_of_lt (Nat.lt_of_lt_of_le ft122 zb111)
  have ft123 := (Nat.lt_of_lt_of_le (Nat.lt_of_lt_of_le ft88 E77.1) kq96.1)
  have ne_tt47_b111 : tt47 ≠ b111 := Nat.ne_of_lt (Nat.lt_of_lt_of_le ft123 zb111)
  have ft124 := (Nat.lt_of_lt_of_le (Nat.lt_of_lt_of_le lt_tt62 E77.1) kq96.1)
  have ne_tt62_b111 : tt62 ≠ b111 := Nat.ne_of_lt (Nat.lt_of_lt_of_le ft124 zb111)
  have ft125 := (Nat.lt_of_lt_of_le lt_b77 kq96.1)
  have ne_b77_b111 : b77 ≠ b111 := Nat.ne_of_lt (Nat.lt_of_lt_of_le ft125 zb111)
  have ft126 := (Nat.lt_of_lt_of_le lt_t77 kq96.1)
  have ne_t77_b111 : t77 ≠ b111 := Nat.ne_of_lt (Nat.lt_of_lt_of_le ft126 zb111)
  have ne_tt96_b111 : tt96 ≠ b111 := Nat.ne_of_lt (Nat.lt_of_lt_of_le lt_tt96 zb111)
  have ne_wO_b111 : wO ≠ b111 := Nat.ne_of_lt (Nat.lt_of_lt_of_le lt_wO (Nat.le_trans O96.2.1 zb111))
  have ne_wT_b111 : wT ≠ b111 := Nat.ne_of_lt (Nat.lt_of_lt_of_le lt_wT (Nat.le_trans O96.2.1 zb111))
  have g_b111 : n0 ≤ b111 := Nat.le_trans (O96.1 ▸ O96.2.1) zb111
  have sz_b111 : h0.size ≤ b111 := Nat.le_trans K96.1 zb111
  have sn_b111 : Safe Z EL T77.vm T96.heap b111 := Safe.new zb111
  have ne_a1_tt111 : a1 ≠ tt111 := Nat.ne_of_lt (Nat.lt_of_lt_of_le ft112 zq111)
  have ne_m1_tt111 : m1 ≠ tt111 := Nat.ne_of_lt (Nat.lt_of_lt_of_le ft113 zq111)
  have ne_t1_tt111 : t1 ≠ tt111 := Nat.ne_of_lt (Nat.lt_of_lt_of_le ft114 zq111)
  have ne_b1_tt111 : b1 ≠ tt111 := Nat.ne_of_lt (Nat.lt_of_lt_of_le ft115 zq111)
  have ne_tt2_tt111 : tt2 ≠ tt111 := Nat.ne_of_lt (Nat.lt_of_lt_of_le ft116 zq111)
  have ne_b6_tt111 : b6 ≠ tt111 := Nat.ne_of_lt (Nat.lt_of_lt_of_le ft117 zq111)
  have ne_t6_tt111 : t6 ≠ tt111 := Nat.ne_of_lt (Nat.lt_of_lt_of_le ft118 zq111)
  have ne_tt12_tt111 : tt12 ≠ tt111 := Nat.ne_of_lt (Nat.lt_of_lt_of_le ft119 zq111)
  have ne_tt25_tt111 : tt25 ≠ tt111 := Nat.ne_of_lt (Nat.lt_of_lt_of_le ft120 zq111)
  have ne_b34_tt111 : b34 ≠ tt111 := Nat.ne_of_lt (Nat.lt_of_lt_of_le ft121 zq111)
  have ne_t34_tt111 : t34 ≠ tt111 := Nat.ne_of_lt (Nat.lt_of_lt_of_le ft122 zq111)
  have ne_tt47_tt111 : tt47 ≠ tt111 := Nat.ne_of_lt (Nat.lt_of_lt_of_le ft123 zq111)
  have ne_tt62_tt111 : tt62 ≠ tt111 := Nat.ne_of_lt (Nat.lt_of_lt_of_le ft124 zq111)
  have ne_b77_tt111 : b77 ≠ tt111 := Nat.ne_of_lt (Nat.lt_of_lt_of_le ft125 zq111)
  have ne_t77_tt111 : t77 ≠ tt111 := Nat.ne_of_lt (Nat.lt_of_lt_of_le ft126 zq111)
  have ne_tt96_tt111 : tt96 ≠ tt111 := Nat.ne_of_lt (Nat.lt_of_lt_of_le lt_tt96 zq111)
  have ne_wO_tt111 : wO ≠ tt111 := Nat.ne_of_lt (Nat.lt_of_lt_of_le lt_wO (Nat.le_trans O96.2.1 zq111))
  have ne_wT_tt111 : wT ≠ tt111 := Nat.ne_of_lt (Nat.lt_of_lt_of_le lt_wT (Nat.le_trans O96.2.1 zq111))
  have g_tt111 : n0 ≤ tt111 := Nat.le_trans (O96.1 ▸ O96.2.1) zq111
  have sz_tt111 : h0.size ≤ tt111 := Nat.le_trans K96.1 zq111
  have sn_tt111 : Safe Z EL T77.vm T96.heap tt111 := Safe.new zq111
  have O111 : Old Z n0 T111.heap := O96.keep kq111 all0
  have CR111 : CHr Z EL s.vm h0 T77.vm T111.heap := CR96.trans (CHr.keep kq111 sf0 CR96.1)
  have K111 : Keep h0 T111.heap [] := K96.trans kq111 all0
  have lt_b111 := eq111.lt
  have lt_tt111 := vq111.lt
  refine zsk [(.ref b111)] ?_
  have ft127 := (Nat.le_trans (Nat.le_trans hk77 kq96.1) kq111.1)
  refine GoW.retV X111 hlk hx (t := (.object "java/lang/String")) hret rfl (Or.inr (Or.inr (Or.inr (Or.inr ⟨rfl, rfl, rfl⟩)))) (D d5_39) rfl hS77 ft127 hZ77 hEL CR111 hh ?_ (by decide) (by decide)
  exact ⟨b111, tt111, kt111, (((cn25 + (11 : Int32)) + n1) + (1 : Int32)), rfl, N111, sz_b111, K111, eq111, cq111, fq111, vq111, ln96⟩
theorem own_base {dc P NL : Int32} {D p nl : Nat} (ed : dc.toInt = (D : Int)) (hD : 1 ≤ D ∧ D ≤ 10) (hP : P.toInt = (p : Int)) (hp : p ≤ 13) (hN : NL.toInt = (nl : Int)) (hn : nl ≤ 4) : (P + dc).toInt = (p : Int) + D ∧ ((P + dc) + (11 : Int32)).toInt = (p : Int) + D + 11 ∧ ((((P + dc) + (11 : Int32)) + NL) + (1 : Int32)).toInt = (p : Int) + D + 11 + nl + 1 := by
  have k : ∀ (a b : Int32), 0 ≤ a.toInt → a.toInt ≤ 1000 → 0 ≤ b.toInt → b.toInt ≤ 1000 → (a + b).toInt = a.toInt + b.toInt := fun a b h1 h2 h3 h4 => by
    have x := c_iadd a b
    have r := rng32 (a + b)
    omega
  have e11 : (11 : Int32).toInt = 11 := by decide
  have e1 : (1 : Int32).toInt = 1 := by decide
  have x1 := k P dc (by omega) (by omega) (by omega) (by omega)
  have x2 := k (P + dc) 11 (by omega) (by omega) (by omega) (by omega)
  have x3 := k ((P + dc) + 11) NL (by omega) (by omega) (by omega) (by omega)
  have x4 := k (((P + dc) + 11) + NL) 1 (by omega) (by omega) (by omega) (by omega)
  refine ⟨?_, ?_, ?_⟩ <;> omega
theorem ixl {x nt i : Int32} {nm : List Value} (l : Ln nt (RL x nm)) (k : Nat) (h : k ≤ 12) (hi : i.toInt = (k : Int)) : ¬ i < (0 : Int32) ∧ i < nt ∧ i.toNatClampNeg = k := rl_ix l k (by rw [rl_len]; omega) hi
theorem ixa {x nt i : Int32} {nm : List Value} (l : Ln nt (RL x nm)) {p D off : Nat} (t : i.toInt = (p : Int) + D + off) (hL : 12 + (dsL x).length = p + D) (h : off ≤ 11 + nm.length) : ¬ i < (0 : Int32) ∧ i < nt ∧ i.toNatClampNeg = 12 + (dsL x).length + off := rl_ix l _ (by rw [rl_len]; omega) (by omega)
theorem adj {i : Int32} {p D off : Nat} (t : i.toInt = (p : Int) + D + off) (hp : p ≤ 13) (hD : D ≤ 10) (ho : off ≤ 20) (jj : Int32) (j : Nat) (hj : jj.toInt = (j : Int)) (h : j ≤ 20) : (i + jj).toInt = (p : Int) + D + ((off + j : Nat) : Int) := by
  have a := c_iadd i jj
  have r := rng32 (i + jj)
  omega
theorem own_tot {x nt T : Int32} {nm : List Value} {p D nl : Nat} (l : Ln nt (RL x nm)) (t : T.toInt = (p : Int) + D + 11 + nl + 1) (hL : 12 + (dsL x).length = p + D) (hn : nm.length = nl) : nt = T := by
  rw [← Int32.toInt_inj, l.2, rl_len]; omega
theorem own_las {x nt T : Int32} {nm : List Value} {p D nl : Nat} (l : Ln nt (RL x nm)) (t : T.toInt = (p : Int) + D + 11 + nl + 1) (hL : 12 + (dsL x).length = p + D) (hn : nm.length = nl) (hp : p ≤ 13) (hD : D ≤ 10) (h4 : nl ≤ 4) : ¬ (T - (1 : Int32)) < (0 : Int32) ∧ (T - (1 : Int32)) < nt ∧ (T - (1 : Int32)).toNatClampNeg = 12 + (dsL x).length + 11 + nm.length := by
  have a := c_isub T 1
  have r := rng32 (T - 1)
  have e1 : (1 : Int32).toInt = 1 := by decide
  exact rl_ix l _ (by rw [rl_len]; omega) (by omega)
theorem own_hl {x : Int32} {s : Nat} (h : (if x < 0 then 1 else 0 : Nat) = s) : 12 + (dsL x).length = (12 + s) + dgs (nAbs x) := by rw [dsL_len, h]; omega
theorem q_eq {x i : Int32} {nm : List Value} {d : Value} {j : Nat} (h : i.toNatClampNeg = 12 + (dsL x).length + j) (hj : j < 11) {y : Int32} (e : ([(Value.int (44 : Int32)), (Value.int (32 : Int32)), (Value.int (117 : Int32)), (Value.int (115 : Int32)), (Value.int (101 : Int32)), (Value.int (114 : Int32)), (Value.int (78 : Int32)), (Value.int (97 : Int32)), (Value.int (109 : Int32)), (Value.int (101 : Int32)), (Value.int (61 : Int32))] : List Value).getD j d = .int y) : (RL x nm).getD i.toNatClampNeg d = .int y := by rw [h, rl_q x nm j d hj]; exact e
theorem n_eq {x i y : Int32} {nm : List Value} {d : Value} {j : Nat} (h : i.toNatClampNeg = 12 + (dsL x).length + (11 + j)) (hj : j < nm.length) (e : nm.getD j d = .int y) : (RL x nm).getD i.toNatClampNeg d = .int y := by rw [h, ← Nat.add_assoc, rl_n x nm j d hj]; exact e
theorem own_y0 : ∀ k : Fin 256, ¬ (255 : Int32) < (nar .char (Int32.ofNat k.val)) ∧ (caL (nar .byte ((nar .char (Int32.ofNat k.val)).toInt8.toInt32))) = Int32.ofNat k.val := by decide +kernel
theorem own_y {y x : Int32} (h : y = ((x &&& (255 : Int32)).toUInt32.toUInt16.toUInt32.toInt32)) : ¬ (255 : Int32) < (nar .char y) ∧ (caL (nar .byte ((nar .char y).toInt8.toInt32))) = y := by
  have a := c_and x 255 (by decide)
  have c := c_i2c (x &&& 255)
  have e : (255 : Int32).toInt = 255 := by decide
  rw [← h] at c
  have k : y = Int32.ofNat y.toInt.toNat := by
    rw [← Int32.toInt_inj, Int32.toInt_ofNat_of_lt (by omega)]; omega
  have q := own_y0 ⟨y.toInt.toNat, by omega⟩
  rw [← k] at q; exact q
theorem own_n1 {n c : Int32} {es : List Value} {k : Nat} (l : Ln n es) (h : ¬ n < c) (e : c.toInt = (k : Int)) : k ≤ es.length := by
  rw [Int32.lt_iff_toInt_lt] at h; have := l.2; omega
def QL (n0 : Nat) : Option Value → Heap → List Loc → Prop := fun v h L => v = some (.int (1 : Int32)) ∧ Fr n0 L
theorem pd__Ljava_lang_String_IJII_Z : parseMethodDescriptor "(Ljava/lang/String;IJII)Z" = some ⟨[(.object "java/lang/String"), .int, .long, .int, .int], some .boolean⟩ := by decide +kernel
theorem pd__J_J : parseMethodDescriptor "(J)J" = some ⟨[.long], some .long⟩ := by decide +kernel
theorem pd__J_I : parseMethodDescriptor "(J)I" = some ⟨[.long], some .int⟩ := by decide +kernel
theorem pd___C_V : parseMethodDescriptor "([C)V" = some ⟨[(.array .char)], none⟩ := by decide +kernel
/-- what a piece of a walk knows of its run -/
def Stp (p : Program) (Z s : State) (m : MethodId) (meth : Method) (c : Code) (bytes : ByteArray) (ml : Nat) (rt : Option FieldType) (y : MethodName) : Prop :=
  p.tables.exec = Jvm.exec ∧ c.code = bytes ∧ c.maxLocals = ml ∧ meth.name = y.name ∧ meth.locks = false ∧ meth.sig.returnType = rt ∧ Z.Warmed39 s.vm ∧ s.vm.findClass y.cls = some m.cls
set_option maxRecDepth 65536 in
set_option maxHeartbeats 40000000 in
theorem rm0_A902 (l : Launch) (Z : State) (a0 : Array Value) (hw : ∀ d ∈ tables_1, d.before a0 Z = true) (p1 : Int32) (p2 : Int32) (p3 : Int32) (p4 : Int32) (wO : Addr) (wT : Addr) (kO : ClassId) (kT : ClassId) (iC : Int32) (vF : Value) (h0 : Heap) (n0 : Nat) (O0 : Old Z n0 h0) (WW : World1 Z wO wT kO kT iC vF) {p : Program} {e : Env} {s : State} {m : MethodId} {below : List Frame} {meth : Method} {c : Code} (St : Stp p Z s m meth c code maxLocals ret x) (hh : s.heap = h0) :
    ∀ (TJ1 : State) (hJ1 : Heap) (vmJ1 : Vm) (kJ1 : Nat) (LJ1 : List Loc) (kd : Int32) (le : Int32) (y3 : Int32) (y4 : Int32) (ra0 : Addr) (ra1 : Addr) (ra2 : Addr) (dr : Addr) (vn : Value) (uid : Int32) (us : Addr) (r0 : Addr) (tr : Addr) (kr : ClassId) (nt : Int32) (nm : List Value) (ng : Int32) (ab : Int64) (dc : Int32) (nl : Int32) (pv : Int32) (qv : Int32) (sv : Int32) (tv : Int32) (pn : Nat), (Stand p l e room_1 (s.setVm vmJ1) m #[(.int p1), (.int p2), (.int p3), (.int p4)] below meth c TJ1 LJ1 24 1349) → (TJ1.heap = hJ1) → (Old Z n0 hJ1) → (Fr n0 LJ1) → (s.Since vmJ1 kJ1) → (kJ1 ≤ hJ1.size) → (Z.Warmed39 (s.setVm vmJ1).vm) → ((s.setVm vmJ1).vm.findClass "com/example/wirecall/wirecall/demo/UserToStringPinLaw" = some m.cls) → (CHr Z EL s.vm h0 vmJ1 hJ1) → (Ln nt (RL uid nm)) → (nm.length ≤ 4) → (pn ≤ 13) → (12 + (dsL uid).length = pn + dgs (nAbs uid)) → (qv.toInt = (pn : Int) + (dgs (nAbs uid) : Nat)) → (sv.toInt = (pn : Int) + (dgs (nAbs uid) : Nat) + 11) → (tv.toInt = (pn : Int) + (dgs (nAbs uid) : Nat) + 11 + nm.length + 1) → (Dg pv dc nt (nAbs uid) (RL uid nm)) → (ab.toInt = (nAbs uid : Int)) → (¬ ng = (0 : Int32) → uid < (0 : Int32)) → (Exa Z hJ1 r0 "java/lang/String") → (Fld Z hJ1 r0 "java/lang/String" "coder" "B" (.int (0 : Int32))) → (Fld Z hJ1 r0 "java/lang/String" "value" "[B" (.ref tr)) → (Arv Z hJ1 tr kr .byte nt (RL uid nm) (.int (0 : Int32))) → Go p e below (DoneW s Z EL (QL n0) room_1.cells room_1.slots) TJ1 (mkF m 902 #[iv p1, iv p2, iv p3, iv p4, iv kd, iv le, iv y3, iv y4, rv ra0, rv ra1, rv ra2, rv dr, (.val vn), iv uid, rv us, rv r0, iv ng, .val (.long ab), .second, iv dc, iv nl, iv pv, iv qv, iv sv, iv tv, iv 1] []) := by
  obtain ⟨hx, hby, hml, hnm, hlk, hret, hZ, hown⟩ := St
  have hEL := own_EL hw
  have wS := own_wS hw
  have N0 := Fr.nil n0
  have D := @hb _ _ hby
  have ⟨S_iC, nz_iC, S_vF, r_vF, S_wO, E_wO, S_wT, E_wT, V_wO, V_wT⟩ := WW
  have lt_wO := E_wO.lt
  have lt_wT := E_wT.lt
  intro TJ1 hJ1 vmJ1 kJ1 LJ1 kd le y3 y4 ra0 ra1 ra2 dr vn uid us r0 tr kr nt nm ng ab dc nl pv qv sv tv pn XJ1 eJ1 OJ1 NJ1 hSJ1 hkJ1 hZJ1 hownJ1 CRJ1 lr hnl hpn hL tq ts tt hdg eab hng E_r0 F_r0_coder F_r0_value V_tr
  have lt_r0 := E_r0.lt
  have lt_tr := V_tr.lt
  have hD := dgs_b (nAbs uid)
  refine zil 904 XJ1 hx (D at_902) rfl ?_
  refine zfn 907 XJ1 hx (D at_904) (by decide) ?_
  refine zal 909 XJ1 hx (D at_907) rfl rfl ?_
  refine zil 911 XJ1 hx (D at_909) rfl ?_
  refine zic 912 1 XJ1 hx (D at_911) ?_
  refine zsb 913 XJ1 hx (D at_912) ?_
  refine zbp 915 41 XJ1 hx (D at_913) ?_
  have ix3 := own_las lr tt hL rfl hpn hD.2 hnl
  refine gS 918 0 24 1349 XJ1 NJ1 hx hZJ1 (y := mq43) hownJ1 hml (ww hw 201 rfl) (ww hw 202 rfl) (ww hw 197 rfl) (rmCh l Z a0 hw [] r0 tr kr nt (RL uid nm) (tv - (1 : Int32)) (41 : Int32) (41 : Int32) wO wT kO kT iC vF hJ1 n0 OJ1 ix3.1 ix3.2.1 (by rw [ix3.2.2]; exact rl_e _ _ _) (by decide) E_r0 F_r0_coder F_r0_value V_tr WW) (ww hw 203 rfl) eJ1 [(.ref r0), (.int (tv - (1 : Int32))), (.int 41)] [] (lenOf pd__Ljava_lang_String_IC_Z rfl) (D at_915) ?_
  rintro T2 L2 M2 _ X2 uu2 ⟨rfl, Nq2, kq2⟩
  have N2 := uu2 Nq2
  refine zsk [(.int 1)] ?_
  refine zfn 921 X2 hx (D at_918) (by decide) ?_
  refine zic 922 1 X2 hx (D at_921) ?_
  refine zgo 926 X2 hx (D at_922) ?_
  refine zsl 928 #[iv p1, iv p2, iv p3, iv p4, iv kd, iv le, iv y3, iv y4, rv ra0, rv ra1, rv ra2, rv dr, (.val vn), iv uid, rv us, rv r0, iv ng, .val (.long ab), .second, iv dc, iv nl, iv pv, iv qv, iv sv, iv tv, iv 1] X2 hx (D at_926) ?_
  refine zil 930 X2 hx (D at_928) rfl ?_
  refine GoW.retB X2 hlk hx (t := .boolean) hret (by simp) (D at_930) kq2 hSJ1 hkJ1 hZJ1 hEL CRJ1 hh ?_ (by decide) (by decide)
  exact ⟨rfl, N2⟩
set_option maxRecDepth 65536 in
set_option maxHeartbeats 40000000 in
theorem rm0_A778n (l : Launch) (Z : State) (a0 : Array Value) (hw : ∀ d ∈ tables_1, d.before a0 Z = true) (p1 : Int32) (p2 : Int32) (p3 : Int32) (p4 : Int32) (wO : Addr) (wT : Addr) (kO : ClassId) (kT : ClassId) (iC : Int32) (vF : Value) (h0 : Heap) (n0 : Nat) (O0 : Old Z n0 h0) (WW : World1 Z wO wT kO kT iC vF) {p : Program} {e : Env} {s : State} {m : MethodId} {below : List Frame} {meth : Method} {c : Code} (St : Stp p Z s m meth c code maxLocals ret x) (hh : s.heap = h0) :
    ∀ (TJ4 : State) (hJ4 : Heap) (vmJ4 : Vm) (kJ4 : Nat) (LJ4 : List Loc) (kd : Int32) (le : Int32) (y3 : Int32) (y4 : Int32) (ra0 : Addr) (ra1 : Addr) (ra2 : Addr) (dr : Addr) (uid : Int32) (us : Addr) (r0 : Addr) (tr : Addr) (kr : ClassId) (nt : Int32) (ng : Int32) (ab : Int64) (dc : Int32) (nl : Int32) (pv : Int32) (qv : Int32) (sv : Int32) (tv : Int32) (pn : Nat), (Stand p l e room_1 (s.setVm vmJ4) m #[(.int p1), (.int p2), (.int p3), (.int p4)] below meth c TJ4 LJ4 24 1349) → (TJ4.heap = hJ4) → (Old Z n0 hJ4) → (Fr n0 LJ4) → (s.Since vmJ4 kJ4) → (kJ4 ≤ hJ4.size) → (Z.Warmed39 (s.setVm vmJ4).vm) → ((s.setVm vmJ4).vm.findClass "com/example/wirecall/wirecall/demo/UserToStringPinLaw" = some m.cls) → (CHr Z EL s.vm h0 vmJ4 hJ4) → (Ln nt (RL uid nulL)) → (nulL.length ≤ 4) → (pn ≤ 13) → (12 + (dsL uid).length = pn + dgs (nAbs uid)) → (qv.toInt = (pn : Int) + (dgs (nAbs uid) : Nat)) → (sv.toInt = (pn : Int) + (dgs (nAbs uid) : Nat) + 11) → (tv.toInt = (pn : Int) + (dgs (nAbs uid) : Nat) + 11 + nulL.length + 1) → (Dg pv dc nt (nAbs uid) (RL uid nulL)) → (ab.toInt = (nAbs uid : Int)) → (¬ ng = (0 : Int32) → uid < (0 : Int32)) → (Exa Z hJ4 r0 "java/lang/String") → (Fld Z hJ4 r0 "java/lang/String" "coder" "B" (.int (0 : Int32))) → (Fld Z hJ4 r0 "java/lang/String" "value" "[B" (.ref tr)) → (Arv Z hJ4 tr kr .byte nt (RL uid nulL) (.int (0 : Int32))) → Go p e below (DoneW s Z EL (QL n0) room_1.cells room_1.slots) TJ4 (mkF m 778 #[iv p1, iv p2, iv p3, iv p4, iv kd, iv le, iv y3, iv y4, rv ra0, rv ra1, rv ra2, rv dr, .val .null, iv uid, rv us, rv r0, iv ng, .val (.long ab), .second, iv dc, iv nl, iv pv, iv qv, iv sv, iv tv, iv 1] []) := by
  obtain ⟨hx, hby, hml, hnm, hlk, hret, hZ, hown⟩ := St
  have hEL := own_EL hw
  have wS := own_wS hw
  have N0 := Fr.nil n0
  have D := @hb _ _ hby
  have ⟨S_iC, nz_iC, S_vF, r_vF, S_wO, E_wO, S_wT, E_wT, V_wO, V_wT⟩ := WW
  have lt_wO := E_wO.lt
  have lt_wT := E_wT.lt
  have A902 := @rm0_A902 l Z a0 hw p1 p2 p3 p4 wO wT kO kT iC vF h0 n0 O0 WW p e s m below meth c ⟨hx, hby, hml, hnm, hlk, hret, hZ, hown⟩ hh
  intro TJ4 hJ4 vmJ4 kJ4 LJ4 kd le y3 y4 ra0 ra1 ra2 dr uid us r0 tr kr nt ng ab dc nl pv qv sv tv pn XJ4 eJ4 OJ4 NJ4 hSJ4 hkJ4 hZJ4 hownJ4 CRJ4 lr hnl hpn hL tq ts tt hdg eab hng E_r0 F_r0_coder F_r0_value V_tr
  have lt_r0 := E_r0.lt
  have lt_tr := V_tr.lt
  have hD := dgs_b (nAbs uid)
  refine zal 780 XJ4 hx (D at_778) rfl rfl ?_
  refine Go.st (f' := (mkF m 783 #[iv p1, iv p2, iv p3, iv p4, iv kd, iv le, iv y3, iv y4, rv ra0, rv ra1, rv ra2, rv dr, .val .null, iv uid, rv us, rv r0, iv ng, .val (.long ab), .second, iv dc, iv nl, iv pv, iv qv, iv sv, iv tv, iv 1] [])) (fun _ k => XS.ifnonnullNo XJ4.here hx rfl (D at_780) rfl k) ?_
  refine zil 785 XJ4 hx (D at_783) rfl ?_
  refine zfn 788 XJ4 hx (D at_785) (by decide) ?_
  refine zal 790 XJ4 hx (D at_788) rfl rfl ?_
  refine zil 792 XJ4 hx (D at_790) rfl ?_
  refine zbp 794 110 XJ4 hx (D at_792) ?_
  have ix6 := ixa (i := sv) (p := pn) (D := dgs (nAbs uid)) (off := 11) lr ts hL (by decide)
  refine gS 797 0 24 1349 XJ4 NJ4 hx hZJ4 (y := mq43) hownJ4 hml (ww hw 201 rfl) (ww hw 202 rfl) (ww hw 197 rfl) (rmCh l Z a0 hw [] r0 tr kr nt (RL uid nulL) sv (110 : Int32) (110 : Int32) wO wT kO kT iC vF hJ4 n0 OJ4 ix6.1 ix6.2.1 (n_eq (j := 0) ix6.2.2 (by decide) rfl) (by decide) E_r0 F_r0_coder F_r0_value V_tr WW) (ww hw 203 rfl) eJ4 [(.ref r0), (.int sv), (.int 110)] [] (lenOf pd__Ljava_lang_String_IC_Z rfl) (D at_794) ?_
  rintro T5 L5 M5 _ X5 uu5 ⟨rfl, Nq5, kq5⟩
  have N5 := uu5 Nq5
  refine zsk [(.int 1)] ?_
  refine zfn 800 X5 hx (D at_797) (by decide) ?_
  refine zal 802 X5 hx (D at_800) rfl rfl ?_
  refine zil 804 X5 hx (D at_802) rfl ?_
  refine zic 805 1 X5 hx (D at_804) ?_
  refine zad 806 X5 hx (D at_805) ?_
  refine zbp 808 117 X5 hx (D at_806) ?_
  have ix8 := ixa (i := (sv + (1 : Int32))) (p := pn) (D := dgs (nAbs uid)) (off := 12) lr (adj (off := 11) ts hpn hD.2 (by decide) (1 : Int32) 1 (by decide) (by decide)) hL (by decide)
  refine gS 811 0 24 1349 X5 N5 hx hZJ4 (y := mq43) hownJ4 hml (ww hw 201 rfl) (ww hw 202 rfl) (ww hw 197 rfl) (rmCh l Z a0 hw [] r0 tr kr nt (RL uid nulL) (sv + (1 : Int32)) (117 : Int32) (117 : Int32) wO wT kO kT iC vF hJ4 n0 OJ4 ix8.1 ix8.2.1 (n_eq (j := 1) ix8.2.2 (by decide) rfl) (by decide) E_r0 F_r0_coder F_r0_value V_tr WW) (ww hw 203 rfl) kq5 [(.ref r0), (.int (sv + (1 : Int32))), (.int 117)] [] (lenOf pd__Ljava_lang_String_IC_Z rfl) (D at_808) ?_
  rintro T7 L7 M7 _ X7 uu7 ⟨rfl, Nq7, kq7⟩
  have N7 := uu7 Nq7
  refine zsk [(.int 1)] ?_
  refine zfn 814 X7 hx (D at_811) (by decide) ?_
  refine zal 816 X7 hx (D at_814) rfl rfl ?_
  refine zil 818 X7 hx (D at_816) rfl ?_
  refine zic 819 2 X7 hx (D at_818) ?_
  refine zad 820 X7 hx (D at_819) ?_
  refine zbp 822 108 X7 hx (D at_820) ?_
  have ix10 := ixa (i := (sv + (2 : Int32))) (p := pn) (D := dgs (nAbs uid)) (off := 13) lr (adj (off := 11) ts hpn hD.2 (by decide) (2 : Int32) 2 (by decide) (by decide)) hL (by decide)
  refine gS 825 0 24 1349 X7 N7 hx hZJ4 (y := mq43) hownJ4 hml (ww hw 201 rfl) (ww hw 202 rfl) (ww hw 197 rfl) (rmCh l Z a0 hw [] r0 tr kr nt (RL uid nulL) (sv + (2 : Int32)) (108 : Int32) (108 : Int32) wO wT kO kT iC vF hJ4 n0 OJ4 ix10.1 ix10.2.1 (n_eq (j := 2) ix10.2.2 (by decide) rfl) (by decide) E_r0 F_r0_coder F_r0_value V_tr WW) (ww hw 203 rfl) kq7 [(.ref r0), (.int (sv + (2 : Int32))), (.int 108)] [] (lenOf pd__Ljava_lang_String_IC_Z rfl) (D at_822) ?_
  rintro T9 L9 M9 _ X9 uu9 ⟨rfl, Nq9, kq9⟩
  have N9 := uu9 Nq9
  refine zsk [(.int 1)] ?_
  refine zfn 828 X9 hx (D at_825) (by decide) ?_
  refine zal 830 X9 hx (D at_828) rfl rfl ?_
  refine zil 832 X9 hx (D at_830) rfl ?_
  refine zic 833 3 X9 hx (D at_832) ?_
  refine zad 834 X9 hx (D at_833) ?_
  refine zbp 836 108 X9 hx (D at_834) ?_
  have ix12 := ixa (i := (sv + (3 : Int32))) (p := pn) (D := dgs (nAbs uid)) (off := 14) lr (adj (off := 11) ts hpn hD.2 (by decide) (3 : Int32) 3 (by decide) (by decide)) hL (by decide)
  refine gS 839 0 24 1349 X9 N9 hx hZJ4 (y := mq43) hownJ4 hml (ww hw 201 rfl) (ww hw 202 rfl) (ww hw 197 rfl) (rmCh l Z a0 hw [] r0 tr kr nt (RL uid nulL) (sv + (3 : Int32)) (108 : Int32) (108 : Int32) wO wT kO kT iC vF hJ4 n0 OJ4 ix12.1 ix12.2.1 (n_eq (j := 3) ix12.2.2 (by decide) rfl) (by decide) E_r0 F_r0_coder F_r0_value V_tr WW) (ww hw 203 rfl) kq9 [(.ref r0), (.int (sv + (3 : Int32))), (.int 108)] [] (lenOf pd__Ljava_lang_String_IC_Z rfl) (D at_836) ?_
  rintro T11 L11 M11 _ X11 uu11 ⟨rfl, Nq11, kq11⟩
  have N11 := uu11 Nq11
  refine zsk [(.int 1)] ?_
  refine zfn 842 X11 hx (D at_839) (by decide) ?_
  refine zic 843 1 X11 hx (D at_842) ?_
  refine zgo 847 X11 hx (D at_843) ?_
  refine zsl 849 #[iv p1, iv p2, iv p3, iv p4, iv kd, iv le, iv y3, iv y4, rv ra0, rv ra1, rv ra2, rv dr, .val .null, iv uid, rv us, rv r0, iv ng, .val (.long ab), .second, iv dc, iv nl, iv pv, iv qv, iv sv, iv tv, iv 1] X11 hx (D at_847) ?_
  refine zgo 902 X11 hx (D at_849) ?_
  exact A902 _ hJ4 vmJ4 _ _ kd le y3 y4 ra0 ra1 ra2 dr .null uid us r0 tr kr nt nulL ng ab dc nl pv qv sv tv pn X11 kq11 OJ4 N11 hSJ4 hkJ4 hZJ4 hownJ4 CRJ4 lr hnl hpn hL tq ts tt hdg eab hng E_r0 F_r0_coder F_r0_value V_tr
set_option maxRecDepth 65536 in
set_option maxHeartbeats 40000000 in
theorem rm0_A778d (l : Launch) (Z : State) (a0 : Array Value) (hw : ∀ d ∈ tables_1, d.before a0 Z = true) (p1 : Int32) (p2 : Int32) (p3 : Int32) (p4 : Int32) (wO : Addr) (wT : Addr) (kO : ClassId) (kT : ClassId) (iC : Int32) (vF : Value) (h0 : Heap) (n0 : Nat) (O0 : Old Z n0 h0) (WW : World1 Z wO wT kO kT iC vF) {p : Program} {e : Env} {s : State} {m : MethodId} {below : List Frame} {meth : Method} {c : Code} (St : Stp p Z s m meth c code maxLocals ret x) (hh : s.heap = h0) :
    ∀ (TJ13 : State) (hJ13 : Heap) (vmJ13 : Vm) (kJ13 : Nat) (LJ13 : List Loc) (kd : Int32) (le : Int32) (y3 : Int32) (y4 : Int32) (ra0 : Addr) (ra1 : Addr) (ra2 : Addr) (dr : Addr) (uid : Int32) (us : Addr) (r0 : Addr) (tr : Addr) (kr : ClassId) (nt : Int32) (nm : List Value) (ng : Int32) (ab : Int64) (dc : Int32) (nl : Int32) (pv : Int32) (qv : Int32) (sv : Int32) (tv : Int32) (pn : Nat) (dd : Addr), (Stand p l e room_1 (s.setVm vmJ13) m #[(.int p1), (.int p2), (.int p3), (.int p4)] below meth c TJ13 LJ13 24 1349) → (TJ13.heap = hJ13) → (Old Z n0 hJ13) → (Fr n0 LJ13) → (s.Since vmJ13 kJ13) → (kJ13 ≤ hJ13.size) → (Z.Warmed39 (s.setVm vmJ13).vm) → ((s.setVm vmJ13).vm.findClass "com/example/wirecall/wirecall/demo/UserToStringPinLaw" = some m.cls) → (CHr Z EL s.vm h0 vmJ13 hJ13) → (Ln nt (RL uid nm)) → (nm.length ≤ 4) → (pn ≤ 13) → (12 + (dsL uid).length = pn + dgs (nAbs uid)) → (qv.toInt = (pn : Int) + (dgs (nAbs uid) : Nat)) → (sv.toInt = (pn : Int) + (dgs (nAbs uid) : Nat) + 11) → (tv.toInt = (pn : Int) + (dgs (nAbs uid) : Nat) + 11 + nm.length + 1) → (Dg pv dc nt (nAbs uid) (RL uid nm)) → (ab.toInt = (nAbs uid : Int)) → (¬ ng = (0 : Int32) → uid < (0 : Int32)) → (Exa Z hJ13 r0 "java/lang/String") → (Fld Z hJ13 r0 "java/lang/String" "coder" "B" (.int (0 : Int32))) → (Fld Z hJ13 r0 "java/lang/String" "value" "[B" (.ref tr)) → (Arv Z hJ13 tr kr .byte nt (RL uid nm) (.int (0 : Int32))) → (Ln nl nm) → (1 ≤ nm.length → nm.getD 0 (.int (0 : Int32)) = .int (nar .byte ((nar .char y3).toInt8.toInt32))) → (2 ≤ nm.length → nm.getD 1 (.int (0 : Int32)) = .int (nar .byte ((nar .char y4).toInt8.toInt32))) → ((caL (nar .byte ((nar .char y3).toInt8.toInt32))) = y3) → ((caL (nar .byte ((nar .char y4).toInt8.toInt32))) = y4) → Go p e below (DoneW s Z EL (QL n0) room_1.cells room_1.slots) TJ13 (mkF m 778 #[iv p1, iv p2, iv p3, iv p4, iv kd, iv le, iv y3, iv y4, rv ra0, rv ra1, rv ra2, rv dr, rv dd, iv uid, rv us, rv r0, iv ng, .val (.long ab), .second, iv dc, iv nl, iv pv, iv qv, iv sv, iv tv, iv 1] []) := by
  obtain ⟨hx, hby, hml, hnm, hlk, hret, hZ, hown⟩ := St
  have hEL := own_EL hw
  have wS := own_wS hw
  have N0 := Fr.nil n0
  have D := @hb _ _ hby
  have ⟨S_iC, nz_iC, S_vF, r_vF, S_wO, E_wO, S_wT, E_wT, V_wO, V_wT⟩ := WW
  have lt_wO := E_wO.lt
  have lt_wT := E_wT.lt
  have A902 := @rm0_A902 l Z a0 hw p1 p2 p3 p4 wO wT kO kT iC vF h0 n0 O0 WW p e s m below meth c ⟨hx, hby, hml, hnm, hlk, hret, hZ, hown⟩ hh
  intro TJ13 hJ13 vmJ13 kJ13 LJ13 kd le y3 y4 ra0 ra1 ra2 dr uid us r0 tr kr nt nm ng ab dc nl pv qv sv tv pn dd XJ13 eJ13 OJ13 NJ13 hSJ13 hkJ13 hZJ13 hownJ13 CRJ13 lr hnl hpn hL tq ts tt hdg eab hng E_r0 F_r0_coder F_r0_value V_tr l1 hc0 hc1 ey3 ey4
  have lt_r0 := E_r0.lt
  have lt_tr := V_tr.lt
  have hD := dgs_b (nAbs uid)
  refine zal 780 XJ13 hx (D at_778) rfl rfl ?_
  refine Go.st (f' := (mkF m 852 #[iv p1, iv p2, iv p3, iv p4, iv kd, iv le, iv y3, iv y4, rv ra0, rv ra1, rv ra2, rv dr, rv dd, iv uid, rv us, rv r0, iv ng, .val (.long ab), .second, iv dc, iv nl, iv pv, iv qv, iv sv, iv tv, iv 1] [])) (fun _ k => XS.ifnonnullYes XJ13.here hx rfl (pc0 := 780) (pc' := 852) rfl (D at_780) rfl (by decide) (by decide) k) ?_
  refine zil 854 XJ13 hx (D at_852) rfl ?_
  refine zfn 857 XJ13 hx (D at_854) (by decide) ?_
  refine zil 859 XJ13 hx (D at_857) rfl ?_
  refine zic 860 1 XJ13 hx (D at_859) ?_
  by_cases cd14 : nl < (1 : Int32)
  · refine zcy 875 XJ13 hx (D at_860) (tlt cd14).1 ?_
    refine zil 877 XJ13 hx (D at_875) rfl ?_
    refine zic 878 2 XJ13 hx (D at_877) ?_
    by_cases cd15 : nl < (2 : Int32)
    · refine zcy 895 XJ13 hx (D at_878) (tlt cd15).1 ?_
      refine zic 896 1 XJ13 hx (D at_895) ?_
      refine zgo 900 XJ13 hx (D at_896) ?_
      refine zsl 902 #[iv p1, iv p2, iv p3, iv p4, iv kd, iv le, iv y3, iv y4, rv ra0, rv ra1, rv ra2, rv dr, rv dd, iv uid, rv us, rv r0, iv ng, .val (.long ab), .second, iv dc, iv nl, iv pv, iv qv, iv sv, iv tv, iv 1] XJ13 hx (D at_900) ?_
      exact A902 _ hJ13 vmJ13 _ _ kd le y3 y4 ra0 ra1 ra2 dr (.ref dd) uid us r0 tr kr nt nm ng ab dc nl pv qv sv tv pn XJ13 eJ13 OJ13 NJ13 hSJ13 hkJ13 hZJ13 hownJ13 CRJ13 lr hnl hpn hL tq ts tt hdg eab hng E_r0 F_r0_coder F_r0_value V_tr
    · refine zcn 881 XJ13 hx (D at_878) (flt cd15).1 ?_
      refine zal 883 XJ13 hx (D at_881) rfl rfl ?_
      refine zil 885 XJ13 hx (D at_883) rfl ?_
      refine zic 886 1 XJ13 hx (D at_885) ?_
      refine zad 887 XJ13 hx (D at_886) ?_
      refine zil 889 XJ13 hx (D at_887) rfl ?_
      have hjix17 : 2 ≤ nm.length := own_n1 l1 cd15 (by decide)
      have ix17 := ixa (i := (sv + (1 : Int32))) (p := pn) (D := dgs (nAbs uid)) (off := 12) lr (adj (off := 11) ts hpn hD.2 (by decide) (1 : Int32) 1 (by decide) (by decide)) hL (Nat.add_le_add_left (Nat.le_of_lt hjix17) 11)
      refine gS 892 0 24 1349 XJ13 NJ13 hx hZJ13 (y := mq43) hownJ13 hml (ww hw 201 rfl) (ww hw 202 rfl) (ww hw 197 rfl) (rmCh l Z a0 hw [] r0 tr kr nt (RL uid nm) (sv + (1 : Int32)) (nar .byte ((nar .char y4).toInt8.toInt32)) y4 wO wT kO kT iC vF hJ13 n0 OJ13 ix17.1 ix17.2.1 (n_eq (j := 1) ix17.2.2 hjix17 (hc1 hjix17)) ey4 E_r0 F_r0_coder F_r0_value V_tr WW) (ww hw 203 rfl) eJ13 [(.ref r0), (.int (sv + (1 : Int32))), (.int y4)] [] (lenOf pd__Ljava_lang_String_IC_Z rfl) (D at_889) ?_
      rintro T16 L16 M16 _ X16 uu16 ⟨rfl, Nq16, kq16⟩
      have N16 := uu16 Nq16
      refine zsk [(.int 1)] ?_
      refine zfn 895 X16 hx (D at_892) (by decide) ?_
      refine zic 896 1 X16 hx (D at_895) ?_
      refine zgo 900 X16 hx (D at_896) ?_
      refine zsl 902 #[iv p1, iv p2, iv p3, iv p4, iv kd, iv le, iv y3, iv y4, rv ra0, rv ra1, rv ra2, rv dr, rv dd, iv uid, rv us, rv r0, iv ng, .val (.long ab), .second, iv dc, iv nl, iv pv, iv qv, iv sv, iv tv, iv 1] X16 hx (D at_900) ?_
      exact A902 _ hJ13 vmJ13 _ _ kd le y3 y4 ra0 ra1 ra2 dr (.ref dd) uid us r0 tr kr nt nm ng ab dc nl pv qv sv tv pn X16 kq16 OJ13 N16 hSJ13 hkJ13 hZJ13 hownJ13 CRJ13 lr hnl hpn hL tq ts tt hdg eab hng E_r0 F_r0_coder F_r0_value V_tr
  · refine zcn 863 XJ13 hx (D at_860) (flt cd14).1 ?_
    refine zal 865 XJ13 hx (D at_863) rfl rfl ?_
    refine zil 867 XJ13 hx (D at_865) rfl ?_
    refine zil 869 XJ13 hx (D at_867) rfl ?_
    have hjix19 : 1 ≤ nm.length := own_n1 l1 cd14 (by decide)
    have ix19 := ixa (i := sv) (p := pn) (D := dgs (nAbs uid)) (off := 11) lr ts hL (Nat.add_le_add_left (Nat.le_of_lt hjix19) 11)
    refine gS 872 0 24 1349 XJ13 NJ13 hx hZJ13 (y := mq43) hownJ13 hml (ww hw 201 rfl) (ww hw 202 rfl) (ww hw 197 rfl) (rmCh l Z a0 hw [] r0 tr kr nt (RL uid nm) sv (nar .byte ((nar .char y3).toInt8.toInt32)) y3 wO wT kO kT iC vF hJ13 n0 OJ13 ix19.1 ix19.2.1 (n_eq (j := 0) ix19.2.2 hjix19 (hc0 hjix19)) ey3 E_r0 F_r0_coder F_r0_value V_tr WW) (ww hw 203 rfl) eJ13 [(.ref r0), (.int sv), (.int y3)] [] (lenOf pd__Ljava_lang_String_IC_Z rfl) (D at_869) ?_
    rintro T18 L18 M18 _ X18 uu18 ⟨rfl, Nq18, kq18⟩
    have N18 := uu18 Nq18
    refine zsk [(.int 1)] ?_
    refine zfn 875 X18 hx (D at_872) (by decide) ?_
    refine zil 877 X18 hx (D at_875) rfl ?_
    refine zic 878 2 X18 hx (D at_877) ?_
    by_cases cd20 : nl < (2 : Int32)
    · refine zcy 895 X18 hx (D at_878) (tlt cd20).1 ?_
      refine zic 896 1 X18 hx (D at_895) ?_
      refine zgo 900 X18 hx (D at_896) ?_
      refine zsl 902 #[iv p1, iv p2, iv p3, iv p4, iv kd, iv le, iv y3, iv y4, rv ra0, rv ra1, rv ra2, rv dr, rv dd, iv uid, rv us, rv r0, iv ng, .val (.long ab), .second, iv dc, iv nl, iv pv, iv qv, iv sv, iv tv, iv 1] X18 hx (D at_900) ?_
      exact A902 _ hJ13 vmJ13 _ _ kd le y3 y4 ra0 ra1 ra2 dr (.ref dd) uid us r0 tr kr nt nm ng ab dc nl pv qv sv tv pn X18 kq18 OJ13 N18 hSJ13 hkJ13 hZJ13 hownJ13 CRJ13 lr hnl hpn hL tq ts tt hdg eab hng E_r0 F_r0_coder F_r0_value V_tr
    · refine zcn 881 X18 hx (D at_878) (flt cd20).1 ?_
      refine zal 883 X18 hx (D at_881) rfl rfl ?_
      refine zil 885 X18 hx (D at_883) rfl ?_
      refine zic 886 1 X18 hx (D at_885) ?_
      refine zad 887 X18 hx (D at_886) ?_
      refine zil 889 X18 hx (D at_887) rfl ?_
      have hjix22 : 2 ≤ nm.length := own_n1 l1 cd20 (by decide)
      have ix22 := ixa (i := (sv + (1 : Int32))) (p := pn) (D := dgs (nAbs uid)) (off := 12) lr (adj (off := 11) ts hpn hD.2 (by decide) (1 : Int32) 1 (by decide) (by decide)) hL (Nat.add_le_add_left (Nat.le_of_lt hjix22) 11)
      refine gS 892 0 24 1349 X18 N18 hx hZJ13 (y := mq43) hownJ13 hml (ww hw 201 rfl) (ww hw 202 rfl) (ww hw 197 rfl) (rmCh l Z a0 hw [] r0 tr kr nt (RL uid nm) (sv + (1 : Int32)) (nar .byte ((nar .char y4).toInt8.toInt32)) y4 wO wT kO kT iC vF hJ13 n0 OJ13 ix22.1 ix22.2.1 (n_eq (j := 1) ix22.2.2 hjix22 (hc1 hjix22)) ey4 E_r0 F_r0_coder F_r0_value V_tr WW) (ww hw 203 rfl) kq18 [(.ref r0), (.int (sv + (1 : Int32))), (.int y4)] [] (lenOf pd__Ljava_lang_String_IC_Z rfl) (D at_889) ?_
      rintro T21 L21 M21 _ X21 uu21 ⟨rfl, Nq21, kq21⟩
      have N21 := uu21 Nq21
      refine zsk [(.int 1)] ?_
      refine zfn 895 X21 hx (D at_892) (by decide) ?_
      refine zic 896 1 X21 hx (D at_895) ?_
      refine zgo 900 X21 hx (D at_896) ?_
      refine zsl 902 #[iv p1, iv p2, iv p3, iv p4, iv kd, iv le, iv y3, iv y4, rv ra0, rv ra1, rv ra2, rv dr, rv dd, iv uid, rv us, rv r0, iv ng, .val (.long ab), .second, iv dc, iv nl, iv pv, iv qv, iv sv, iv tv, iv 1] X21 hx (D at_900) ?_
      exact A902 _ hJ13 vmJ13 _ _ kd le y3 y4 ra0 ra1 ra2 dr (.ref dd) uid us r0 tr kr nt nm ng ab dc nl pv qv sv tv pn X21 kq21 OJ13 N21 hSJ13 hkJ13 hZJ13 hownJ13 CRJ13 lr hnl hpn hL tq ts tt hdg eab hng E_r0 F_r0_coder F_r0_value V_tr
set_option maxRecDepth 65536 in
set_option maxHeartbeats 40000000 in
theorem rm0_A609 (l : Launch) (Z : State) (a0 : Array Value) (hw : ∀ d ∈ tables_1, d.before a0 Z = true) (p1 : Int32) (p2 : Int32) (p3 : Int32) (p4 : Int32) (wO : Addr) (wT : Addr) (kO : ClassId) (kT : ClassId) (iC : Int32) (vF : Value) (h0 : Heap) (n0 : Nat) (O0 : Old Z n0 h0) (WW : World1 Z wO wT kO kT iC vF) {p : Program} {e : Env} {s : State} {m : MethodId} {below : List Frame} {meth : Method} {c : Code} (St : Stp p Z s m meth c code maxLocals ret x) (hh : s.heap = h0) :
    ∀ (TJ23 : State) (hJ23 : Heap) (vmJ23 : Vm) (kJ23 : Nat) (LJ23 : List Loc) (kd : Int32) (le : Int32) (y3 : Int32) (y4 : Int32) (ra0 : Addr) (ra1 : Addr) (ra2 : Addr) (dr : Addr) (vn : Value) (uid : Int32) (us : Addr) (r0 : Addr) (tr : Addr) (kr : ClassId) (nt : Int32) (nm : List Value) (ng : Int32) (ab : Int64) (dc : Int32) (nl : Int32) (pv : Int32) (qv : Int32) (sv : Int32) (tv : Int32) (pn : Nat), (Stand p l e room_1 (s.setVm vmJ23) m #[(.int p1), (.int p2), (.int p3), (.int p4)] below meth c TJ23 LJ23 24 1349) → (TJ23.heap = hJ23) → (Old Z n0 hJ23) → (Fr n0 LJ23) → (s.Since vmJ23 kJ23) → (kJ23 ≤ hJ23.size) → (Z.Warmed39 (s.setVm vmJ23).vm) → ((s.setVm vmJ23).vm.findClass "com/example/wirecall/wirecall/demo/UserToStringPinLaw" = some m.cls) → (CHr Z EL s.vm h0 vmJ23 hJ23) → (Ln nt (RL uid nm)) → (nm.length ≤ 4) → (pn ≤ 13) → (12 + (dsL uid).length = pn + dgs (nAbs uid)) → (qv.toInt = (pn : Int) + (dgs (nAbs uid) : Nat)) → (sv.toInt = (pn : Int) + (dgs (nAbs uid) : Nat) + 11) → (tv.toInt = (pn : Int) + (dgs (nAbs uid) : Nat) + 11 + nm.length + 1) → (Dg pv dc nt (nAbs uid) (RL uid nm)) → (ab.toInt = (nAbs uid : Int)) → (¬ ng = (0 : Int32) → uid < (0 : Int32)) → ((vn = .null ∧ nm = nulL) ∨ (∃ dd : Addr, vn = .ref dd ∧ Ln nl nm ∧ (1 ≤ nm.length → nm.getD 0 (.int (0 : Int32)) = .int (nar .byte ((nar .char y3).toInt8.toInt32))) ∧ (2 ≤ nm.length → nm.getD 1 (.int (0 : Int32)) = .int (nar .byte ((nar .char y4).toInt8.toInt32))) ∧ (caL (nar .byte ((nar .char y3).toInt8.toInt32))) = y3 ∧ (caL (nar .byte ((nar .char y4).toInt8.toInt32))) = y4)) → (Exa Z hJ23 r0 "java/lang/String") → (Fld Z hJ23 r0 "java/lang/String" "coder" "B" (.int (0 : Int32))) → (Fld Z hJ23 r0 "java/lang/String" "value" "[B" (.ref tr)) → (Arv Z hJ23 tr kr .byte nt (RL uid nm) (.int (0 : Int32))) → Go p e below (DoneW s Z EL (QL n0) room_1.cells room_1.slots) TJ23 (mkF m 609 #[iv p1, iv p2, iv p3, iv p4, iv kd, iv le, iv y3, iv y4, rv ra0, rv ra1, rv ra2, rv dr, (.val vn), iv uid, rv us, rv r0, iv ng, .val (.long ab), .second, iv dc, iv nl, iv pv, iv qv, iv sv, iv tv, iv 1] []) := by
  obtain ⟨hx, hby, hml, hnm, hlk, hret, hZ, hown⟩ := St
  have hEL := own_EL hw
  have wS := own_wS hw
  have N0 := Fr.nil n0
  have D := @hb _ _ hby
  have ⟨S_iC, nz_iC, S_vF, r_vF, S_wO, E_wO, S_wT, E_wT, V_wO, V_wT⟩ := WW
  have lt_wO := E_wO.lt
  have lt_wT := E_wT.lt
  have A778n := @rm0_A778n l Z a0 hw p1 p2 p3 p4 wO wT kO kT iC vF h0 n0 O0 WW p e s m below meth c ⟨hx, hby, hml, hnm, hlk, hret, hZ, hown⟩ hh
  have A778d := @rm0_A778d l Z a0 hw p1 p2 p3 p4 wO wT kO kT iC vF h0 n0 O0 WW p e s m below meth c ⟨hx, hby, hml, hnm, hlk, hret, hZ, hown⟩ hh
  intro TJ23 hJ23 vmJ23 kJ23 LJ23 kd le y3 y4 ra0 ra1 ra2 dr vn uid us r0 tr kr nt nm ng ab dc nl pv qv sv tv pn XJ23 eJ23 OJ23 NJ23 hSJ23 hkJ23 hZJ23 hownJ23 CRJ23 lr hnl hpn hL tq ts tt hdg eab hng hv E_r0 F_r0_coder F_r0_value V_tr
  have lt_r0 := E_r0.lt
  have lt_tr := V_tr.lt
  have hD := dgs_b (nAbs uid)
  refine zil 611 XJ23 hx (D at_609) rfl ?_
  refine zfn 614 XJ23 hx (D at_611) (by decide) ?_
  refine zal 616 XJ23 hx (D at_614) rfl rfl ?_
  refine zil 618 XJ23 hx (D at_616) rfl ?_
  refine zbp 620 44 XJ23 hx (D at_618) ?_
  have ix25 := ixa (i := qv) (p := pn) (D := dgs (nAbs uid)) (off := 0) lr (tq.trans (Int.add_zero _).symm) hL (Nat.le_trans (by decide : 0 ≤ 11) (Nat.le_add_right _ _))
  refine gS 623 0 24 1349 XJ23 NJ23 hx hZJ23 (y := mq43) hownJ23 hml (ww hw 201 rfl) (ww hw 202 rfl) (ww hw 197 rfl) (rmCh l Z a0 hw [] r0 tr kr nt (RL uid nm) qv (44 : Int32) (44 : Int32) wO wT kO kT iC vF hJ23 n0 OJ23 ix25.1 ix25.2.1 (q_eq ix25.2.2 (by decide) rfl) (by decide) E_r0 F_r0_coder F_r0_value V_tr WW) (ww hw 203 rfl) eJ23 [(.ref r0), (.int qv), (.int 44)] [] (lenOf pd__Ljava_lang_String_IC_Z rfl) (D at_620) ?_
  rintro T24 L24 M24 _ X24 uu24 ⟨rfl, Nq24, kq24⟩
  have N24 := uu24 Nq24
  refine zsk [(.int 1)] ?_
  refine zfn 626 X24 hx (D at_623) (by decide) ?_
  refine zal 628 X24 hx (D at_626) rfl rfl ?_
  refine zil 630 X24 hx (D at_628) rfl ?_
  refine zic 631 1 X24 hx (D at_630) ?_
  refine zad 632 X24 hx (D at_631) ?_
  refine zbp 634 32 X24 hx (D at_632) ?_
  have ix27 := ixa (i := (qv + (1 : Int32))) (p := pn) (D := dgs (nAbs uid)) (off := 1) lr (adj (off := 0) (tq.trans (Int.add_zero _).symm) hpn hD.2 (by decide) (1 : Int32) 1 (by decide) (by decide)) hL (Nat.le_trans (by decide : 1 ≤ 11) (Nat.le_add_right _ _))
  refine gS 637 0 24 1349 X24 N24 hx hZJ23 (y := mq43) hownJ23 hml (ww hw 201 rfl) (ww hw 202 rfl) (ww hw 197 rfl) (rmCh l Z a0 hw [] r0 tr kr nt (RL uid nm) (qv + (1 : Int32)) (32 : Int32) (32 : Int32) wO wT kO kT iC vF hJ23 n0 OJ23 ix27.1 ix27.2.1 (q_eq ix27.2.2 (by decide) rfl) (by decide) E_r0 F_r0_coder F_r0_value V_tr WW) (ww hw 203 rfl) kq24 [(.ref r0), (.int (qv + (1 : Int32))), (.int 32)] [] (lenOf pd__Ljava_lang_String_IC_Z rfl) (D at_634) ?_
  rintro T26 L26 M26 _ X26 uu26 ⟨rfl, Nq26, kq26⟩
  have N26 := uu26 Nq26
  refine zsk [(.int 1)] ?_
  refine zfn 640 X26 hx (D at_637) (by decide) ?_
  refine zal 642 X26 hx (D at_640) rfl rfl ?_
  refine zil 644 X26 hx (D at_642) rfl ?_
  refine zic 645 2 X26 hx (D at_644) ?_
  refine zad 646 X26 hx (D at_645) ?_
  refine zbp 648 117 X26 hx (D at_646) ?_
  have ix29 := ixa (i := (qv + (2 : Int32))) (p := pn) (D := dgs (nAbs uid)) (off := 2) lr (adj (off := 0) (tq.trans (Int.add_zero _).symm) hpn hD.2 (by decide) (2 : Int32) 2 (by decide) (by decide)) hL (Nat.le_trans (by decide : 2 ≤ 11) (Nat.le_add_right _ _))
  refine gS 651 0 24 1349 X26 N26 hx hZJ23 (y := mq43) hownJ23 hml (ww hw 201 rfl) (ww hw 202 rfl) (ww hw 197 rfl) (rmCh l Z a0 hw [] r0 tr kr nt (RL uid nm) (qv + (2 : Int32)) (117 : Int32) (117 : Int32) wO wT kO kT iC vF hJ23 n0 OJ23 ix29.1 ix29.2.1 (q_eq ix29.2.2 (by decide) rfl) (by decide) E_r0 F_r0_coder F_r0_value V_tr WW) (ww hw 203 rfl) kq26 [(.ref r0), (.int (qv + (2 : Int32))), (.int 117)] [] (lenOf pd__Ljava_lang_String_IC_Z rfl) (D at_648) ?_
  rintro T28 L28 M28 _ X28 uu28 ⟨rfl, Nq28, kq28⟩
  have N28 := uu28 Nq28
  refine zsk [(.int 1)] ?_
  refine zfn 654 X28 hx (D at_651) (by decide) ?_
  refine zal 656 X28 hx (D at_654) rfl rfl ?_
  refine zil 658 X28 hx (D at_656) rfl ?_
  refine zic 659 3 X28 hx (D at_658) ?_
  refine zad 660 X28 hx (D at_659) ?_
  refine zbp 662 115 X28 hx (D at_660) ?_
  have ix31 := ixa (i := (qv + (3 : Int32))) (p := pn) (D := dgs (nAbs uid)) (off := 3) lr (adj (off := 0) (tq.trans (Int.add_zero _).symm) hpn hD.2 (by decide) (3 : Int32) 3 (by decide) (by decide)) hL (Nat.le_trans (by decide : 3 ≤ 11) (Nat.le_add_right _ _))
  refine gS 665 0 24 1349 X28 N28 hx hZJ23 (y := mq43) hownJ23 hml (ww hw 201 rfl) (ww hw 202 rfl) (ww hw 197 rfl) (rmCh l Z a0 hw [] r0 tr kr nt (RL uid nm) (qv + (3 : Int32)) (115 : Int32) (115 : Int32) wO wT kO kT iC vF hJ23 n0 OJ23 ix31.1 ix31.2.1 (q_eq ix31.2.2 (by decide) rfl) (by decide) E_r0 F_r0_coder F_r0_value V_tr WW) (ww hw 203 rfl) kq28 [(.ref r0), (.int (qv + (3 : Int32))), (.int 115)] [] (lenOf pd__Ljava_lang_String_IC_Z rfl) (D at_662) ?_
  rintro T30 L30 M30 _ X30 uu30 ⟨rfl, Nq30, kq30⟩
  have N30 := uu30 Nq30
  refine zsk [(.int 1)] ?_
  refine zfn 668 X30 hx (D at_665) (by decide) ?_
  refine zal 670 X30 hx (D at_668) rfl rfl ?_
  refine zil 672 X30 hx (D at_670) rfl ?_
  refine zic 673 4 X30 hx (D at_672) ?_
  refine zad 674 X30 hx (D at_673) ?_
  refine zbp 676 101 X30 hx (D at_674) ?_
  have ix33 := ixa (i := (qv + (4 : Int32))) (p := pn) (D := dgs (nAbs uid)) (off := 4) lr (adj (off := 0) (tq.trans (Int.add_zero _).symm) hpn hD.2 (by decide) (4 : Int32) 4 (by decide) (by decide)) hL (Nat.le_trans (by decide : 4 ≤ 11) (Nat.le_add_right _ _))
  refine gS 679 0 24 1349 X30 N30 hx hZJ23 (y := mq43) hownJ23 hml (ww hw 201 rfl) (ww hw 202 rfl) (ww hw 197 rfl) (rmCh l Z a0 hw [] r0 tr kr nt (RL uid nm) (qv + (4 : Int32)) (101 : Int32) (101 : Int32) wO wT kO kT iC vF hJ23 n0 OJ23 ix33.1 ix33.2.1 (q_eq ix33.2.2 (by decide) rfl) (by decide) E_r0 F_r0_coder F_r0_value V_tr WW) (ww hw 203 rfl) kq30 [(.ref r0), (.int (qv + (4 : Int32))), (.int 101)] [] (lenOf pd__Ljava_lang_String_IC_Z rfl) (D at_676) ?_
  rintro T32 L32 M32 _ X32 uu32 ⟨rfl, Nq32, kq32⟩
  have N32 := uu32 Nq32
  refine zsk [(.int 1)] ?_
  refine zfn 682 X32 hx (D at_679) (by decide) ?_
  refine zal 684 X32 hx (D at_682) rfl rfl ?_
  refine zil 686 X32 hx (D at_684) rfl ?_
  refine zic 687 5 X32 hx (D at_686) ?_
  refine zad 688 X32 hx (D at_687) ?_
  refine zbp 690 114 X32 hx (D at_688) ?_
  have ix35 := ixa (i := (qv + (5 : Int32))) (p := pn) (D := dgs (nAbs uid)) (off := 5) lr (adj (off := 0) (tq.trans (Int.add_zero _).symm) hpn hD.2 (by decide) (5 : Int32) 5 (by decide) (by decide)) hL (Nat.le_trans (by decide : 5 ≤ 11) (Nat.le_add_right _ _))
  refine gS 693 0 24 1349 X32 N32 hx hZJ23 (y := mq43) hownJ23 hml (ww hw 201 rfl) (ww hw 202 rfl) (ww hw 197 rfl) (rmCh l Z a0 hw [] r0 tr kr nt (RL uid nm) (qv + (5 : Int32)) (114 : Int32) (114 : Int32) wO wT kO kT iC vF hJ23 n0 OJ23 ix35.1 ix35.2.1 (q_eq ix35.2.2 (by decide) rfl) (by decide) E_r0 F_r0_coder F_r0_value V_tr WW) (ww hw 203 rfl) kq32 [(.ref r0), (.int (qv + (5 : Int32))), (.int 114)] [] (lenOf pd__Ljava_lang_String_IC_Z rfl) (D at_690) ?_
  rintro T34 L34 M34 _ X34 uu34 ⟨rfl, Nq34, kq34⟩
  have N34 := uu34 Nq34
  refine zsk [(.int 1)] ?_
  refine zfn 696 X34 hx (D at_693) (by decide) ?_
  refine zal 698 X34 hx (D at_696) rfl rfl ?_
  refine zil 700 X34 hx (D at_698) rfl ?_
  refine zbp 702 6 X34 hx (D at_700) ?_
  refine zad 703 X34 hx (D at_702) ?_
  refine zbp 705 78 X34 hx (D at_703) ?_
  have ix37 := ixa (i := (qv + (6 : Int32))) (p := pn) (D := dgs (nAbs uid)) (off := 6) lr (adj (off := 0) (tq.trans (Int.add_zero _).symm) hpn hD.2 (by decide) (6 : Int32) 6 (by decide) (by decide)) hL (Nat.le_trans (by decide : 6 ≤ 11) (Nat.le_add_right _ _))
  refine gS 708 0 24 1349 X34 N34 hx hZJ23 (y := mq43) hownJ23 hml (ww hw 201 rfl) (ww hw 202 rfl) (ww hw 197 rfl) (rmCh l Z a0 hw [] r0 tr kr nt (RL uid nm) (qv + (6 : Int32)) (78 : Int32) (78 : Int32) wO wT kO kT iC vF hJ23 n0 OJ23 ix37.1 ix37.2.1 (q_eq ix37.2.2 (by decide) rfl) (by decide) E_r0 F_r0_coder F_r0_value V_tr WW) (ww hw 203 rfl) kq34 [(.ref r0), (.int (qv + (6 : Int32))), (.int 78)] [] (lenOf pd__Ljava_lang_String_IC_Z rfl) (D at_705) ?_
  rintro T36 L36 M36 _ X36 uu36 ⟨rfl, Nq36, kq36⟩
  have N36 := uu36 Nq36
  refine zsk [(.int 1)] ?_
  refine zfn 711 X36 hx (D at_708) (by decide) ?_
  refine zal 713 X36 hx (D at_711) rfl rfl ?_
  refine zil 715 X36 hx (D at_713) rfl ?_
  refine zbp 717 7 X36 hx (D at_715) ?_
  refine zad 718 X36 hx (D at_717) ?_
  refine zbp 720 97 X36 hx (D at_718) ?_
  have ix39 := ixa (i := (qv + (7 : Int32))) (p := pn) (D := dgs (nAbs uid)) (off := 7) lr (adj (off := 0) (tq.trans (Int.add_zero _).symm) hpn hD.2 (by decide) (7 : Int32) 7 (by decide) (by decide)) hL (Nat.le_trans (by decide : 7 ≤ 11) (Nat.le_add_right _ _))
  refine gS 723 0 24 1349 X36 N36 hx hZJ23 (y := mq43) hownJ23 hml (ww hw 201 rfl) (ww hw 202 rfl) (ww hw 197 rfl) (rmCh l Z a0 hw [] r0 tr kr nt (RL uid nm) (qv + (7 : Int32)) (97 : Int32) (97 : Int32) wO wT kO kT iC vF hJ23 n0 OJ23 ix39.1 ix39.2.1 (q_eq ix39.2.2 (by decide) rfl) (by decide) E_r0 F_r0_coder F_r0_value V_tr WW) (ww hw 203 rfl) kq36 [(.ref r0), (.int (qv + (7 : Int32))), (.int 97)] [] (lenOf pd__Ljava_lang_String_IC_Z rfl) (D at_720) ?_
  rintro T38 L38 M38 _ X38 uu38 ⟨rfl, Nq38, kq38⟩
  have N38 := uu38 Nq38
  refine zsk [(.int 1)] ?_
  refine zfn 726 X38 hx (D at_723) (by decide) ?_
  refine zal 728 X38 hx (D at_726) rfl rfl ?_
  refine zil 730 X38 hx (D at_728) rfl ?_
  refine zbp 732 8 X38 hx (D at_730) ?_
  refine zad 733 X38 hx (D at_732) ?_
  refine zbp 735 109 X38 hx (D at_733) ?_
  have ix41 := ixa (i := (qv + (8 : Int32))) (p := pn) (D := dgs (nAbs uid)) (off := 8) lr (adj (off := 0) (tq.trans (Int.add_zero _).symm) hpn hD.2 (by decide) (8 : Int32) 8 (by decide) (by decide)) hL (Nat.le_trans (by decide : 8 ≤ 11) (Nat.le_add_right _ _))
  refine gS 738 0 24 1349 X38 N38 hx hZJ23 (y := mq43) hownJ23 hml (ww hw 201 rfl) (ww hw 202 rfl) (ww hw 197 rfl) (rmCh l Z a0 hw [] r0 tr kr nt (RL uid nm) (qv + (8 : Int32)) (109 : Int32) (109 : Int32) wO wT kO kT iC vF hJ23 n0 OJ23 ix41.1 ix41.2.1 (q_eq ix41.2.2 (by decide) rfl) (by decide) E_r0 F_r0_coder F_r0_value V_tr WW) (ww hw 203 rfl) kq38 [(.ref r0), (.int (qv + (8 : Int32))), (.int 109)] [] (lenOf pd__Ljava_lang_String_IC_Z rfl) (D at_735) ?_
  rintro T40 L40 M40 _ X40 uu40 ⟨rfl, Nq40, kq40⟩
  have N40 := uu40 Nq40
  refine zsk [(.int 1)] ?_
  refine zfn 741 X40 hx (D at_738) (by decide) ?_
  refine zal 743 X40 hx (D at_741) rfl rfl ?_
  refine zil 745 X40 hx (D at_743) rfl ?_
  refine zbp 747 9 X40 hx (D at_745) ?_
  refine zad 748 X40 hx (D at_747) ?_
  refine zbp 750 101 X40 hx (D at_748) ?_
  have ix43 := ixa (i := (qv + (9 : Int32))) (p := pn) (D := dgs (nAbs uid)) (off := 9) lr (adj (off := 0) (tq.trans (Int.add_zero _).symm) hpn hD.2 (by decide) (9 : Int32) 9 (by decide) (by decide)) hL (Nat.le_trans (by decide : 9 ≤ 11) (Nat.le_add_right _ _))
  refine gS 753 0 24 1349 X40 N40 hx hZJ23 (y := mq43) hownJ23 hml (ww hw 201 rfl) (ww hw 202 rfl) (ww hw 197 rfl) (rmCh l Z a0 hw [] r0 tr kr nt (RL uid nm) (qv + (9 : Int32)) (101 : Int32) (101 : Int32) wO wT kO kT iC vF hJ23 n0 OJ23 ix43.1 ix43.2.1 (q_eq ix43.2.2 (by decide) rfl) (by decide) E_r0 F_r0_coder F_r0_value V_tr WW) (ww hw 203 rfl) kq40 [(.ref r0), (.int (qv + (9 : Int32))), (.int 101)] [] (lenOf pd__Ljava_lang_String_IC_Z rfl) (D at_750) ?_
  rintro T42 L42 M42 _ X42 uu42 ⟨rfl, Nq42, kq42⟩
  have N42 := uu42 Nq42
  refine zsk [(.int 1)] ?_
  refine zfn 756 X42 hx (D at_753) (by decide) ?_
  refine zal 758 X42 hx (D at_756) rfl rfl ?_
  refine zil 760 X42 hx (D at_758) rfl ?_
  refine zbp 762 10 X42 hx (D at_760) ?_
  refine zad 763 X42 hx (D at_762) ?_
  refine zbp 765 61 X42 hx (D at_763) ?_
  have ix45 := ixa (i := (qv + (10 : Int32))) (p := pn) (D := dgs (nAbs uid)) (off := 10) lr (adj (off := 0) (tq.trans (Int.add_zero _).symm) hpn hD.2 (by decide) (10 : Int32) 10 (by decide) (by decide)) hL (Nat.le_trans (by decide : 10 ≤ 11) (Nat.le_add_right _ _))
  refine gS 768 0 24 1349 X42 N42 hx hZJ23 (y := mq43) hownJ23 hml (ww hw 201 rfl) (ww hw 202 rfl) (ww hw 197 rfl) (rmCh l Z a0 hw [] r0 tr kr nt (RL uid nm) (qv + (10 : Int32)) (61 : Int32) (61 : Int32) wO wT kO kT iC vF hJ23 n0 OJ23 ix45.1 ix45.2.1 (q_eq ix45.2.2 (by decide) rfl) (by decide) E_r0 F_r0_coder F_r0_value V_tr WW) (ww hw 203 rfl) kq42 [(.ref r0), (.int (qv + (10 : Int32))), (.int 61)] [] (lenOf pd__Ljava_lang_String_IC_Z rfl) (D at_765) ?_
  rintro T44 L44 M44 _ X44 uu44 ⟨rfl, Nq44, kq44⟩
  have N44 := uu44 Nq44
  refine zsk [(.int 1)] ?_
  refine zfn 771 X44 hx (D at_768) (by decide) ?_
  refine zic 772 1 X44 hx (D at_771) ?_
  refine zgo 776 X44 hx (D at_772) ?_
  refine zsl 778 #[iv p1, iv p2, iv p3, iv p4, iv kd, iv le, iv y3, iv y4, rv ra0, rv ra1, rv ra2, rv dr, (.val vn), iv uid, rv us, rv r0, iv ng, .val (.long ab), .second, iv dc, iv nl, iv pv, iv qv, iv sv, iv tv, iv 1] X44 hx (D at_776) ?_
  rcases hv with ⟨rfl, rfl⟩ | ⟨dd, rfl, l1, hc0, hc1, ey3, ey4⟩
  · exact A778n _ hJ23 vmJ23 _ _ kd le y3 y4 ra0 ra1 ra2 dr uid us r0 tr kr nt ng ab dc nl pv qv sv tv pn X44 kq44 OJ23 N44 hSJ23 hkJ23 hZJ23 hownJ23 CRJ23 lr hnl hpn hL tq ts tt hdg eab hng E_r0 F_r0_coder F_r0_value V_tr
  · exact A778d _ hJ23 vmJ23 _ _ kd le y3 y4 ra0 ra1 ra2 dr uid us r0 tr kr nt nm ng ab dc nl pv qv sv tv pn dd X44 kq44 OJ23 N44 hSJ23 hkJ23 hZJ23 hownJ23 CRJ23 lr hnl hpn hL tq ts tt hdg eab hng E_r0 F_r0_coder F_r0_value V_tr l1 hc0 hc1 ey3 ey4
set_option maxRecDepth 65536 in
set_option maxHeartbeats 40000000 in
theorem rm0_A443 (l : Launch) (Z : State) (a0 : Array Value) (hw : ∀ d ∈ tables_1, d.before a0 Z = true) (p1 : Int32) (p2 : Int32) (p3 : Int32) (p4 : Int32) (wO : Addr) (wT : Addr) (kO : ClassId) (kT : ClassId) (iC : Int32) (vF : Value) (h0 : Heap) (n0 : Nat) (O0 : Old Z n0 h0) (WW : World1 Z wO wT kO kT iC vF) {p : Program} {e : Env} {s : State} {m : MethodId} {below : List Frame} {meth : Method} {c : Code} (St : Stp p Z s m meth c code maxLocals ret x) (hh : s.heap = h0) :
    ∀ (TJ46 : State) (hJ46 : Heap) (vmJ46 : Vm) (kJ46 : Nat) (LJ46 : List Loc) (kd : Int32) (le : Int32) (y3 : Int32) (y4 : Int32) (ra0 : Addr) (ra1 : Addr) (ra2 : Addr) (dr : Addr) (vn : Value) (uid : Int32) (us : Addr) (r0 : Addr) (tr : Addr) (kr : ClassId) (nt : Int32) (nm : List Value) (ng : Int32) (ab : Int64) (dc : Int32) (nl : Int32) (pv : Int32) (qv : Int32) (sv : Int32) (tv : Int32) (pn : Nat), (Stand p l e room_1 (s.setVm vmJ46) m #[(.int p1), (.int p2), (.int p3), (.int p4)] below meth c TJ46 LJ46 24 1349) → (TJ46.heap = hJ46) → (Old Z n0 hJ46) → (Fr n0 LJ46) → (s.Since vmJ46 kJ46) → (kJ46 ≤ hJ46.size) → (Z.Warmed39 (s.setVm vmJ46).vm) → ((s.setVm vmJ46).vm.findClass "com/example/wirecall/wirecall/demo/UserToStringPinLaw" = some m.cls) → (CHr Z EL s.vm h0 vmJ46 hJ46) → (Ln nt (RL uid nm)) → (nm.length ≤ 4) → (pn ≤ 13) → (12 + (dsL uid).length = pn + dgs (nAbs uid)) → (qv.toInt = (pn : Int) + (dgs (nAbs uid) : Nat)) → (sv.toInt = (pn : Int) + (dgs (nAbs uid) : Nat) + 11) → (tv.toInt = (pn : Int) + (dgs (nAbs uid) : Nat) + 11 + nm.length + 1) → (Dg pv dc nt (nAbs uid) (RL uid nm)) → (ab.toInt = (nAbs uid : Int)) → (¬ ng = (0 : Int32) → uid < (0 : Int32)) → ((vn = .null ∧ nm = nulL) ∨ (∃ dd : Addr, vn = .ref dd ∧ Ln nl nm ∧ (1 ≤ nm.length → nm.getD 0 (.int (0 : Int32)) = .int (nar .byte ((nar .char y3).toInt8.toInt32))) ∧ (2 ≤ nm.length → nm.getD 1 (.int (0 : Int32)) = .int (nar .byte ((nar .char y4).toInt8.toInt32))) ∧ (caL (nar .byte ((nar .char y3).toInt8.toInt32))) = y3 ∧ (caL (nar .byte ((nar .char y4).toInt8.toInt32))) = y4)) → (Exa Z hJ46 r0 "java/lang/String") → (Fld Z hJ46 r0 "java/lang/String" "coder" "B" (.int (0 : Int32))) → (Fld Z hJ46 r0 "java/lang/String" "value" "[B" (.ref tr)) → (Arv Z hJ46 tr kr .byte nt (RL uid nm) (.int (0 : Int32))) → Go p e below (DoneW s Z EL (QL n0) room_1.cells room_1.slots) TJ46 (mkF m 443 #[iv p1, iv p2, iv p3, iv p4, iv kd, iv le, iv y3, iv y4, rv ra0, rv ra1, rv ra2, rv dr, (.val vn), iv uid, rv us, rv r0, iv ng, .val (.long ab), .second, iv dc, iv nl, iv pv, iv qv, iv sv, iv tv, iv 1] []) := by
  obtain ⟨hx, hby, hml, hnm, hlk, hret, hZ, hown⟩ := St
  have hEL := own_EL hw
  have wS := own_wS hw
  have N0 := Fr.nil n0
  have D := @hb _ _ hby
  have ⟨S_iC, nz_iC, S_vF, r_vF, S_wO, E_wO, S_wT, E_wT, V_wO, V_wT⟩ := WW
  have lt_wO := E_wO.lt
  have lt_wT := E_wT.lt
  have A609 := @rm0_A609 l Z a0 hw p1 p2 p3 p4 wO wT kO kT iC vF h0 n0 O0 WW p e s m below meth c ⟨hx, hby, hml, hnm, hlk, hret, hZ, hown⟩ hh
  intro TJ46 hJ46 vmJ46 kJ46 LJ46 kd le y3 y4 ra0 ra1 ra2 dr vn uid us r0 tr kr nt nm ng ab dc nl pv qv sv tv pn XJ46 eJ46 OJ46 NJ46 hSJ46 hkJ46 hZJ46 hownJ46 CRJ46 lr hnl hpn hL tq ts tt hdg eab hng hv E_r0 F_r0_coder F_r0_value V_tr
  have lt_r0 := E_r0.lt
  have lt_tr := V_tr.lt
  have hD := dgs_b (nAbs uid)
  refine zil 445 XJ46 hx (D at_443) rfl ?_
  refine zfn 448 XJ46 hx (D at_445) (by decide) ?_
  refine zal 450 XJ46 hx (D at_448) rfl rfl ?_
  refine zil 452 XJ46 hx (D at_450) rfl ?_
  refine zll 454 XJ46 hx (D at_452) rfl ?_
  refine zil 456 XJ46 hx (D at_454) rfl ?_
  refine zic 457 0 XJ46 hx (D at_456) ?_
  refine gS 460 0 24 1349 XJ46 NJ46 hx hZJ46 (y := mq44) hownJ46 hml (ww hw 226 rfl) (ww hw 227 rfl) (ww hw 197 rfl) (rmDk l Z a0 hw [] r0 tr kr nt (RL uid nm) pv ab (nAbs uid) dc (0 : Int32) wO wT kO kT iC vF hJ46 n0 OJ46 hdg eab (by decide) E_r0 F_r0_coder F_r0_value V_tr WW) (ww hw 228 rfl) eJ46 [(.ref r0), (.int pv), (.long ab), (.int dc), (.int 0)] [] (lenOf pd__Ljava_lang_String_IJII_Z rfl) (D at_457) ?_
  rintro T47 L47 M47 _ X47 uu47 ⟨rfl, Nq47, kq47⟩
  have N47 := uu47 Nq47
  refine zsk [(.int 1)] ?_
  refine zfn 463 X47 hx (D at_460) (by decide) ?_
  refine zal 465 X47 hx (D at_463) rfl rfl ?_
  refine zil 467 X47 hx (D at_465) rfl ?_
  refine zll 469 X47 hx (D at_467) rfl ?_
  refine zil 471 X47 hx (D at_469) rfl ?_
  refine zic 472 1 X47 hx (D at_471) ?_
  refine gS 475 0 24 1349 X47 N47 hx hZJ46 (y := mq44) hownJ46 hml (ww hw 226 rfl) (ww hw 227 rfl) (ww hw 197 rfl) (rmDk l Z a0 hw [] r0 tr kr nt (RL uid nm) pv ab (nAbs uid) dc (1 : Int32) wO wT kO kT iC vF hJ46 n0 OJ46 hdg eab (by decide) E_r0 F_r0_coder F_r0_value V_tr WW) (ww hw 228 rfl) kq47 [(.ref r0), (.int pv), (.long ab), (.int dc), (.int 1)] [] (lenOf pd__Ljava_lang_String_IJII_Z rfl) (D at_472) ?_
  rintro T48 L48 M48 _ X48 uu48 ⟨rfl, Nq48, kq48⟩
  have N48 := uu48 Nq48
  refine zsk [(.int 1)] ?_
  refine zfn 478 X48 hx (D at_475) (by decide) ?_
  refine zal 480 X48 hx (D at_478) rfl rfl ?_
  refine zil 482 X48 hx (D at_480) rfl ?_
  refine zll 484 X48 hx (D at_482) rfl ?_
  refine zil 486 X48 hx (D at_484) rfl ?_
  refine zic 487 2 X48 hx (D at_486) ?_
  refine gS 490 0 24 1349 X48 N48 hx hZJ46 (y := mq44) hownJ46 hml (ww hw 226 rfl) (ww hw 227 rfl) (ww hw 197 rfl) (rmDk l Z a0 hw [] r0 tr kr nt (RL uid nm) pv ab (nAbs uid) dc (2 : Int32) wO wT kO kT iC vF hJ46 n0 OJ46 hdg eab (by decide) E_r0 F_r0_coder F_r0_value V_tr WW) (ww hw 228 rfl) kq48 [(.ref r0), (.int pv), (.long ab), (.int dc), (.int 2)] [] (lenOf pd__Ljava_lang_String_IJII_Z rfl) (D at_487) ?_
  rintro T49 L49 M49 _ X49 uu49 ⟨rfl, Nq49, kq49⟩
  have N49 := uu49 Nq49
  refine zsk [(.int 1)] ?_
  refine zfn 493 X49 hx (D at_490) (by decide) ?_
  refine zal 495 X49 hx (D at_493) rfl rfl ?_
  refine zil 497 X49 hx (D at_495) rfl ?_
  refine zll 499 X49 hx (D at_497) rfl ?_
  refine zil 501 X49 hx (D at_499) rfl ?_
  refine zic 502 3 X49 hx (D at_501) ?_
  refine gS 505 0 24 1349 X49 N49 hx hZJ46 (y := mq44) hownJ46 hml (ww hw 226 rfl) (ww hw 227 rfl) (ww hw 197 rfl) (rmDk l Z a0 hw [] r0 tr kr nt (RL uid nm) pv ab (nAbs uid) dc (3 : Int32) wO wT kO kT iC vF hJ46 n0 OJ46 hdg eab (by decide) E_r0 F_r0_coder F_r0_value V_tr WW) (ww hw 228 rfl) kq49 [(.ref r0), (.int pv), (.long ab), (.int dc), (.int 3)] [] (lenOf pd__Ljava_lang_String_IJII_Z rfl) (D at_502) ?_
  rintro T50 L50 M50 _ X50 uu50 ⟨rfl, Nq50, kq50⟩
  have N50 := uu50 Nq50
  refine zsk [(.int 1)] ?_
  refine zfn 508 X50 hx (D at_505) (by decide) ?_
  refine zal 510 X50 hx (D at_508) rfl rfl ?_
  refine zil 512 X50 hx (D at_510) rfl ?_
  refine zll 514 X50 hx (D at_512) rfl ?_
  refine zil 516 X50 hx (D at_514) rfl ?_
  refine zic 517 4 X50 hx (D at_516) ?_
  refine gS 520 0 24 1349 X50 N50 hx hZJ46 (y := mq44) hownJ46 hml (ww hw 226 rfl) (ww hw 227 rfl) (ww hw 197 rfl) (rmDk l Z a0 hw [] r0 tr kr nt (RL uid nm) pv ab (nAbs uid) dc (4 : Int32) wO wT kO kT iC vF hJ46 n0 OJ46 hdg eab (by decide) E_r0 F_r0_coder F_r0_value V_tr WW) (ww hw 228 rfl) kq50 [(.ref r0), (.int pv), (.long ab), (.int dc), (.int 4)] [] (lenOf pd__Ljava_lang_String_IJII_Z rfl) (D at_517) ?_
  rintro T51 L51 M51 _ X51 uu51 ⟨rfl, Nq51, kq51⟩
  have N51 := uu51 Nq51
  refine zsk [(.int 1)] ?_
  refine zfn 523 X51 hx (D at_520) (by decide) ?_
  refine zal 525 X51 hx (D at_523) rfl rfl ?_
  refine zil 527 X51 hx (D at_525) rfl ?_
  refine zll 529 X51 hx (D at_527) rfl ?_
  refine zil 531 X51 hx (D at_529) rfl ?_
  refine zic 532 5 X51 hx (D at_531) ?_
  refine gS 535 0 24 1349 X51 N51 hx hZJ46 (y := mq44) hownJ46 hml (ww hw 226 rfl) (ww hw 227 rfl) (ww hw 197 rfl) (rmDk l Z a0 hw [] r0 tr kr nt (RL uid nm) pv ab (nAbs uid) dc (5 : Int32) wO wT kO kT iC vF hJ46 n0 OJ46 hdg eab (by decide) E_r0 F_r0_coder F_r0_value V_tr WW) (ww hw 228 rfl) kq51 [(.ref r0), (.int pv), (.long ab), (.int dc), (.int 5)] [] (lenOf pd__Ljava_lang_String_IJII_Z rfl) (D at_532) ?_
  rintro T52 L52 M52 _ X52 uu52 ⟨rfl, Nq52, kq52⟩
  have N52 := uu52 Nq52
  refine zsk [(.int 1)] ?_
  refine zfn 538 X52 hx (D at_535) (by decide) ?_
  refine zal 540 X52 hx (D at_538) rfl rfl ?_
  refine zil 542 X52 hx (D at_540) rfl ?_
  refine zll 544 X52 hx (D at_542) rfl ?_
  refine zil 546 X52 hx (D at_544) rfl ?_
  refine zbp 548 6 X52 hx (D at_546) ?_
  refine gS 551 0 24 1349 X52 N52 hx hZJ46 (y := mq44) hownJ46 hml (ww hw 226 rfl) (ww hw 227 rfl) (ww hw 197 rfl) (rmDk l Z a0 hw [] r0 tr kr nt (RL uid nm) pv ab (nAbs uid) dc (6 : Int32) wO wT kO kT iC vF hJ46 n0 OJ46 hdg eab (by decide) E_r0 F_r0_coder F_r0_value V_tr WW) (ww hw 228 rfl) kq52 [(.ref r0), (.int pv), (.long ab), (.int dc), (.int 6)] [] (lenOf pd__Ljava_lang_String_IJII_Z rfl) (D at_548) ?_
  rintro T53 L53 M53 _ X53 uu53 ⟨rfl, Nq53, kq53⟩
  have N53 := uu53 Nq53
  refine zsk [(.int 1)] ?_
  refine zfn 554 X53 hx (D at_551) (by decide) ?_
  refine zal 556 X53 hx (D at_554) rfl rfl ?_
  refine zil 558 X53 hx (D at_556) rfl ?_
  refine zll 560 X53 hx (D at_558) rfl ?_
  refine zil 562 X53 hx (D at_560) rfl ?_
  refine zbp 564 7 X53 hx (D at_562) ?_
  refine gS 567 0 24 1349 X53 N53 hx hZJ46 (y := mq44) hownJ46 hml (ww hw 226 rfl) (ww hw 227 rfl) (ww hw 197 rfl) (rmDk l Z a0 hw [] r0 tr kr nt (RL uid nm) pv ab (nAbs uid) dc (7 : Int32) wO wT kO kT iC vF hJ46 n0 OJ46 hdg eab (by decide) E_r0 F_r0_coder F_r0_value V_tr WW) (ww hw 228 rfl) kq53 [(.ref r0), (.int pv), (.long ab), (.int dc), (.int 7)] [] (lenOf pd__Ljava_lang_String_IJII_Z rfl) (D at_564) ?_
  rintro T54 L54 M54 _ X54 uu54 ⟨rfl, Nq54, kq54⟩
  have N54 := uu54 Nq54
  refine zsk [(.int 1)] ?_
  refine zfn 570 X54 hx (D at_567) (by decide) ?_
  refine zal 572 X54 hx (D at_570) rfl rfl ?_
  refine zil 574 X54 hx (D at_572) rfl ?_
  refine zll 576 X54 hx (D at_574) rfl ?_
  refine zil 578 X54 hx (D at_576) rfl ?_
  refine zbp 580 8 X54 hx (D at_578) ?_
  refine gS 583 0 24 1349 X54 N54 hx hZJ46 (y := mq44) hownJ46 hml (ww hw 226 rfl) (ww hw 227 rfl) (ww hw 197 rfl) (rmDk l Z a0 hw [] r0 tr kr nt (RL uid nm) pv ab (nAbs uid) dc (8 : Int32) wO wT kO kT iC vF hJ46 n0 OJ46 hdg eab (by decide) E_r0 F_r0_coder F_r0_value V_tr WW) (ww hw 228 rfl) kq54 [(.ref r0), (.int pv), (.long ab), (.int dc), (.int 8)] [] (lenOf pd__Ljava_lang_String_IJII_Z rfl) (D at_580) ?_
  rintro T55 L55 M55 _ X55 uu55 ⟨rfl, Nq55, kq55⟩
  have N55 := uu55 Nq55
  refine zsk [(.int 1)] ?_
  refine zfn 586 X55 hx (D at_583) (by decide) ?_
  refine zal 588 X55 hx (D at_586) rfl rfl ?_
  refine zil 590 X55 hx (D at_588) rfl ?_
  refine zll 592 X55 hx (D at_590) rfl ?_
  refine zil 594 X55 hx (D at_592) rfl ?_
  refine zbp 596 9 X55 hx (D at_594) ?_
  refine gS 599 0 24 1349 X55 N55 hx hZJ46 (y := mq44) hownJ46 hml (ww hw 226 rfl) (ww hw 227 rfl) (ww hw 197 rfl) (rmDk l Z a0 hw [] r0 tr kr nt (RL uid nm) pv ab (nAbs uid) dc (9 : Int32) wO wT kO kT iC vF hJ46 n0 OJ46 hdg eab (by decide) E_r0 F_r0_coder F_r0_value V_tr WW) (ww hw 228 rfl) kq55 [(.ref r0), (.int pv), (.long ab), (.int dc), (.int 9)] [] (lenOf pd__Ljava_lang_String_IJII_Z rfl) (D at_596) ?_
  rintro T56 L56 M56 _ X56 uu56 ⟨rfl, Nq56, kq56⟩
  have N56 := uu56 Nq56
  refine zsk [(.int 1)] ?_
  refine zfn 602 X56 hx (D at_599) (by decide) ?_
  refine zic 603 1 X56 hx (D at_602) ?_
  refine zgo 607 X56 hx (D at_603) ?_
  refine zsl 609 #[iv p1, iv p2, iv p3, iv p4, iv kd, iv le, iv y3, iv y4, rv ra0, rv ra1, rv ra2, rv dr, (.val vn), iv uid, rv us, rv r0, iv ng, .val (.long ab), .second, iv dc, iv nl, iv pv, iv qv, iv sv, iv tv, iv 1] X56 hx (D at_607) ?_
  exact A609 _ hJ46 vmJ46 _ _ kd le y3 y4 ra0 ra1 ra2 dr vn uid us r0 tr kr nt nm ng ab dc nl pv qv sv tv pn X56 kq56 OJ46 N56 hSJ46 hkJ46 hZJ46 hownJ46 CRJ46 lr hnl hpn hL tq ts tt hdg eab hng hv E_r0 F_r0_coder F_r0_value V_tr
set_option maxRecDepth 65536 in
set_option maxHeartbeats 40000000 in
theorem rm0_A414 (l : Launch) (Z : State) (a0 : Array Value) (hw : ∀ d ∈ tables_1, d.before a0 Z = true) (p1 : Int32) (p2 : Int32) (p3 : Int32) (p4 : Int32) (wO : Addr) (wT : Addr) (kO : ClassId) (kT : ClassId) (iC : Int32) (vF : Value) (h0 : Heap) (n0 : Nat) (O0 : Old Z n0 h0) (WW : World1 Z wO wT kO kT iC vF) {p : Program} {e : Env} {s : State} {m : MethodId} {below : List Frame} {meth : Method} {c : Code} (St : Stp p Z s m meth c code maxLocals ret x) (hh : s.heap = h0) :
    ∀ (TJ57 : State) (hJ57 : Heap) (vmJ57 : Vm) (kJ57 : Nat) (LJ57 : List Loc) (kd : Int32) (le : Int32) (y3 : Int32) (y4 : Int32) (ra0 : Addr) (ra1 : Addr) (ra2 : Addr) (dr : Addr) (vn : Value) (uid : Int32) (us : Addr) (r0 : Addr) (tr : Addr) (kr : ClassId) (nt : Int32) (nm : List Value) (ng : Int32) (ab : Int64) (dc : Int32) (nl : Int32) (pv : Int32) (qv : Int32) (sv : Int32) (tv : Int32) (pn : Nat), (Stand p l e room_1 (s.setVm vmJ57) m #[(.int p1), (.int p2), (.int p3), (.int p4)] below meth c TJ57 LJ57 24 1349) → (TJ57.heap = hJ57) → (Old Z n0 hJ57) → (Fr n0 LJ57) → (s.Since vmJ57 kJ57) → (kJ57 ≤ hJ57.size) → (Z.Warmed39 (s.setVm vmJ57).vm) → ((s.setVm vmJ57).vm.findClass "com/example/wirecall/wirecall/demo/UserToStringPinLaw" = some m.cls) → (CHr Z EL s.vm h0 vmJ57 hJ57) → (Ln nt (RL uid nm)) → (nm.length ≤ 4) → (pn ≤ 13) → (12 + (dsL uid).length = pn + dgs (nAbs uid)) → (qv.toInt = (pn : Int) + (dgs (nAbs uid) : Nat)) → (sv.toInt = (pn : Int) + (dgs (nAbs uid) : Nat) + 11) → (tv.toInt = (pn : Int) + (dgs (nAbs uid) : Nat) + 11 + nm.length + 1) → (Dg pv dc nt (nAbs uid) (RL uid nm)) → (ab.toInt = (nAbs uid : Int)) → (¬ ng = (0 : Int32) → uid < (0 : Int32)) → ((vn = .null ∧ nm = nulL) ∨ (∃ dd : Addr, vn = .ref dd ∧ Ln nl nm ∧ (1 ≤ nm.length → nm.getD 0 (.int (0 : Int32)) = .int (nar .byte ((nar .char y3).toInt8.toInt32))) ∧ (2 ≤ nm.length → nm.getD 1 (.int (0 : Int32)) = .int (nar .byte ((nar .char y4).toInt8.toInt32))) ∧ (caL (nar .byte ((nar .char y3).toInt8.toInt32))) = y3 ∧ (caL (nar .byte ((nar .char y4).toInt8.toInt32))) = y4)) → (Exa Z hJ57 r0 "java/lang/String") → (Fld Z hJ57 r0 "java/lang/String" "coder" "B" (.int (0 : Int32))) → (Fld Z hJ57 r0 "java/lang/String" "value" "[B" (.ref tr)) → (Arv Z hJ57 tr kr .byte nt (RL uid nm) (.int (0 : Int32))) → Go p e below (DoneW s Z EL (QL n0) room_1.cells room_1.slots) TJ57 (mkF m 414 #[iv p1, iv p2, iv p3, iv p4, iv kd, iv le, iv y3, iv y4, rv ra0, rv ra1, rv ra2, rv dr, (.val vn), iv uid, rv us, rv r0, iv ng, .val (.long ab), .second, iv dc, iv nl, iv pv, iv qv, iv sv, iv tv, iv 1] []) := by
  obtain ⟨hx, hby, hml, hnm, hlk, hret, hZ, hown⟩ := St
  have hEL := own_EL hw
  have wS := own_wS hw
  have N0 := Fr.nil n0
  have D := @hb _ _ hby
  have ⟨S_iC, nz_iC, S_vF, r_vF, S_wO, E_wO, S_wT, E_wT, V_wO, V_wT⟩ := WW
  have lt_wO := E_wO.lt
  have lt_wT := E_wT.lt
  have A443 := @rm0_A443 l Z a0 hw p1 p2 p3 p4 wO wT kO kT iC vF h0 n0 O0 WW p e s m below meth c ⟨hx, hby, hml, hnm, hlk, hret, hZ, hown⟩ hh
  intro TJ57 hJ57 vmJ57 kJ57 LJ57 kd le y3 y4 ra0 ra1 ra2 dr vn uid us r0 tr kr nt nm ng ab dc nl pv qv sv tv pn XJ57 eJ57 OJ57 NJ57 hSJ57 hkJ57 hZJ57 hownJ57 CRJ57 lr hnl hpn hL tq ts tt hdg eab hng hv E_r0 F_r0_coder F_r0_value V_tr
  have lt_r0 := E_r0.lt
  have lt_tr := V_tr.lt
  have hD := dgs_b (nAbs uid)
  refine zil 416 XJ57 hx (D at_414) rfl ?_
  refine zfn 419 XJ57 hx (D at_416) (by decide) ?_
  refine zil 421 XJ57 hx (D at_419) rfl ?_
  by_cases cd58 : ng = (0 : Int32)
  · refine zfy 436 XJ57 hx (D at_421) ((if0 _ _).trans (teq cd58).1) ?_
    refine zic 437 1 XJ57 hx (D at_436) ?_
    refine zgo 441 XJ57 hx (D at_437) ?_
    refine zsl 443 #[iv p1, iv p2, iv p3, iv p4, iv kd, iv le, iv y3, iv y4, rv ra0, rv ra1, rv ra2, rv dr, (.val vn), iv uid, rv us, rv r0, iv ng, .val (.long ab), .second, iv dc, iv nl, iv pv, iv qv, iv sv, iv tv, iv 1] XJ57 hx (D at_441) ?_
    exact A443 _ hJ57 vmJ57 _ _ kd le y3 y4 ra0 ra1 ra2 dr vn uid us r0 tr kr nt nm ng ab dc nl pv qv sv tv pn XJ57 eJ57 OJ57 NJ57 hSJ57 hkJ57 hZJ57 hownJ57 CRJ57 lr hnl hpn hL tq ts tt hdg eab hng hv E_r0 F_r0_coder F_r0_value V_tr
  · refine zfn 424 XJ57 hx (D at_421) ((if0 _ _).trans (feq cd58).1) ?_
    refine zal 426 XJ57 hx (D at_424) rfl rfl ?_
    refine zbp 428 12 XJ57 hx (D at_426) ?_
    refine zbp 430 45 XJ57 hx (D at_428) ?_
    have ix60 := ixl (i := (12 : Int32)) lr 12 (by decide) (by decide)
    refine gS 433 0 24 1349 XJ57 NJ57 hx hZJ57 (y := mq43) hownJ57 hml (ww hw 201 rfl) (ww hw 202 rfl) (ww hw 197 rfl) (rmCh l Z a0 hw [] r0 tr kr nt (RL uid nm) (12 : Int32) (45 : Int32) (45 : Int32) wO wT kO kT iC vF hJ57 n0 OJ57 ix60.1 ix60.2.1 (rl_s _ _ (hng cd58)) (by decide) E_r0 F_r0_coder F_r0_value V_tr WW) (ww hw 203 rfl) eJ57 [(.ref r0), (.int 12), (.int 45)] [] (lenOf pd__Ljava_lang_String_IC_Z rfl) (D at_430) ?_
    rintro T59 L59 M59 _ X59 uu59 ⟨rfl, Nq59, kq59⟩
    have N59 := uu59 Nq59
    refine zsk [(.int 1)] ?_
    refine zfn 436 X59 hx (D at_433) (by decide) ?_
    refine zic 437 1 X59 hx (D at_436) ?_
    refine zgo 441 X59 hx (D at_437) ?_
    refine zsl 443 #[iv p1, iv p2, iv p3, iv p4, iv kd, iv le, iv y3, iv y4, rv ra0, rv ra1, rv ra2, rv dr, (.val vn), iv uid, rv us, rv r0, iv ng, .val (.long ab), .second, iv dc, iv nl, iv pv, iv qv, iv sv, iv tv, iv 1] X59 hx (D at_441) ?_
    exact A443 _ hJ57 vmJ57 _ _ kd le y3 y4 ra0 ra1 ra2 dr vn uid us r0 tr kr nt nm ng ab dc nl pv qv sv tv pn X59 kq59 OJ57 N59 hSJ57 hkJ57 hZJ57 hownJ57 CRJ57 lr hnl hpn hL tq ts tt hdg eab hng hv E_r0 F_r0_coder F_r0_value V_tr
set_option maxRecDepth 65536 in
set_option maxHeartbeats 40000000 in
theorem rm0_A269 (l : Launch) (Z : State) (a0 : Array Value) (hw : ∀ d ∈ tables_1, d.before a0 Z = true) (p1 : Int32) (p2 : Int32) (p3 : Int32) (p4 : Int32) (wO : Addr) (wT : Addr) (kO : ClassId) (kT : ClassId) (iC : Int32) (vF : Value) (h0 : Heap) (n0 : Nat) (O0 : Old Z n0 h0) (WW : World1 Z wO wT kO kT iC vF) {p : Program} {e : Env} {s : State} {m : MethodId} {below : List Frame} {meth : Method} {c : Code} (St : Stp p Z s m meth c code maxLocals ret x) (hh : s.heap = h0) :
    ∀ (TJ61 : State) (hJ61 : Heap) (vmJ61 : Vm) (kJ61 : Nat) (LJ61 : List Loc) (kd : Int32) (le : Int32) (y3 : Int32) (y4 : Int32) (ra0 : Addr) (ra1 : Addr) (ra2 : Addr) (dr : Addr) (vn : Value) (uid : Int32) (us : Addr) (r0 : Addr) (tr : Addr) (kr : ClassId) (nt : Int32) (nm : List Value) (ng : Int32) (ab : Int64) (dc : Int32) (nl : Int32) (pv : Int32) (qv : Int32) (sv : Int32) (tv : Int32) (pn : Nat), (Stand p l e room_1 (s.setVm vmJ61) m #[(.int p1), (.int p2), (.int p3), (.int p4)] below meth c TJ61 LJ61 24 1349) → (TJ61.heap = hJ61) → (Old Z n0 hJ61) → (Fr n0 LJ61) → (s.Since vmJ61 kJ61) → (kJ61 ≤ hJ61.size) → (Z.Warmed39 (s.setVm vmJ61).vm) → ((s.setVm vmJ61).vm.findClass "com/example/wirecall/wirecall/demo/UserToStringPinLaw" = some m.cls) → (CHr Z EL s.vm h0 vmJ61 hJ61) → (Ln nt (RL uid nm)) → (nm.length ≤ 4) → (pn ≤ 13) → (12 + (dsL uid).length = pn + dgs (nAbs uid)) → (qv.toInt = (pn : Int) + (dgs (nAbs uid) : Nat)) → (sv.toInt = (pn : Int) + (dgs (nAbs uid) : Nat) + 11) → (tv.toInt = (pn : Int) + (dgs (nAbs uid) : Nat) + 11 + nm.length + 1) → (Dg pv dc nt (nAbs uid) (RL uid nm)) → (ab.toInt = (nAbs uid : Int)) → (¬ ng = (0 : Int32) → uid < (0 : Int32)) → ((vn = .null ∧ nm = nulL) ∨ (∃ dd : Addr, vn = .ref dd ∧ Ln nl nm ∧ (1 ≤ nm.length → nm.getD 0 (.int (0 : Int32)) = .int (nar .byte ((nar .char y3).toInt8.toInt32))) ∧ (2 ≤ nm.length → nm.getD 1 (.int (0 : Int32)) = .int (nar .byte ((nar .char y4).toInt8.toInt32))) ∧ (caL (nar .byte ((nar .char y3).toInt8.toInt32))) = y3 ∧ (caL (nar .byte ((nar .char y4).toInt8.toInt32))) = y4)) → (Exa Z hJ61 r0 "java/lang/String") → (Fld Z hJ61 r0 "java/lang/String" "coder" "B" (.int (0 : Int32))) → (Fld Z hJ61 r0 "java/lang/String" "value" "[B" (.ref tr)) → (Arv Z hJ61 tr kr .byte nt (RL uid nm) (.int (0 : Int32))) → Go p e below (DoneW s Z EL (QL n0) room_1.cells room_1.slots) TJ61 (mkF m 269 #[iv p1, iv p2, iv p3, iv p4, iv kd, iv le, iv y3, iv y4, rv ra0, rv ra1, rv ra2, rv dr, (.val vn), iv uid, rv us, rv r0, iv ng, .val (.long ab), .second, iv dc, iv nl, iv pv, iv qv, iv sv, iv tv, .unset] []) := by
  obtain ⟨hx, hby, hml, hnm, hlk, hret, hZ, hown⟩ := St
  have hEL := own_EL hw
  have wS := own_wS hw
  have N0 := Fr.nil n0
  have D := @hb _ _ hby
  have ⟨S_iC, nz_iC, S_vF, r_vF, S_wO, E_wO, S_wT, E_wT, V_wO, V_wT⟩ := WW
  have lt_wO := E_wO.lt
  have lt_wT := E_wT.lt
  have A414 := @rm0_A414 l Z a0 hw p1 p2 p3 p4 wO wT kO kT iC vF h0 n0 O0 WW p e s m below meth c ⟨hx, hby, hml, hnm, hlk, hret, hZ, hown⟩ hh
  intro TJ61 hJ61 vmJ61 kJ61 LJ61 kd le y3 y4 ra0 ra1 ra2 dr vn uid us r0 tr kr nt nm ng ab dc nl pv qv sv tv pn XJ61 eJ61 OJ61 NJ61 hSJ61 hkJ61 hZJ61 hownJ61 CRJ61 lr hnl hpn hL tq ts tt hdg eab hng hv E_r0 F_r0_coder F_r0_value V_tr
  have lt_r0 := E_r0.lt
  have lt_tr := V_tr.lt
  have hD := dgs_b (nAbs uid)
  refine zal 271 XJ61 hx (D at_269) rfl rfl ?_
  refine zic 272 0 XJ61 hx (D at_271) ?_
  refine zbp 274 85 XJ61 hx (D at_272) ?_
  have ix63 := ixl (i := (0 : Int32)) lr 0 (by decide) (by decide)
  refine gS 277 0 24 1349 XJ61 NJ61 hx hZJ61 (y := mq43) hownJ61 hml (ww hw 201 rfl) (ww hw 202 rfl) (ww hw 197 rfl) (rmCh l Z a0 hw [] r0 tr kr nt (RL uid nm) (0 : Int32) (85 : Int32) (85 : Int32) wO wT kO kT iC vF hJ61 n0 OJ61 ix63.1 ix63.2.1 (rl_u uid nm 0 _ (by decide)) (by decide) E_r0 F_r0_coder F_r0_value V_tr WW) (ww hw 203 rfl) eJ61 [(.ref r0), (.int 0), (.int 85)] [] (lenOf pd__Ljava_lang_String_IC_Z rfl) (D at_274) ?_
  rintro T62 L62 M62 _ X62 uu62 ⟨rfl, Nq62, kq62⟩
  have N62 := uu62 Nq62
  refine zsk [(.int 1)] ?_
  refine zfn 280 X62 hx (D at_277) (by decide) ?_
  refine zal 282 X62 hx (D at_280) rfl rfl ?_
  refine zic 283 1 X62 hx (D at_282) ?_
  refine zbp 285 115 X62 hx (D at_283) ?_
  have ix65 := ixl (i := (1 : Int32)) lr 1 (by decide) (by decide)
  refine gS 288 0 24 1349 X62 N62 hx hZJ61 (y := mq43) hownJ61 hml (ww hw 201 rfl) (ww hw 202 rfl) (ww hw 197 rfl) (rmCh l Z a0 hw [] r0 tr kr nt (RL uid nm) (1 : Int32) (115 : Int32) (115 : Int32) wO wT kO kT iC vF hJ61 n0 OJ61 ix65.1 ix65.2.1 (rl_u uid nm 1 _ (by decide)) (by decide) E_r0 F_r0_coder F_r0_value V_tr WW) (ww hw 203 rfl) kq62 [(.ref r0), (.int 1), (.int 115)] [] (lenOf pd__Ljava_lang_String_IC_Z rfl) (D at_285) ?_
  rintro T64 L64 M64 _ X64 uu64 ⟨rfl, Nq64, kq64⟩
  have N64 := uu64 Nq64
  refine zsk [(.int 1)] ?_
  refine zfn 291 X64 hx (D at_288) (by decide) ?_
  refine zal 293 X64 hx (D at_291) rfl rfl ?_
  refine zic 294 2 X64 hx (D at_293) ?_
  refine zbp 296 101 X64 hx (D at_294) ?_
  have ix67 := ixl (i := (2 : Int32)) lr 2 (by decide) (by decide)
  refine gS 299 0 24 1349 X64 N64 hx hZJ61 (y := mq43) hownJ61 hml (ww hw 201 rfl) (ww hw 202 rfl) (ww hw 197 rfl) (rmCh l Z a0 hw [] r0 tr kr nt (RL uid nm) (2 : Int32) (101 : Int32) (101 : Int32) wO wT kO kT iC vF hJ61 n0 OJ61 ix67.1 ix67.2.1 (rl_u uid nm 2 _ (by decide)) (by decide) E_r0 F_r0_coder F_r0_value V_tr WW) (ww hw 203 rfl) kq64 [(.ref r0), (.int 2), (.int 101)] [] (lenOf pd__Ljava_lang_String_IC_Z rfl) (D at_296) ?_
  rintro T66 L66 M66 _ X66 uu66 ⟨rfl, Nq66, kq66⟩
  have N66 := uu66 Nq66
  refine zsk [(.int 1)] ?_
  refine zfn 302 X66 hx (D at_299) (by decide) ?_
  refine zal 304 X66 hx (D at_302) rfl rfl ?_
  refine zic 305 3 X66 hx (D at_304) ?_
  refine zbp 307 114 X66 hx (D at_305) ?_
  have ix69 := ixl (i := (3 : Int32)) lr 3 (by decide) (by decide)
  refine gS 310 0 24 1349 X66 N66 hx hZJ61 (y := mq43) hownJ61 hml (ww hw 201 rfl) (ww hw 202 rfl) (ww hw 197 rfl) (rmCh l Z a0 hw [] r0 tr kr nt (RL uid nm) (3 : Int32) (114 : Int32) (114 : Int32) wO wT kO kT iC vF hJ61 n0 OJ61 ix69.1 ix69.2.1 (rl_u uid nm 3 _ (by decide)) (by decide) E_r0 F_r0_coder F_r0_value V_tr WW) (ww hw 203 rfl) kq66 [(.ref r0), (.int 3), (.int 114)] [] (lenOf pd__Ljava_lang_String_IC_Z rfl) (D at_307) ?_
  rintro T68 L68 M68 _ X68 uu68 ⟨rfl, Nq68, kq68⟩
  have N68 := uu68 Nq68
  refine zsk [(.int 1)] ?_
  refine zfn 313 X68 hx (D at_310) (by decide) ?_
  refine zal 315 X68 hx (D at_313) rfl rfl ?_
  refine zic 316 4 X68 hx (D at_315) ?_
  refine zbp 318 40 X68 hx (D at_316) ?_
  have ix71 := ixl (i := (4 : Int32)) lr 4 (by decide) (by decide)
  refine gS 321 0 24 1349 X68 N68 hx hZJ61 (y := mq43) hownJ61 hml (ww hw 201 rfl) (ww hw 202 rfl) (ww hw 197 rfl) (rmCh l Z a0 hw [] r0 tr kr nt (RL uid nm) (4 : Int32) (40 : Int32) (40 : Int32) wO wT kO kT iC vF hJ61 n0 OJ61 ix71.1 ix71.2.1 (rl_u uid nm 4 _ (by decide)) (by decide) E_r0 F_r0_coder F_r0_value V_tr WW) (ww hw 203 rfl) kq68 [(.ref r0), (.int 4), (.int 40)] [] (lenOf pd__Ljava_lang_String_IC_Z rfl) (D at_318) ?_
  rintro T70 L70 M70 _ X70 uu70 ⟨rfl, Nq70, kq70⟩
  have N70 := uu70 Nq70
  refine zsk [(.int 1)] ?_
  refine zfn 324 X70 hx (D at_321) (by decide) ?_
  refine zal 326 X70 hx (D at_324) rfl rfl ?_
  refine zic 327 5 X70 hx (D at_326) ?_
  refine zbp 329 117 X70 hx (D at_327) ?_
  have ix73 := ixl (i := (5 : Int32)) lr 5 (by decide) (by decide)
  refine gS 332 0 24 1349 X70 N70 hx hZJ61 (y := mq43) hownJ61 hml (ww hw 201 rfl) (ww hw 202 rfl) (ww hw 197 rfl) (rmCh l Z a0 hw [] r0 tr kr nt (RL uid nm) (5 : Int32) (117 : Int32) (117 : Int32) wO wT kO kT iC vF hJ61 n0 OJ61 ix73.1 ix73.2.1 (rl_u uid nm 5 _ (by decide)) (by decide) E_r0 F_r0_coder F_r0_value V_tr WW) (ww hw 203 rfl) kq70 [(.ref r0), (.int 5), (.int 117)] [] (lenOf pd__Ljava_lang_String_IC_Z rfl) (D at_329) ?_
  rintro T72 L72 M72 _ X72 uu72 ⟨rfl, Nq72, kq72⟩
  have N72 := uu72 Nq72
  refine zsk [(.int 1)] ?_
  refine zfn 335 X72 hx (D at_332) (by decide) ?_
  refine zal 337 X72 hx (D at_335) rfl rfl ?_
  refine zbp 339 6 X72 hx (D at_337) ?_
  refine zbp 341 115 X72 hx (D at_339) ?_
  have ix75 := ixl (i := (6 : Int32)) lr 6 (by decide) (by decide)
  refine gS 344 0 24 1349 X72 N72 hx hZJ61 (y := mq43) hownJ61 hml (ww hw 201 rfl) (ww hw 202 rfl) (ww hw 197 rfl) (rmCh l Z a0 hw [] r0 tr kr nt (RL uid nm) (6 : Int32) (115 : Int32) (115 : Int32) wO wT kO kT iC vF hJ61 n0 OJ61 ix75.1 ix75.2.1 (rl_u uid nm 6 _ (by decide)) (by decide) E_r0 F_r0_coder F_r0_value V_tr WW) (ww hw 203 rfl) kq72 [(.ref r0), (.int 6), (.int 115)] [] (lenOf pd__Ljava_lang_String_IC_Z rfl) (D at_341) ?_
  rintro T74 L74 M74 _ X74 uu74 ⟨rfl, Nq74, kq74⟩
  have N74 := uu74 Nq74
  refine zsk [(.int 1)] ?_
  refine zfn 347 X74 hx (D at_344) (by decide) ?_
  refine zal 349 X74 hx (D at_347) rfl rfl ?_
  refine zbp 351 7 X74 hx (D at_349) ?_
  refine zbp 353 101 X74 hx (D at_351) ?_
  have ix77 := ixl (i := (7 : Int32)) lr 7 (by decide) (by decide)
  refine gS 356 0 24 1349 X74 N74 hx hZJ61 (y := mq43) hownJ61 hml (ww hw 201 rfl) (ww hw 202 rfl) (ww hw 197 rfl) (rmCh l Z a0 hw [] r0 tr kr nt (RL uid nm) (7 : Int32) (101 : Int32) (101 : Int32) wO wT kO kT iC vF hJ61 n0 OJ61 ix77.1 ix77.2.1 (rl_u uid nm 7 _ (by decide)) (by decide) E_r0 F_r0_coder F_r0_value V_tr WW) (ww hw 203 rfl) kq74 [(.ref r0), (.int 7), (.int 101)] [] (lenOf pd__Ljava_lang_String_IC_Z rfl) (D at_353) ?_
  rintro T76 L76 M76 _ X76 uu76 ⟨rfl, Nq76, kq76⟩
  have N76 := uu76 Nq76
  refine zsk [(.int 1)] ?_
  refine zfn 359 X76 hx (D at_356) (by decide) ?_
  refine zal 361 X76 hx (D at_359) rfl rfl ?_
  refine zbp 363 8 X76 hx (D at_361) ?_
  refine zbp 365 114 X76 hx (D at_363) ?_
  have ix79 := ixl (i := (8 : Int32)) lr 8 (by decide) (by decide)
  refine gS 368 0 24 1349 X76 N76 hx hZJ61 (y := mq43) hownJ61 hml (ww hw 201 rfl) (ww hw 202 rfl) (ww hw 197 rfl) (rmCh l Z a0 hw [] r0 tr kr nt (RL uid nm) (8 : Int32) (114 : Int32) (114 : Int32) wO wT kO kT iC vF hJ61 n0 OJ61 ix79.1 ix79.2.1 (rl_u uid nm 8 _ (by decide)) (by decide) E_r0 F_r0_coder F_r0_value V_tr WW) (ww hw 203 rfl) kq76 [(.ref r0), (.int 8), (.int 114)] [] (lenOf pd__Ljava_lang_String_IC_Z rfl) (D at_365) ?_
  rintro T78 L78 M78 _ X78 uu78 ⟨rfl, Nq78, kq78⟩
  have N78 := uu78 Nq78
  refine zsk [(.int 1)] ?_
  refine zfn 371 X78 hx (D at_368) (by decide) ?_
  refine zal 373 X78 hx (D at_371) rfl rfl ?_
  refine zbp 375 9 X78 hx (D at_373) ?_
  refine zbp 377 73 X78 hx (D at_375) ?_
  have ix81 := ixl (i := (9 : Int32)) lr 9 (by decide) (by decide)
  refine gS 380 0 24 1349 X78 N78 hx hZJ61 (y := mq43) hownJ61 hml (ww hw 201 rfl) (ww hw 202 rfl) (ww hw 197 rfl) (rmCh l Z a0 hw [] r0 tr kr nt (RL uid nm) (9 : Int32) (73 : Int32) (73 : Int32) wO wT kO kT iC vF hJ61 n0 OJ61 ix81.1 ix81.2.1 (rl_u uid nm 9 _ (by decide)) (by decide) E_r0 F_r0_coder F_r0_value V_tr WW) (ww hw 203 rfl) kq78 [(.ref r0), (.int 9), (.int 73)] [] (lenOf pd__Ljava_lang_String_IC_Z rfl) (D at_377) ?_
  rintro T80 L80 M80 _ X80 uu80 ⟨rfl, Nq80, kq80⟩
  have N80 := uu80 Nq80
  refine zsk [(.int 1)] ?_
  refine zfn 383 X80 hx (D at_380) (by decide) ?_
  refine zal 385 X80 hx (D at_383) rfl rfl ?_
  refine zbp 387 10 X80 hx (D at_385) ?_
  refine zbp 389 100 X80 hx (D at_387) ?_
  have ix83 := ixl (i := (10 : Int32)) lr 10 (by decide) (by decide)
  refine gS 392 0 24 1349 X80 N80 hx hZJ61 (y := mq43) hownJ61 hml (ww hw 201 rfl) (ww hw 202 rfl) (ww hw 197 rfl) (rmCh l Z a0 hw [] r0 tr kr nt (RL uid nm) (10 : Int32) (100 : Int32) (100 : Int32) wO wT kO kT iC vF hJ61 n0 OJ61 ix83.1 ix83.2.1 (rl_u uid nm 10 _ (by decide)) (by decide) E_r0 F_r0_coder F_r0_value V_tr WW) (ww hw 203 rfl) kq80 [(.ref r0), (.int 10), (.int 100)] [] (lenOf pd__Ljava_lang_String_IC_Z rfl) (D at_389) ?_
  rintro T82 L82 M82 _ X82 uu82 ⟨rfl, Nq82, kq82⟩
  have N82 := uu82 Nq82
  refine zsk [(.int 1)] ?_
  refine zfn 395 X82 hx (D at_392) (by decide) ?_
  refine zal 397 X82 hx (D at_395) rfl rfl ?_
  refine zbp 399 11 X82 hx (D at_397) ?_
  refine zbp 401 61 X82 hx (D at_399) ?_
  have ix85 := ixl (i := (11 : Int32)) lr 11 (by decide) (by decide)
  refine gS 404 0 24 1349 X82 N82 hx hZJ61 (y := mq43) hownJ61 hml (ww hw 201 rfl) (ww hw 202 rfl) (ww hw 197 rfl) (rmCh l Z a0 hw [] r0 tr kr nt (RL uid nm) (11 : Int32) (61 : Int32) (61 : Int32) wO wT kO kT iC vF hJ61 n0 OJ61 ix85.1 ix85.2.1 (rl_u uid nm 11 _ (by decide)) (by decide) E_r0 F_r0_coder F_r0_value V_tr WW) (ww hw 203 rfl) kq82 [(.ref r0), (.int 11), (.int 61)] [] (lenOf pd__Ljava_lang_String_IC_Z rfl) (D at_401) ?_
  rintro T84 L84 M84 _ X84 uu84 ⟨rfl, Nq84, kq84⟩
  have N84 := uu84 Nq84
  refine zsk [(.int 1)] ?_
  refine zfn 407 X84 hx (D at_404) (by decide) ?_
  refine zic 408 1 X84 hx (D at_407) ?_
  refine zgo 412 X84 hx (D at_408) ?_
  refine zsl 414 #[iv p1, iv p2, iv p3, iv p4, iv kd, iv le, iv y3, iv y4, rv ra0, rv ra1, rv ra2, rv dr, (.val vn), iv uid, rv us, rv r0, iv ng, .val (.long ab), .second, iv dc, iv nl, iv pv, iv qv, iv sv, iv tv, iv 1] X84 hx (D at_412) ?_
  exact A414 _ hJ61 vmJ61 _ _ kd le y3 y4 ra0 ra1 ra2 dr vn uid us r0 tr kr nt nm ng ab dc nl pv qv sv tv pn X84 kq84 OJ61 N84 hSJ61 hkJ61 hZJ61 hownJ61 CRJ61 lr hnl hpn hL tq ts tt hdg eab hng hv E_r0 F_r0_coder F_r0_value V_tr
set_option maxRecDepth 65536 in
set_option maxHeartbeats 40000000 in
theorem rm0_U0 (l : Launch) (Z : State) (a0 : Array Value) (hw : ∀ d ∈ tables_1, d.before a0 Z = true) (p1 : Int32) (p2 : Int32) (p3 : Int32) (p4 : Int32) (wO : Addr) (wT : Addr) (kO : ClassId) (kT : ClassId) (iC : Int32) (vF : Value) (h0 : Heap) (n0 : Nat) (O0 : Old Z n0 h0) (WW : World1 Z wO wT kO kT iC vF) {p : Program} {e : Env} {s : State} {m : MethodId} {below : List Frame} {meth : Method} {c : Code} (St : Stp p Z s m meth c code maxLocals ret x) (hh : s.heap = h0) :
    ∀ (TJ86 : State) (hJ86 : Heap) (vmJ86 : Vm) (kJ86 : Nat) (LJ86 : List Loc) (kd : Int32) (le : Int32) (y3 : Int32) (y4 : Int32) (ra0 : Addr) (ra1 : Addr) (ra2 : Addr) (dr : Addr) (uid : Int32) (us : Addr) (r0 : Addr) (tr : Addr) (kr : ClassId) (nt : Int32), (Stand p l e room_1 (s.setVm vmJ86) m #[(.int p1), (.int p2), (.int p3), (.int p4)] below meth c TJ86 LJ86 24 1349) → (TJ86.heap = hJ86) → (Old Z n0 hJ86) → (Fr n0 LJ86) → (s.Since vmJ86 kJ86) → (kJ86 ≤ hJ86.size) → (Z.Warmed39 (s.setVm vmJ86).vm) → ((s.setVm vmJ86).vm.findClass "com/example/wirecall/wirecall/demo/UserToStringPinLaw" = some m.cls) → (CHr Z EL s.vm h0 vmJ86 hJ86) → (Ln nt (RL uid nulL)) → (Exa Z hJ86 r0 "java/lang/String") → (Fld Z hJ86 r0 "java/lang/String" "coder" "B" (.int (0 : Int32))) → (Fld Z hJ86 r0 "java/lang/String" "value" "[B" (.ref tr)) → (Arv Z hJ86 tr kr .byte nt (RL uid nulL) (.int (0 : Int32))) → Go p e below (DoneW s Z EL (QL n0) room_1.cells room_1.slots) TJ86 (mkF m 176 #[iv p1, iv p2, iv p3, iv p4, iv kd, iv le, iv y3, iv y4, rv ra0, rv ra1, rv ra2, rv dr, .val .null, iv uid, rv us, rv r0, .unset, .unset, .unset, .unset, .unset, .unset, .unset, .unset, .unset, .unset] []) := by
  obtain ⟨hx, hby, hml, hnm, hlk, hret, hZ, hown⟩ := St
  have hEL := own_EL hw
  have wS := own_wS hw
  have N0 := Fr.nil n0
  have D := @hb _ _ hby
  have ⟨S_iC, nz_iC, S_vF, r_vF, S_wO, E_wO, S_wT, E_wT, V_wO, V_wT⟩ := WW
  have lt_wO := E_wO.lt
  have lt_wT := E_wT.lt
  have A269 := @rm0_A269 l Z a0 hw p1 p2 p3 p4 wO wT kO kT iC vF h0 n0 O0 WW p e s m below meth c ⟨hx, hby, hml, hnm, hlk, hret, hZ, hown⟩ hh
  intro TJ86 hJ86 vmJ86 kJ86 LJ86 kd le y3 y4 ra0 ra1 ra2 dr uid us r0 tr kr nt XJ86 eJ86 OJ86 NJ86 hSJ86 hkJ86 hZJ86 hownJ86 CRJ86 lr E_r0 F_r0_coder F_r0_value V_tr
  have lt_r0 := E_r0.lt
  have lt_tr := V_tr.lt
  refine zil 178 XJ86 hx (D at_176) rfl ?_
  by_cases cd87 : uid < (0 : Int32)
  · refine zfn 181 XJ86 hx (D at_178) ((if0 _ _).trans (tlt cd87).2.1) ?_
    refine zic 182 1 XJ86 hx (D at_181) ?_
    refine zgo 186 XJ86 hx (D at_182) ?_
    refine zsl 188 #[iv p1, iv p2, iv p3, iv p4, iv kd, iv le, iv y3, iv y4, rv ra0, rv ra1, rv ra2, rv dr, .val .null, iv uid, rv us, rv r0, iv 1, .unset, .unset, .unset, .unset, .unset, .unset, .unset, .unset, .unset] XJ86 hx (D at_186) ?_
    refine zil 190 XJ86 hx (D at_188) rfl ?_
    refine Go.st (f' := (mkF m 191 #[iv p1, iv p2, iv p3, iv p4, iv kd, iv le, iv y3, iv y4, rv ra0, rv ra1, rv ra2, rv dr, .val .null, iv uid, rv us, rv r0, iv 1, .unset, .unset, .unset, .unset, .unset, .unset, .unset, .unset, .unset] [(.long (uid.toInt64))])) (fun _ k => XS.i2l XJ86.here hx rfl (D at_190) rfl k) ?_
    refine gS 194 0 24 1349 XJ86 NJ86 hx hZJ86 (y := mq40) hownJ86 hml (ww hw 192 rfl) (ww hw 193 rfl) (ww hw 139 rfl) (rmAb l Z a0 hw [] (uid.toInt64) hJ86 n0 OJ86 (own_i64 _)) (ww hw 194 rfl) eJ86 [(.long (uid.toInt64))] [] (lenOf pd__J_J rfl) (D at_191) ?_
    rintro T88 L88 M88 _ X88 uu88 ⟨ab88, rfl, Nq88, kq88, ea88⟩
    have N88 := uu88 Nq88
    have ev88 := own_abs ea88
    refine zsk [(.long ab88)] ?_
    refine Go.st (f' := (mkF m 196 #[iv p1, iv p2, iv p3, iv p4, iv kd, iv le, iv y3, iv y4, rv ra0, rv ra1, rv ra2, rv dr, .val .null, iv uid, rv us, rv r0, iv 1, .val (.long ab88), .second, .unset, .unset, .unset, .unset, .unset, .unset, .unset] [])) (fun _ k => XS.lstore X88.here hx rfl (D at_194) rfl (l' := #[iv p1, iv p2, iv p3, iv p4, iv kd, iv le, iv y3, iv y4, rv ra0, rv ra1, rv ra2, rv dr, .val .null, iv uid, rv us, rv r0, iv 1, .val (.long ab88), .second, .unset, .unset, .unset, .unset, .unset, .unset, .unset]) rfl k) ?_
    refine zll 198 X88 hx (D at_196) rfl ?_
    refine gS 201 0 24 1349 X88 N88 hx hZJ86 (y := mq41) hownJ86 hml (ww hw 195 rfl) (ww hw 196 rfl) (ww hw 197 rfl) (rmDc l Z a0 hw [] ab88 (nAbs uid) hJ86 n0 OJ86 ev88) (ww hw 198 rfl) kq88 [(.long ab88)] [] (lenOf pd__J_I rfl) (D at_198) ?_
    rintro T89 L89 M89 _ X89 uu89 ⟨dc89, rfl, Nq89, kq89, ed89⟩
    have N89 := uu89 Nq89
    refine zsk [(.int dc89)] ?_
    refine zsl 203 #[iv p1, iv p2, iv p3, iv p4, iv kd, iv le, iv y3, iv y4, rv ra0, rv ra1, rv ra2, rv dr, .val .null, iv uid, rv us, rv r0, iv 1, .val (.long ab88), .second, iv dc89, .unset, .unset, .unset, .unset, .unset, .unset] X89 hx (D at_201) ?_
    refine zal 205 X89 hx (D at_203) rfl rfl ?_
    refine Go.st (f' := (mkF m 208 #[iv p1, iv p2, iv p3, iv p4, iv kd, iv le, iv y3, iv y4, rv ra0, rv ra1, rv ra2, rv dr, .val .null, iv uid, rv us, rv r0, iv 1, .val (.long ab88), .second, iv dc89, .unset, .unset, .unset, .unset, .unset, .unset] [])) (fun _ k => XS.ifnonnullNo X89.here hx rfl (D at_205) rfl k) ?_
    refine zic 209 4 X89 hx (D at_208) ?_
    refine zgo 217 X89 hx (D at_209) ?_
    refine zsl 219 #[iv p1, iv p2, iv p3, iv p4, iv kd, iv le, iv y3, iv y4, rv ra0, rv ra1, rv ra2, rv dr, .val .null, iv uid, rv us, rv r0, iv 1, .val (.long ab88), .second, iv dc89, iv 4, .unset, .unset, .unset, .unset, .unset] X89 hx (D at_217) ?_
    refine zbp 221 12 X89 hx (D at_219) ?_
    refine zil 223 X89 hx (D at_221) rfl ?_
    refine zfn 226 X89 hx (D at_223) (by decide) ?_
    refine zic 227 1 X89 hx (D at_226) ?_
    refine zgo 231 X89 hx (D at_227) ?_
    refine Go.st (f' := (mkF m 232 #[iv p1, iv p2, iv p3, iv p4, iv kd, iv le, iv y3, iv y4, rv ra0, rv ra1, rv ra2, rv dr, .val .null, iv uid, rv us, rv r0, iv 1, .val (.long ab88), .second, iv dc89, iv 4, .unset, .unset, .unset, .unset, .unset] [(.int 13)])) (fun _ k => XS.iadd X89.here hx rfl (D at_231) rfl k) ?_
    refine zsl 234 #[iv p1, iv p2, iv p3, iv p4, iv kd, iv le, iv y3, iv y4, rv ra0, rv ra1, rv ra2, rv dr, .val .null, iv uid, rv us, rv r0, iv 1, .val (.long ab88), .second, iv dc89, iv 4, iv 13, .unset, .unset, .unset, .unset] X89 hx (D at_232) ?_
    refine zil 236 X89 hx (D at_234) rfl ?_
    refine zil 238 X89 hx (D at_236) rfl ?_
    refine zad 239 X89 hx (D at_238) ?_
    refine zsl 241 #[iv p1, iv p2, iv p3, iv p4, iv kd, iv le, iv y3, iv y4, rv ra0, rv ra1, rv ra2, rv dr, .val .null, iv uid, rv us, rv r0, iv 1, .val (.long ab88), .second, iv dc89, iv 4, iv 13, .val (.int ((13 : Int32) + dc89)), .unset, .unset, .unset] X89 hx (D at_239) ?_
    refine zil 243 X89 hx (D at_241) rfl ?_
    refine zbp 245 11 X89 hx (D at_243) ?_
    refine zad 246 X89 hx (D at_245) ?_
    refine zsl 248 #[iv p1, iv p2, iv p3, iv p4, iv kd, iv le, iv y3, iv y4, rv ra0, rv ra1, rv ra2, rv dr, .val .null, iv uid, rv us, rv r0, iv 1, .val (.long ab88), .second, iv dc89, iv 4, iv 13, .val (.int ((13 : Int32) + dc89)), .val (.int (((13 : Int32) + dc89) + (11 : Int32))), .unset, .unset] X89 hx (D at_246) ?_
    refine zil 250 X89 hx (D at_248) rfl ?_
    refine zil 252 X89 hx (D at_250) rfl ?_
    refine zad 253 X89 hx (D at_252) ?_
    refine zic 254 1 X89 hx (D at_253) ?_
    refine zad 255 X89 hx (D at_254) ?_
    refine zsl 257 #[iv p1, iv p2, iv p3, iv p4, iv kd, iv le, iv y3, iv y4, rv ra0, rv ra1, rv ra2, rv dr, .val .null, iv uid, rv us, rv r0, iv 1, .val (.long ab88), .second, iv dc89, iv 4, iv 13, .val (.int ((13 : Int32) + dc89)), .val (.int (((13 : Int32) + dc89) + (11 : Int32))), .val (.int (((((13 : Int32) + dc89) + (11 : Int32)) + (4 : Int32)) + (1 : Int32))), .unset] X89 hx (D at_255) ?_
    refine zal 259 X89 hx (D at_257) rfl rfl ?_
    refine gV 262 0 24 1349 X89 N89 hx hZJ86 (y := mq7) hownJ86 hml (ww hw 200 rfl) (ww hw 68 rfl) (ww hw 70 rfl) (ww hw 69 rfl) (slen l Z a0 hw [] r0 tr kr nt (RL uid nulL) wO wT kO kT iC vF hJ86 n0 OJ86 E_r0 F_r0_coder F_r0_value V_tr WW) (ww hw 71 rfl) (ww hw 3 rfl) kq89 E_r0 [] [] (lenOf pd___I rfl) (D at_259) ?_
    rintro T90 L90 M90 _ X90 uu90 ⟨rfl, Nq90, kq90⟩
    have N90 := uu90 Nq90
    refine zsk [(.int nt)] ?_
    refine zil 264 X90 hx (D at_262) rfl ?_
    have hD := dgs_b (nAbs uid)
    have hL : 12 + (dsL uid).length = 13 + dgs (nAbs uid) := own_hl (s := 1) (if_pos cd87)
    have tb := own_base (dc := dc89) (P := (13 : Int32)) (p := 13) (NL := (4 : Int32)) (nl := 4) ed89 hD (by decide) (by decide) (by decide) (by decide)
    have hdg : Dg (13 : Int32) dc89 nt (nAbs uid) (RL uid nulL) := own_dg ed89 (by rw [if_pos cd87]; decide) lr (by decide)
    refine zcy 269 X90 hx (D at_264) (teq (own_tot lr tb.2.2 hL rfl)).1 ?_
    exact A269 _ hJ86 vmJ86 _ _ kd le y3 y4 ra0 ra1 ra2 dr .null uid us r0 tr kr nt nulL (1 : Int32) ab88 dc89 (4 : Int32) (13 : Int32) ((13 : Int32) + dc89) (((13 : Int32) + dc89) + (11 : Int32)) (((((13 : Int32) + dc89) + (11 : Int32)) + (4 : Int32)) + (1 : Int32)) 13 X90 kq90 OJ86 N90 hSJ86 hkJ86 hZJ86 hownJ86 CRJ86 lr (by decide) (by decide) hL tb.1 tb.2.1 tb.2.2 hdg ev88 (fun _ => cd87) (Or.inl ⟨rfl, rfl⟩) E_r0 F_r0_coder F_r0_value V_tr
  · refine zfy 185 XJ86 hx (D at_178) ((if0 _ _).trans (flt cd87).2.1) ?_
    refine zic 186 0 XJ86 hx (D at_185) ?_
    refine zsl 188 #[iv p1, iv p2, iv p3, iv p4, iv kd, iv le, iv y3, iv y4, rv ra0, rv ra1, rv ra2, rv dr, .val .null, iv uid, rv us, rv r0, iv 0, .unset, .unset, .unset, .unset, .unset, .unset, .unset, .unset, .unset] XJ86 hx (D at_186) ?_
    refine zil 190 XJ86 hx (D at_188) rfl ?_
    refine Go.st (f' := (mkF m 191 #[iv p1, iv p2, iv p3, iv p4, iv kd, iv le, iv y3, iv y4, rv ra0, rv ra1, rv ra2, rv dr, .val .null, iv uid, rv us, rv r0, iv 0, .unset, .unset, .unset, .unset, .unset, .unset, .unset, .unset, .unset] [(.long (uid.toInt64))])) (fun _ k => XS.i2l XJ86.here hx rfl (D at_190) rfl k) ?_
    refine gS 194 0 24 1349 XJ86 NJ86 hx hZJ86 (y := mq40) hownJ86 hml (ww hw 192 rfl) (ww hw 193 rfl) (ww hw 139 rfl) (rmAb l Z a0 hw [] (uid.toInt64) hJ86 n0 OJ86 (own_i64 _)) (ww hw 194 rfl) eJ86 [(.long (uid.toInt64))] [] (lenOf pd__J_J rfl) (D at_191) ?_
    rintro T91 L91 M91 _ X91 uu91 ⟨ab91, rfl, Nq91, kq91, ea91⟩
    have N91 := uu91 Nq91
    have ev91 := own_abs ea91
    refine zsk [(.long ab91)] ?_
    refine Go.st (f' := (mkF m 196 #[iv p1, iv p2, iv p3, iv p4, iv kd, iv le, iv y3, iv y4, rv ra0, rv ra1, rv ra2, rv dr, .val .null, iv uid, rv us, rv r0, iv 0, .val (.long ab91), .second, .unset, .unset, .unset, .unset, .unset, .unset, .unset] [])) (fun _ k => XS.lstore X91.here hx rfl (D at_194) rfl (l' := #[iv p1, iv p2, iv p3, iv p4, iv kd, iv le, iv y3, iv y4, rv ra0, rv ra1, rv ra2, rv dr, .val .null, iv uid, rv us, rv r0, iv 0, .val (.long ab91), .second, .unset, .unset, .unset, .unset, .unset, .unset, .unset]) rfl k) ?_
    refine zll 198 X91 hx (D at_196) rfl ?_
    refine gS 201 0 24 1349 X91 N91 hx hZJ86 (y := mq41) hownJ86 hml (ww hw 195 rfl) (ww hw 196 rfl) (ww hw 197 rfl) (rmDc l Z a0 hw [] ab91 (nAbs uid) hJ86 n0 OJ86 ev91) (ww hw 198 rfl) kq91 [(.long ab91)] [] (lenOf pd__J_I rfl) (D at_198) ?_
    rintro T92 L92 M92 _ X92 uu92 ⟨dc92, rfl, Nq92, kq92, ed92⟩
    have N92 := uu92 Nq92
    refine zsk [(.int dc92)] ?_
    refine zsl 203 #[iv p1, iv p2, iv p3, iv p4, iv kd, iv le, iv y3, iv y4, rv ra0, rv ra1, rv ra2, rv dr, .val .null, iv uid, rv us, rv r0, iv 0, .val (.long ab91), .second, iv dc92, .unset, .unset, .unset, .unset, .unset, .unset] X92 hx (D at_201) ?_
    refine zal 205 X92 hx (D at_203) rfl rfl ?_
    refine Go.st (f' := (mkF m 208 #[iv p1, iv p2, iv p3, iv p4, iv kd, iv le, iv y3, iv y4, rv ra0, rv ra1, rv ra2, rv dr, .val .null, iv uid, rv us, rv r0, iv 0, .val (.long ab91), .second, iv dc92, .unset, .unset, .unset, .unset, .unset, .unset] [])) (fun _ k => XS.ifnonnullNo X92.here hx rfl (D at_205) rfl k) ?_
    refine zic 209 4 X92 hx (D at_208) ?_
    refine zgo 217 X92 hx (D at_209) ?_
    refine zsl 219 #[iv p1, iv p2, iv p3, iv p4, iv kd, iv le, iv y3, iv y4, rv ra0, rv ra1, rv ra2, rv dr, .val .null, iv uid, rv us, rv r0, iv 0, .val (.long ab91), .second, iv dc92, iv 4, .unset, .unset, .unset, .unset, .unset] X92 hx (D at_217) ?_
    refine zbp 221 12 X92 hx (D at_219) ?_
    refine zil 223 X92 hx (D at_221) rfl ?_
    refine zfy 230 X92 hx (D at_223) (by decide) ?_
    refine zic 231 0 X92 hx (D at_230) ?_
    refine Go.st (f' := (mkF m 232 #[iv p1, iv p2, iv p3, iv p4, iv kd, iv le, iv y3, iv y4, rv ra0, rv ra1, rv ra2, rv dr, .val .null, iv uid, rv us, rv r0, iv 0, .val (.long ab91), .second, iv dc92, iv 4, .unset, .unset, .unset, .unset, .unset] [(.int 12)])) (fun _ k => XS.iadd X92.here hx rfl (D at_231) rfl k) ?_
    refine zsl 234 #[iv p1, iv p2, iv p3, iv p4, iv kd, iv le, iv y3, iv y4, rv ra0, rv ra1, rv ra2, rv dr, .val .null, iv uid, rv us, rv r0, iv 0, .val (.long ab91), .second, iv dc92, iv 4, iv 12, .unset, .unset, .unset, .unset] X92 hx (D at_232) ?_
    refine zil 236 X92 hx (D at_234) rfl ?_
    refine zil 238 X92 hx (D at_236) rfl ?_
    refine zad 239 X92 hx (D at_238) ?_
    refine zsl 241 #[iv p1, iv p2, iv p3, iv p4, iv kd, iv le, iv y3, iv y4, rv ra0, rv ra1, rv ra2, rv dr, .val .null, iv uid, rv us, rv r0, iv 0, .val (.long ab91), .second, iv dc92, iv 4, iv 12, .val (.int ((12 : Int32) + dc92)), .unset, .unset, .unset] X92 hx (D at_239) ?_
    refine zil 243 X92 hx (D at_241) rfl ?_
    refine zbp 245 11 X92 hx (D at_243) ?_
    refine zad 246 X92 hx (D at_245) ?_
    refine zsl 248 #[iv p1, iv p2, iv p3, iv p4, iv kd, iv le, iv y3, iv y4, rv ra0, rv ra1, rv ra2, rv dr, .val .null, iv uid, rv us, rv r0, iv 0, .val (.long ab91), .second, iv dc92, iv 4, iv 12, .val (.int ((12 : Int32) + dc92)), .val (.int (((12 : Int32) + dc92) + (11 : Int32))), .unset, .unset] X92 hx (D at_246) ?_
    refine zil 250 X92 hx (D at_248) rfl ?_
    refine zil 252 X92 hx (D at_250) rfl ?_
    refine zad 253 X92 hx (D at_252) ?_
    refine zic 254 1 X92 hx (D at_253) ?_
    refine zad 255 X92 hx (D at_254) ?_
    refine zsl 257 #[iv p1, iv p2, iv p3, iv p4, iv kd, iv le, iv y3, iv y4, rv ra0, rv ra1, rv ra2, rv dr, .val .null, iv uid, rv us, rv r0, iv 0, .val (.long ab91), .second, iv dc92, iv 4, iv 12, .val (.int ((12 : Int32) + dc92)), .val (.int (((12 : Int32) + dc92) + (11 : Int32))), .val (.int (((((12 : Int32) + dc92) + (11 : Int32)) + (4 : Int32)) + (1 : Int32))), .unset] X92 hx (D at_255) ?_
    refine zal 259 X92 hx (D at_257) rfl rfl ?_
    refine gV 262 0 24 1349 X92 N92 hx hZJ86 (y := mq7) hownJ86 hml (ww hw 200 rfl) (ww hw 68 rfl) (ww hw 70 rfl) (ww hw 69 rfl) (slen l Z a0 hw [] r0 tr kr nt (RL uid nulL) wO wT kO kT iC vF hJ86 n0 OJ86 E_r0 F_r0_coder F_r0_value V_tr WW) (ww hw 71 rfl) (ww hw 3 rfl) kq92 E_r0 [] [] (lenOf pd___I rfl) (D at_259) ?_
    rintro T93 L93 M93 _ X93 uu93 ⟨rfl, Nq93, kq93⟩
    have N93 := uu93 Nq93
    refine zsk [(.int nt)] ?_
    refine zil 264 X93 hx (D at_262) rfl ?_
    have hD := dgs_b (nAbs uid)
    have hL : 12 + (dsL uid).length = 12 + dgs (nAbs uid) := own_hl (s := 0) (if_neg cd87)
    have tb := own_base (dc := dc92) (P := (12 : Int32)) (p := 12) (NL := (4 : Int32)) (nl := 4) ed92 hD (by decide) (by decide) (by decide) (by decide)
    have hdg : Dg (12 : Int32) dc92 nt (nAbs uid) (RL uid nulL) := own_dg ed92 (by rw [if_neg cd87]; decide) lr (by decide)
    refine zcy 269 X93 hx (D at_264) (teq (own_tot lr tb.2.2 hL rfl)).1 ?_
    exact A269 _ hJ86 vmJ86 _ _ kd le y3 y4 ra0 ra1 ra2 dr .null uid us r0 tr kr nt nulL (0 : Int32) ab91 dc92 (4 : Int32) (12 : Int32) ((12 : Int32) + dc92) (((12 : Int32) + dc92) + (11 : Int32)) (((((12 : Int32) + dc92) + (11 : Int32)) + (4 : Int32)) + (1 : Int32)) 12 X93 kq93 OJ86 N93 hSJ86 hkJ86 hZJ86 hownJ86 CRJ86 lr (by decide) (by decide) hL tb.1 tb.2.1 tb.2.2 hdg ev91 (fun q => absurd rfl q) (Or.inl ⟨rfl, rfl⟩) E_r0 F_r0_coder F_r0_value V_tr
set_option maxRecDepth 65536 in
set_option maxHeartbeats 40000000 in
theorem rm0_U1 (l : Launch) (Z : State) (a0 : Array Value) (hw : ∀ d ∈ tables_1, d.before a0 Z = true) (p1 : Int32) (p2 : Int32) (p3 : Int32) (p4 : Int32) (wO : Addr) (wT : Addr) (kO : ClassId) (kT : ClassId) (iC : Int32) (vF : Value) (h0 : Heap) (n0 : Nat) (O0 : Old Z n0 h0) (WW : World1 Z wO wT kO kT iC vF) {p : Program} {e : Env} {s : State} {m : MethodId} {below : List Frame} {meth : Method} {c : Code} (St : Stp p Z s m meth c code maxLocals ret x) (hh : s.heap = h0) :
    ∀ (TJ94 : State) (hJ94 : Heap) (vmJ94 : Vm) (kJ94 : Nat) (LJ94 : List Loc) (kd : Int32) (le : Int32) (y3 : Int32) (y4 : Int32) (ra0 : Addr) (ra1 : Addr) (ra2 : Addr) (dr : Addr) (t1 : Addr) (k1 : ClassId) (n1 : Int32) (es1 : List Value) (uid : Int32) (us : Addr) (r0 : Addr) (tr : Addr) (kr : ClassId) (nt : Int32), (Stand p l e room_1 (s.setVm vmJ94) m #[(.int p1), (.int p2), (.int p3), (.int p4)] below meth c TJ94 LJ94 24 1349) → (TJ94.heap = hJ94) → (Old Z n0 hJ94) → (Fr n0 LJ94) → (s.Since vmJ94 kJ94) → (kJ94 ≤ hJ94.size) → (Z.Warmed39 (s.setVm vmJ94).vm) → ((s.setVm vmJ94).vm.findClass "com/example/wirecall/wirecall/demo/UserToStringPinLaw" = some m.cls) → (CHr Z EL s.vm h0 vmJ94 hJ94) → (Ln n1 es1) → (es1.length ≤ 2) → (1 ≤ es1.length → es1.getD 0 (.int (0 : Int32)) = .int (nar .byte ((nar .char y3).toInt8.toInt32))) → (2 ≤ es1.length → es1.getD 1 (.int (0 : Int32)) = .int (nar .byte ((nar .char y4).toInt8.toInt32))) → (Exa Z hJ94 dr "java/lang/String") → (Fld Z hJ94 dr "java/lang/String" "coder" "B" (.int (0 : Int32))) → (Fld Z hJ94 dr "java/lang/String" "value" "[B" (.ref t1)) → (Arv Z hJ94 t1 k1 .byte n1 es1 (.int (0 : Int32))) → ((caL (nar .byte ((nar .char y3).toInt8.toInt32))) = y3) → ((caL (nar .byte ((nar .char y4).toInt8.toInt32))) = y4) → (Ln nt (RL uid es1)) → (Exa Z hJ94 r0 "java/lang/String") → (Fld Z hJ94 r0 "java/lang/String" "coder" "B" (.int (0 : Int32))) → (Fld Z hJ94 r0 "java/lang/String" "value" "[B" (.ref tr)) → (Arv Z hJ94 tr kr .byte nt (RL uid es1) (.int (0 : Int32))) → Go p e below (DoneW s Z EL (QL n0) room_1.cells room_1.slots) TJ94 (mkF m 176 #[iv p1, iv p2, iv p3, iv p4, iv kd, iv le, iv y3, iv y4, rv ra0, rv ra1, rv ra2, rv dr, rv dr, iv uid, rv us, rv r0, .unset, .unset, .unset, .unset, .unset, .unset, .unset, .unset, .unset, .unset] []) := by
  obtain ⟨hx, hby, hml, hnm, hlk, hret, hZ, hown⟩ := St
  have hEL := own_EL hw
  have wS := own_wS hw
  have N0 := Fr.nil n0
  have D := @hb _ _ hby
  have ⟨S_iC, nz_iC, S_vF, r_vF, S_wO, E_wO, S_wT, E_wT, V_wO, V_wT⟩ := WW
  have lt_wO := E_wO.lt
  have lt_wT := E_wT.lt
  have A269 := @rm0_A269 l Z a0 hw p1 p2 p3 p4 wO wT kO kT iC vF h0 n0 O0 WW p e s m below meth c ⟨hx, hby, hml, hnm, hlk, hret, hZ, hown⟩ hh
  intro TJ94 hJ94 vmJ94 kJ94 LJ94 kd le y3 y4 ra0 ra1 ra2 dr t1 k1 n1 es1 uid us r0 tr kr nt XJ94 eJ94 OJ94 NJ94 hSJ94 hkJ94 hZJ94 hownJ94 CRJ94 l1 z1 hc0 hc1 E_dr F_dr_coder F_dr_value V_t1 ey3 ey4 lr E_r0 F_r0_coder F_r0_value V_tr
  have lt_r0 := E_r0.lt
  have lt_tr := V_tr.lt
  have lt_dr := E_dr.lt
  have lt_t1 := V_t1.lt
  refine zil 178 XJ94 hx (D at_176) rfl ?_
  by_cases cd95 : uid < (0 : Int32)
  · refine zfn 181 XJ94 hx (D at_178) ((if0 _ _).trans (tlt cd95).2.1) ?_
    refine zic 182 1 XJ94 hx (D at_181) ?_
    refine zgo 186 XJ94 hx (D at_182) ?_
    refine zsl 188 #[iv p1, iv p2, iv p3, iv p4, iv kd, iv le, iv y3, iv y4, rv ra0, rv ra1, rv ra2, rv dr, rv dr, iv uid, rv us, rv r0, iv 1, .unset, .unset, .unset, .unset, .unset, .unset, .unset, .unset, .unset] XJ94 hx (D at_186) ?_
    refine zil 190 XJ94 hx (D at_188) rfl ?_
    refine Go.st (f' := (mkF m 191 #[iv p1, iv p2, iv p3, iv p4, iv kd, iv le, iv y3, iv y4, rv ra0, rv ra1, rv ra2, rv dr, rv dr, iv uid, rv us, rv r0, iv 1, .unset, .unset, .unset, .unset, .unset, .unset, .unset, .unset, .unset] [(.long (uid.toInt64))])) (fun _ k => XS.i2l XJ94.here hx rfl (D at_190) rfl k) ?_
    refine gS 194 0 24 1349 XJ94 NJ94 hx hZJ94 (y := mq40) hownJ94 hml (ww hw 192 rfl) (ww hw 193 rfl) (ww hw 139 rfl) (rmAb l Z a0 hw [] (uid.toInt64) hJ94 n0 OJ94 (own_i64 _)) (ww hw 194 rfl) eJ94 [(.long (uid.toInt64))] [] (lenOf pd__J_J rfl) (D at_191) ?_
    rintro T96 L96 M96 _ X96 uu96 ⟨ab96, rfl, Nq96, kq96, ea96⟩
    have N96 := uu96 Nq96
    have ev96 := own_abs ea96
    refine zsk [(.long ab96)] ?_
    refine Go.st (f' := (mkF m 196 #[iv p1, iv p2, iv p3, iv p4, iv kd, iv le, iv y3, iv y4, rv ra0, rv ra1, rv ra2, rv dr, rv dr, iv uid, rv us, rv r0, iv 1, .val (.long ab96), .second, .unset, .unset, .unset, .unset, .unset, .unset, .unset] [])) (fun _ k => XS.lstore X96.here hx rfl (D at_194) rfl (l' := #[iv p1, iv p2, iv p3, iv p4, iv kd, iv le, iv y3, iv y4, rv ra0, rv ra1, rv ra2, rv dr, rv dr, iv uid, rv us, rv r0, iv 1, .val (.long ab96), .second, .unset, .unset, .unset, .unset, .unset, .unset, .unset]) rfl k) ?_
    refine zll 198 X96 hx (D at_196) rfl ?_
    refine gS 201 0 24 1349 X96 N96 hx hZJ94 (y := mq41) hownJ94 hml (ww hw 195 rfl) (ww hw 196 rfl) (ww hw 197 rfl) (rmDc l Z a0 hw [] ab96 (nAbs uid) hJ94 n0 OJ94 ev96) (ww hw 198 rfl) kq96 [(.long ab96)] [] (lenOf pd__J_I rfl) (D at_198) ?_
    rintro T97 L97 M97 _ X97 uu97 ⟨dc97, rfl, Nq97, kq97, ed97⟩
    have N97 := uu97 Nq97
    refine zsk [(.int dc97)] ?_
    refine zsl 203 #[iv p1, iv p2, iv p3, iv p4, iv kd, iv le, iv y3, iv y4, rv ra0, rv ra1, rv ra2, rv dr, rv dr, iv uid, rv us, rv r0, iv 1, .val (.long ab96), .second, iv dc97, .unset, .unset, .unset, .unset, .unset, .unset] X97 hx (D at_201) ?_
    refine zal 205 X97 hx (D at_203) rfl rfl ?_
    refine Go.st (f' := (mkF m 212 #[iv p1, iv p2, iv p3, iv p4, iv kd, iv le, iv y3, iv y4, rv ra0, rv ra1, rv ra2, rv dr, rv dr, iv uid, rv us, rv r0, iv 1, .val (.long ab96), .second, iv dc97, .unset, .unset, .unset, .unset, .unset, .unset] [])) (fun _ k => XS.ifnonnullYes X97.here hx rfl (pc0 := 205) (pc' := 212) rfl (D at_205) rfl (by decide) (by decide) k) ?_
    refine zal 214 X97 hx (D at_212) rfl rfl ?_
    refine gV 217 0 24 1349 X97 N97 hx hZJ94 (y := mq7) hownJ94 hml (ww hw 200 rfl) (ww hw 68 rfl) (ww hw 70 rfl) (ww hw 69 rfl) (slen l Z a0 hw [] dr t1 k1 n1 es1 wO wT kO kT iC vF hJ94 n0 OJ94 E_dr F_dr_coder F_dr_value V_t1 WW) (ww hw 71 rfl) (ww hw 3 rfl) kq97 E_dr [] [] (lenOf pd___I rfl) (D at_214) ?_
    rintro T98 L98 M98 _ X98 uu98 ⟨rfl, Nq98, kq98⟩
    have N98 := uu98 Nq98
    refine zsk [(.int n1)] ?_
    refine zsl 219 #[iv p1, iv p2, iv p3, iv p4, iv kd, iv le, iv y3, iv y4, rv ra0, rv ra1, rv ra2, rv dr, rv dr, iv uid, rv us, rv r0, iv 1, .val (.long ab96), .second, iv dc97, iv n1, .unset, .unset, .unset, .unset, .unset] X98 hx (D at_217) ?_
    refine zbp 221 12 X98 hx (D at_219) ?_
    refine zil 223 X98 hx (D at_221) rfl ?_
    refine zfn 226 X98 hx (D at_223) (by decide) ?_
    refine zic 227 1 X98 hx (D at_226) ?_
    refine zgo 231 X98 hx (D at_227) ?_
    refine Go.st (f' := (mkF m 232 #[iv p1, iv p2, iv p3, iv p4, iv kd, iv le, iv y3, iv y4, rv ra0, rv ra1, rv ra2, rv dr, rv dr, iv uid, rv us, rv r0, iv 1, .val (.long ab96), .second, iv dc97, iv n1, .unset, .unset, .unset, .unset, .unset] [(.int 13)])) (fun _ k => XS.iadd X98.here hx rfl (D at_231) rfl k) ?_
    refine zsl 234 #[iv p1, iv p2, iv p3, iv p4, iv kd, iv le, iv y3, iv y4, rv ra0, rv ra1, rv ra2, rv dr, rv dr, iv uid, rv us, rv r0, iv 1, .val (.long ab96), .second, iv dc97, iv n1, iv 13, .unset, .unset, .unset, .unset] X98 hx (D at_232) ?_
    refine zil 236 X98 hx (D at_234) rfl ?_
    refine zil 238 X98 hx (D at_236) rfl ?_
    refine zad 239 X98 hx (D at_238) ?_
    refine zsl 241 #[iv p1, iv p2, iv p3, iv p4, iv kd, iv le, iv y3, iv y4, rv ra0, rv ra1, rv ra2, rv dr, rv dr, iv uid, rv us, rv r0, iv 1, .val (.long ab96), .second, iv dc97, iv n1, iv 13, .val (.int ((13 : Int32) + dc97)), .unset, .unset, .unset] X98 hx (D at_239) ?_
    refine zil 243 X98 hx (D at_241) rfl ?_
    refine zbp 245 11 X98 hx (D at_243) ?_
    refine zad 246 X98 hx (D at_245) ?_
    refine zsl 248 #[iv p1, iv p2, iv p3, iv p4, iv kd, iv le, iv y3, iv y4, rv ra0, rv ra1, rv ra2, rv dr, rv dr, iv uid, rv us, rv r0, iv 1, .val (.long ab96), .second, iv dc97, iv n1, iv 13, .val (.int ((13 : Int32) + dc97)), .val (.int (((13 : Int32) + dc97) + (11 : Int32))), .unset, .unset] X98 hx (D at_246) ?_
    refine zil 250 X98 hx (D at_248) rfl ?_
    refine zil 252 X98 hx (D at_250) rfl ?_
    refine zad 253 X98 hx (D at_252) ?_
    refine zic 254 1 X98 hx (D at_253) ?_
    refine zad 255 X98 hx (D at_254) ?_
    refine zsl 257 #[iv p1, iv p2, iv p3, iv p4, iv kd, iv le, iv y3, iv y4, rv ra0, rv ra1, rv ra2, rv dr, rv dr, iv uid, rv us, rv r0, iv 1, .val (.long ab96), .second, iv dc97, iv n1, iv 13, .val (.int ((13 : Int32) + dc97)), .val (.int (((13 : Int32) + dc97) + (11 : Int32))), .val (.int (((((13 : Int32) + dc97) + (11 : Int32)) + n1) + (1 : Int32))), .unset] X98 hx (D at_255) ?_
    refine zal 259 X98 hx (D at_257) rfl rfl ?_
    refine gV 262 0 24 1349 X98 N98 hx hZJ94 (y := mq7) hownJ94 hml (ww hw 200 rfl) (ww hw 68 rfl) (ww hw 70 rfl) (ww hw 69 rfl) (slen l Z a0 hw [] r0 tr kr nt (RL uid es1) wO wT kO kT iC vF hJ94 n0 OJ94 E_r0 F_r0_coder F_r0_value V_tr WW) (ww hw 71 rfl) (ww hw 3 rfl) kq98 E_r0 [] [] (lenOf pd___I rfl) (D at_259) ?_
    rintro T99 L99 M99 _ X99 uu99 ⟨rfl, Nq99, kq99⟩
    have N99 := uu99 Nq99
    refine zsk [(.int nt)] ?_
    refine zil 264 X99 hx (D at_262) rfl ?_
    have hD := dgs_b (nAbs uid)
    have hL : 12 + (dsL uid).length = 13 + dgs (nAbs uid) := own_hl (s := 1) (if_pos cd95)
    have tb := own_base (dc := dc97) (P := (13 : Int32)) (p := 13) (NL := n1) (nl := es1.length) ed97 hD (by decide) (by decide) l1.2 (Nat.le_trans z1 (by decide))
    have hdg : Dg (13 : Int32) dc97 nt (nAbs uid) (RL uid es1) := own_dg ed97 (by rw [if_pos cd95]; decide) lr (Nat.le_trans z1 (by decide))
    refine zcy 269 X99 hx (D at_264) (teq (own_tot lr tb.2.2 hL rfl)).1 ?_
    exact A269 _ hJ94 vmJ94 _ _ kd le y3 y4 ra0 ra1 ra2 dr (.ref dr) uid us r0 tr kr nt es1 (1 : Int32) ab96 dc97 n1 (13 : Int32) ((13 : Int32) + dc97) (((13 : Int32) + dc97) + (11 : Int32)) (((((13 : Int32) + dc97) + (11 : Int32)) + n1) + (1 : Int32)) 13 X99 kq99 OJ94 N99 hSJ94 hkJ94 hZJ94 hownJ94 CRJ94 lr (Nat.le_trans z1 (by decide)) (by decide) hL tb.1 tb.2.1 tb.2.2 hdg ev96 (fun _ => cd95) (Or.inr ⟨dr, rfl, l1, hc0, hc1, ey3, ey4⟩) E_r0 F_r0_coder F_r0_value V_tr
  · refine zfy 185 XJ94 hx (D at_178) ((if0 _ _).trans (flt cd95).2.1) ?_
    refine zic 186 0 XJ94 hx (D at_185) ?_
    refine zsl 188 #[iv p1, iv p2, iv p3, iv p4, iv kd, iv le, iv y3, iv y4, rv ra0, rv ra1, rv ra2, rv dr, rv dr, iv uid, rv us, rv r0, iv 0, .unset, .unset, .unset, .unset, .unset, .unset, .unset, .unset, .unset] XJ94 hx (D at_186) ?_
    refine zil 190 XJ94 hx (D at_188) rfl ?_
    refine Go.st (f' := (mkF m 191 #[iv p1, iv p2, iv p3, iv p4, iv kd, iv le, iv y3, iv y4, rv ra0, rv ra1, rv ra2, rv dr, rv dr, iv uid, rv us, rv r0, iv 0, .unset, .unset, .unset, .unset, .unset, .unset, .unset, .unset, .unset] [(.long (uid.toInt64))])) (fun _ k => XS.i2l XJ94.here hx rfl (D at_190) rfl k) ?_
    refine gS 194 0 24 1349 XJ94 NJ94 hx hZJ94 (y := mq40) hownJ94 hml (ww hw 192 rfl) (ww hw 193 rfl) (ww hw 139 rfl) (rmAb l Z a0 hw [] (uid.toInt64) hJ94 n0 OJ94 (own_i64 _)) (ww hw 194 rfl) eJ94 [(.long (uid.toInt64))] [] (lenOf pd__J_J rfl) (D at_191) ?_
    rintro T100 L100 M100 _ X100 uu100 ⟨ab100, rfl, Nq100, kq100, ea100⟩
    have N100 := uu100 Nq100
    have ev100 := own_abs ea100
    refine zsk [(.long ab100)] ?_
    refine Go.st (f' := (mkF m 196 #[iv p1, iv p2, iv p3, iv p4, iv kd, iv le, iv y3, iv y4, rv ra0, rv ra1, rv ra2, rv dr, rv dr, iv uid, rv us, rv r0, iv 0, .val (.long ab100), .second, .unset, .unset, .unset, .unset, .unset, .unset, .unset] [])) (fun _ k => XS.lstore X100.here hx rfl (D at_194) rfl (l' := #[iv p1, iv p2, iv p3, iv p4, iv kd, iv le, iv y3, iv y4, rv ra0, rv ra1, rv ra2, rv dr, rv dr, iv uid, rv us, rv r0, iv 0, .val (.long ab100), .second, .unset, .unset, .unset, .unset, .unset, .unset, .unset]) rfl k) ?_
    refine zll 198 X100 hx (D at_196) rfl ?_
    refine gS 201 0 24 1349 X100 N100 hx hZJ94 (y := mq41) hownJ94 hml (ww hw 195 rfl) (ww hw 196 rfl) (ww hw 197 rfl) (rmDc l Z a0 hw [] ab100 (nAbs uid) hJ94 n0 OJ94 ev100) (ww hw 198 rfl) kq100 [(.long ab100)] [] (lenOf pd__J_I rfl) (D at_198) ?_
    rintro T101 L101 M101 _ X101 uu101 ⟨dc101, rfl, Nq101, kq101, ed101⟩
    have N101 := uu101 Nq101
    refine zsk [(.int dc101)] ?_
    refine zsl 203 #[iv p1, iv p2, iv p3, iv p4, iv kd, iv le, iv y3, iv y4, rv ra0, rv ra1, rv ra2, rv dr, rv dr, iv uid, rv us, rv r0, iv 0, .val (.long ab100), .second, iv dc101, .unset, .unset, .unset, .unset, .unset, .unset] X101 hx (D at_201) ?_
    refine zal 205 X101 hx (D at_203) rfl rfl ?_
    refine Go.st (f' := (mkF m 212 #[iv p1, iv p2, iv p3, iv p4, iv kd, iv le, iv y3, iv y4, rv ra0, rv ra1, rv ra2, rv dr, rv dr, iv uid, rv us, rv r0, iv 0, .val (.long ab100), .second, iv dc101, .unset, .unset, .unset, .unset, .unset, .unset] [])) (fun _ k => XS.ifnonnullYes X101.here hx rfl (pc0 := 205) (pc' := 212) rfl (D at_205) rfl (by decide) (by decide) k) ?_
    refine zal 214 X101 hx (D at_212) rfl rfl ?_
    refine gV 217 0 24 1349 X101 N101 hx hZJ94 (y := mq7) hownJ94 hml (ww hw 200 rfl) (ww hw 68 rfl) (ww hw 70 rfl) (ww hw 69 rfl) (slen l Z a0 hw [] dr t1 k1 n1 es1 wO wT kO kT iC vF hJ94 n0 OJ94 E_dr F_dr_coder F_dr_value V_t1 WW) (ww hw 71 rfl) (ww hw 3 rfl) kq101 E_dr [] [] (lenOf pd___I rfl) (D at_214) ?_
    rintro T102 L102 M102 _ X102 uu102 ⟨rfl, Nq102, kq102⟩
    have N102 := uu102 Nq102
    refine zsk [(.int n1)] ?_
    refine zsl 219 #[iv p1, iv p2, iv p3, iv p4, iv kd, iv le, iv y3, iv y4, rv ra0, rv ra1, rv ra2, rv dr, rv dr, iv uid, rv us, rv r0, iv 0, .val (.long ab100), .second, iv dc101, iv n1, .unset, .unset, .unset, .unset, .unset] X102 hx (D at_217) ?_
    refine zbp 221 12 X102 hx (D at_219) ?_
    refine zil 223 X102 hx (D at_221) rfl ?_
    refine zfy 230 X102 hx (D at_223) (by decide) ?_
    refine zic 231 0 X102 hx (D at_230) ?_
    refine Go.st (f' := (mkF m 232 #[iv p1, iv p2, iv p3, iv p4, iv kd, iv le, iv y3, iv y4, rv ra0, rv ra1, rv ra2, rv dr, rv dr, iv uid, rv us, rv r0, iv 0, .val (.long ab100), .second, iv dc101, iv n1, .unset, .unset, .unset, .unset, .unset] [(.int 12)])) (fun _ k => XS.iadd X102.here hx rfl (D at_231) rfl k) ?_
    refine zsl 234 #[iv p1, iv p2, iv p3, iv p4, iv kd, iv le, iv y3, iv y4, rv ra0, rv ra1, rv ra2, rv dr, rv dr, iv uid, rv us, rv r0, iv 0, .val (.long ab100), .second, iv dc101, iv n1, iv 12, .unset, .unset, .unset, .unset] X102 hx (D at_232) ?_
    refine zil 236 X102 hx (D at_234) rfl ?_
    refine zil 238 X102 hx (D at_236) rfl ?_
    refine zad 239 X102 hx (D at_238) ?_
    refine zsl 241 #[iv p1, iv p2, iv p3, iv p4, iv kd, iv le, iv y3, iv y4, rv ra0, rv ra1, rv ra2, rv dr, rv dr, iv uid, rv us, rv r0, iv 0, .val (.long ab100), .second, iv dc101, iv n1, iv 12, .val (.int ((12 : Int32) + dc101)), .unset, .unset, .unset] X102 hx (D at_239) ?_
    refine zil 243 X102 hx (D at_241) rfl ?_
    refine zbp 245 11 X102 hx (D at_243) ?_
    refine zad 246 X102 hx (D at_245) ?_
    refine zsl 248 #[iv p1, iv p2, iv p3, iv p4, iv kd, iv le, iv y3, iv y4, rv ra0, rv ra1, rv ra2, rv dr, rv dr, iv uid, rv us, rv r0, iv 0, .val (.long ab100), .second, iv dc101, iv n1, iv 12, .val (.int ((12 : Int32) + dc101)), .val (.int (((12 : Int32) + dc101) + (11 : Int32))), .unset, .unset] X102 hx (D at_246) ?_
    refine zil 250 X102 hx (D at_248) rfl ?_
    refine zil 252 X102 hx (D at_250) rfl ?_
    refine zad 253 X102 hx (D at_252) ?_
    refine zic 254 1 X102 hx (D at_253) ?_
    refine zad 255 X102 hx (D at_254) ?_
    refine zsl 257 #[iv p1, iv p2, iv p3, iv p4, iv kd, iv le, iv y3, iv y4, rv ra0, rv ra1, rv ra2, rv dr, rv dr, iv uid, rv us, rv r0, iv 0, .val (.long ab100), .second, iv dc101, iv n1, iv 12, .val (.int ((12 : Int32) + dc101)), .val (.int (((12 : Int32) + dc101) + (11 : Int32))), .val (.int (((((12 : Int32) + dc101) + (11 : Int32)) + n1) + (1 : Int32))), .unset] X102 hx (D at_255) ?_
    refine zal 259 X102 hx (D at_257) rfl rfl ?_
    refine gV 262 0 24 1349 X102 N102 hx hZJ94 (y := mq7) hownJ94 hml (ww hw 200 rfl) (ww hw 68 rfl) (ww hw 70 rfl) (ww hw 69 rfl) (slen l Z a0 hw [] r0 tr kr nt (RL uid es1) wO wT kO kT iC vF hJ94 n0 OJ94 E_r0 F_r0_coder F_r0_value V_tr WW) (ww hw 71 rfl) (ww hw 3 rfl) kq102 E_r0 [] [] (lenOf pd___I rfl) (D at_259) ?_
    rintro T103 L103 M103 _ X103 uu103 ⟨rfl, Nq103, kq103⟩
    have N103 := uu103 Nq103
    refine zsk [(.int nt)] ?_
    refine zil 264 X103 hx (D at_262) rfl ?_
    have hD := dgs_b (nAbs uid)
    have hL : 12 + (dsL uid).length = 12 + dgs (nAbs uid) := own_hl (s := 0) (if_neg cd95)
    have tb := own_base (dc := dc101) (P := (12 : Int32)) (p := 12) (NL := n1) (nl := es1.length) ed101 hD (by decide) (by decide) l1.2 (Nat.le_trans z1 (by decide))
    have hdg : Dg (12 : Int32) dc101 nt (nAbs uid) (RL uid es1) := own_dg ed101 (by rw [if_neg cd95]; decide) lr (Nat.le_trans z1 (by decide))
    refine zcy 269 X103 hx (D at_264) (teq (own_tot lr tb.2.2 hL rfl)).1 ?_
    exact A269 _ hJ94 vmJ94 _ _ kd le y3 y4 ra0 ra1 ra2 dr (.ref dr) uid us r0 tr kr nt es1 (0 : Int32) ab100 dc101 n1 (12 : Int32) ((12 : Int32) + dc101) (((12 : Int32) + dc101) + (11 : Int32)) (((((12 : Int32) + dc101) + (11 : Int32)) + n1) + (1 : Int32)) 12 X103 kq103 OJ94 N103 hSJ94 hkJ94 hZJ94 hownJ94 CRJ94 lr (Nat.le_trans z1 (by decide)) (by decide) hL tb.1 tb.2.1 tb.2.2 hdg ev100 (fun q => absurd rfl q) (Or.inr ⟨dr, rfl, l1, hc0, hc1, ey3, ey4⟩) E_r0 F_r0_coder F_r0_value V_tr
set_option maxRecDepth 65536 in
set_option maxHeartbeats 40000000 in
theorem rm0 (l : Launch) (Z : State) (a0 : Array Value) (hw : ∀ d ∈ tables_1, d.before a0 Z = true) (ws : List Jvm.Cond) (p1 : Int32) (p2 : Int32) (p3 : Int32) (p4 : Int32) (wO : Addr) (wT : Addr) (kO : ClassId) (kT : ClassId) (iC : Int32) (vF : Value) (h0 : Heap) (n0 : Nat) (O0 : Old Z n0 h0) (WW : World1 Z wO wT kO kT iC vF) :
    ConW l Z EL x code maxLocals ret ws room_1 #[(.int p1), (.int p2), (.int p3), (.int p4)] h0 (QL n0) := by
  refine own_bodyW (plainFor_of_name pn_com_example_wirecall_wirecall_demo_UserToStringPinLaw) ?_
  intro p e s m below meth c s₁ hx hby hml hZ hown hnm hlk hret X0 e0 hh hS CR0
  have hEL := own_EL hw
  have wS := own_wS hw
  have N0 := Fr.nil n0
  have D := @hb _ _ hby
  refine Go.st (T' := s₁) (f' := (mkF m 0 #[iv p1, iv p2, iv p3, iv p4, .unset, .unset, .unset, .unset, .unset, .unset, .unset, .unset, .unset, .unset, .unset, .unset, .unset, .unset, .unset, .unset, .unset, .unset, .unset, .unset, .unset, .unset] [])) (fun _ k => castTop (by first | (simp [entryFrame, mkF, argsToLocals, Value.category, maxLocals]; done) | rfl) k) ?_
  have ⟨S_iC, nz_iC, S_vF, r_vF, S_wO, E_wO, S_wT, E_wT, V_wO, V_wT⟩ := WW
  have lt_wO := E_wO.lt
  have lt_wT := E_wT.lt
  have U0 := @rm0_U0 l Z a0 hw p1 p2 p3 p4 wO wT kO kT iC vF h0 n0 O0 WW p e s m below meth c ⟨hx, hby, hml, hnm, hlk, hret, hZ, hown⟩ hh
  have U1 := @rm0_U1 l Z a0 hw p1 p2 p3 p4 wO wT kO kT iC vF h0 n0 O0 WW p e s m below meth c ⟨hx, hby, hml, hnm, hlk, hret, hZ, hown⟩ hh
  refine zin 1 X0 hx (D at_0) rfl ?_
  refine zic 2 3 X0 hx (D at_1) ?_
  refine Go.st (f' := (mkF m 3 #[iv p1, iv p2, iv p3, iv p4, .unset, .unset, .unset, .unset, .unset, .unset, .unset, .unset, .unset, .unset, .unset, .unset, .unset, .unset, .unset, .unset, .unset, .unset, .unset, .unset, .unset, .unset] [(.int (p4 &&& (3 : Int32)))])) (fun _ k => XS.iand X0.here hx rfl (D at_2) rfl k) ?_
  obtain ⟨yy104, hyy104⟩ : ∃ z, z = (p4 &&& (3 : Int32)) := ⟨_, rfl⟩
  rw [← hyy104]
  refine zsl 5 #[iv p1, iv p2, iv p3, iv p4, iv yy104, .unset, .unset, .unset, .unset, .unset, .unset, .unset, .unset, .unset, .unset, .unset, .unset, .unset, .unset, .unset, .unset, .unset, .unset, .unset, .unset, .unset] X0 hx (D at_3) ?_
  refine zin 6 X0 hx (D at_5) rfl ?_
  refine zic 7 2 X0 hx (D at_6) ?_
  refine Go.st (f' := (mkF m 8 #[iv p1, iv p2, iv p3, iv p4, iv yy104, .unset, .unset, .unset, .unset, .unset, .unset, .unset, .unset, .unset, .unset, .unset, .unset, .unset, .unset, .unset, .unset, .unset, .unset, .unset, .unset, .unset] [(.int ((p4.toUInt32 >>> ((2 : Int32) &&& 31).toUInt32).toInt32))])) (fun _ k => XS.iushr X0.here hx rfl (D at_7) rfl k) ?_
  refine zic 9 3 X0 hx (D at_8) ?_
  refine Go.st (f' := (mkF m 10 #[iv p1, iv p2, iv p3, iv p4, iv yy104, .unset, .unset, .unset, .unset, .unset, .unset, .unset, .unset, .unset, .unset, .unset, .unset, .unset, .unset, .unset, .unset, .unset, .unset, .unset, .unset, .unset] [(.int (((p4.toUInt32 >>> ((2 : Int32) &&& 31).toUInt32).toInt32) % (3 : Int32)))])) (fun _ k => iremM (g := (mkF m 9 #[.val (.int p1), .val (.int p2), .val (.int p3), .val (.int p4), .val (.int yy104), .unset, .unset, .unset, .unset, .unset, .unset, .unset, .unset, .unset, .unset, .unset, .unset, .unset, .unset, .unset, .unset, .unset, .unset, .unset, .unset, .unset] [(.int (3 : Int32)), (.int ((p4.toUInt32 >>> ((2 : Int32) &&& 31).toUInt32).toInt32))])) X0 hx rfl (D at_9) rfl (by decide) k) ?_
  obtain ⟨yy105, hyy105⟩ : ∃ z, z = (((p4.toUInt32 >>> ((2 : Int32) &&& 31).toUInt32).toInt32) % (3 : Int32)) := ⟨_, rfl⟩
  rw [← hyy105]
  refine zsl 12 #[iv p1, iv p2, iv p3, iv p4, iv yy104, iv yy105, .unset, .unset, .unset, .unset, .unset, .unset, .unset, .unset, .unset, .unset, .unset, .unset, .unset, .unset, .unset, .unset, .unset, .unset, .unset, .unset] X0 hx (D at_10) ?_
  refine zin 13 X0 hx (D at_12) rfl ?_
  refine Go.st (f' := (mkF m 16 #[iv p1, iv p2, iv p3, iv p4, iv yy104, iv yy105, .unset, .unset, .unset, .unset, .unset, .unset, .unset, .unset, .unset, .unset, .unset, .unset, .unset, .unset, .unset, .unset, .unset, .unset, .unset, .unset] [(.int 255), (.int p2)])) (fun _ k => XS.sipush X0.here hx rfl (D at_13) k) ?_
  refine Go.st (f' := (mkF m 17 #[iv p1, iv p2, iv p3, iv p4, iv yy104, iv yy105, .unset, .unset, .unset, .unset, .unset, .unset, .unset, .unset, .unset, .unset, .unset, .unset, .unset, .unset, .unset, .unset, .unset, .unset, .unset, .unset] [(.int (p2 &&& (255 : Int32)))])) (fun _ k => XS.iand X0.here hx rfl (D at_16) rfl k) ?_
  refine Go.st (f' := (mkF m 18 #[iv p1, iv p2, iv p3, iv p4, iv yy104, iv yy105, .unset, .unset, .unset, .unset, .unset, .unset, .unset, .unset, .unset, .unset, .unset, .unset, .unset, .unset, .unset, .unset, .unset, .unset, .unset, .unset] [(.int ((p2 &&& (255 : Int32)).toUInt32.toUInt16.toUInt32.toInt32))])) (fun _ k => XS.i2c X0.here hx rfl (D at_17) rfl k) ?_
  obtain ⟨yy106, hyy106⟩ : ∃ z, z = ((p2 &&& (255 : Int32)).toUInt32.toUInt16.toUInt32.toInt32) := ⟨_, rfl⟩
  rw [← hyy106]
  have eyy106 := own_y hyy106
  refine zsl 20 #[iv p1, iv p2, iv p3, iv p4, iv yy104, iv yy105, iv yy106, .unset, .unset, .unset, .unset, .unset, .unset, .unset, .unset, .unset, .unset, .unset, .unset, .unset, .unset, .unset, .unset, .unset, .unset, .unset] X0 hx (D at_18) ?_
  refine zin 21 X0 hx (D at_20) rfl ?_
  refine Go.st (f' := (mkF m 24 #[iv p1, iv p2, iv p3, iv p4, iv yy104, iv yy105, iv yy106, .unset, .unset, .unset, .unset, .unset, .unset, .unset, .unset, .unset, .unset, .unset, .unset, .unset, .unset, .unset, .unset, .unset, .unset, .unset] [(.int 255), (.int p3)])) (fun _ k => XS.sipush X0.here hx rfl (D at_21) k) ?_
  refine Go.st (f' := (mkF m 25 #[iv p1, iv p2, iv p3, iv p4, iv yy104, iv yy105, iv yy106, .unset, .unset, .unset, .unset, .unset, .unset, .unset, .unset, .unset, .unset, .unset, .unset, .unset, .unset, .unset, .unset, .unset, .unset, .unset] [(.int (p3 &&& (255 : Int32)))])) (fun _ k => XS.iand X0.here hx rfl (D at_24) rfl k) ?_
  refine Go.st (f' := (mkF m 26 #[iv p1, iv p2, iv p3, iv p4, iv yy104, iv yy105, iv yy106, .unset, .unset, .unset, .unset, .unset, .unset, .unset, .unset, .unset, .unset, .unset, .unset, .unset, .unset, .unset, .unset, .unset, .unset, .unset] [(.int ((p3 &&& (255 : Int32)).toUInt32.toUInt16.toUInt32.toInt32))])) (fun _ k => XS.i2c X0.here hx rfl (D at_25) rfl k) ?_
  obtain ⟨yy107, hyy107⟩ : ∃ z, z = ((p3 &&& (255 : Int32)).toUInt32.toUInt16.toUInt32.toInt32) := ⟨_, rfl⟩
  rw [← hyy107]
  have eyy107 := own_y hyy107
  refine zsl 28 #[iv p1, iv p2, iv p3, iv p4, iv yy104, iv yy105, iv yy106, iv yy107, .unset, .unset, .unset, .unset, .unset, .unset, .unset, .unset, .unset, .unset, .unset, .unset, .unset, .unset, .unset, .unset, .unset, .unset] X0 hx (D at_26) ?_
  refine zic 29 0 X0 hx (D at_28) ?_
  obtain ⟨T108, h108, kc108, X108, e108, E108, A108, st108⟩ := newP X0 hx hZ (ww hw 0 rfl) e0 (g := (mkF m 29 #[iv p1, iv p2, iv p3, iv p4, iv yy104, iv yy105, iv yy106, iv yy107, .unset, .unset, .unset, .unset, .unset, .unset, .unset, .unset, .unset, .unset, .unset, .unset, .unset, .unset, .unset, .unset, .unset, .unset] [(.int 0)])) rfl (D at_29) rfl (by decide) (cap := 0) (by decide) (by decide) (by decide) (by decide)
  obtain ⟨b108, g108⟩ : ∃ z, z = h0.size := ⟨_, rfl⟩
  rw [← g108] at A108 st108
  have ne_wO_b108 : wO ≠ b108 := Nat.ne_of_lt (Nat.lt_of_lt_of_le lt_wO (Nat.le_trans O0.2.1 (Nat.le_of_eq g108.symm)))
  have ne_wT_b108 : wT ≠ b108 := Nat.ne_of_lt (Nat.lt_of_lt_of_le lt_wT (Nat.le_trans O0.2.1 (Nat.le_of_eq g108.symm)))
  have g_b108 : n0 ≤ b108 := Nat.le_trans (O0.1 ▸ O0.2.1) (Nat.le_of_eq g108.symm)
  have O108 : Old Z n0 h108 := O0.ext E108
  have CR108 : CHr Z EL s.vm h0 s.vm h108 := CR0.trans (CHr.ext E108 CR0.1)
  have sf_b108 : Safe Z EL s.vm h108 b108 := (Safe.new (Nat.le_of_eq g108.symm)).ext E108 CR0.1
  have V_b108 : Arv Z h108 b108 kc108 .char (0 : Int32) [] (.int (0 : Int32)) := Arv.new A108 (by decide)
  have lt_b108 := V_b108.lt
  refine zst 31 #[iv p1, iv p2, iv p3, iv p4, iv yy104, iv yy105, iv yy106, iv yy107, .unset, .unset, .unset, .unset, .unset, .unset, .unset, .unset, .unset, .unset, .unset, .unset, .unset, .unset, .unset, .unset, .unset, .unset] [(.ref b108)] st108 ?_
  refine zrl 33 #[iv p1, iv p2, iv p3, iv p4, iv yy104, iv yy105, iv yy106, iv yy107, rv b108, .unset, .unset, .unset, .unset, .unset, .unset, .unset, .unset, .unset, .unset, .unset, .unset, .unset, .unset, .unset, .unset, .unset] X108 hx (D at_31) rfl ?_
  refine zic 34 1 X108 hx (D at_33) ?_
  obtain ⟨T109, h109, kc109, X109, e109, E109, A109, st109⟩ := newP X108 hx hZ (ww hw 0 rfl) e108 (g := (mkF m 34 #[iv p1, iv p2, iv p3, iv p4, iv yy104, iv yy105, iv yy106, iv yy107, rv b108, .unset, .unset, .unset, .unset, .unset, .unset, .unset, .unset, .unset, .unset, .unset, .unset, .unset, .unset, .unset, .unset, .unset] [(.int 1)])) rfl (D at_34) rfl (by decide) (cap := 1) (by decide) (by decide) (by decide) (by decide)
  obtain ⟨b109, g109⟩ : ∃ z, z = h108.size := ⟨_, rfl⟩
  rw [← g109] at A109 st109
  have ne_b108_b109 : b108 ≠ b109 := Nat.ne_of_lt (Nat.lt_of_lt_of_eq lt_b108 g109.symm)
  have ne_wO_b109 : wO ≠ b109 := Nat.ne_of_lt (Nat.lt_of_lt_of_le lt_wO (Nat.le_trans O108.2.1 (Nat.le_of_eq g109.symm)))
  have ne_wT_b109 : wT ≠ b109 := Nat.ne_of_lt (Nat.lt_of_lt_of_le lt_wT (Nat.le_trans O108.2.1 (Nat.le_of_eq g109.symm)))
  have g_b109 : n0 ≤ b109 := Nat.le_trans (O108.1 ▸ O108.2.1) (Nat.le_of_eq g109.symm)
  have O109 : Old Z n0 h109 := O108.ext E109
  have CR109 : CHr Z EL s.vm h0 s.vm h109 := CR108.trans (CHr.ext E109 CR108.1)
  have sf_b109 : Safe Z EL s.vm h109 b109 := (Safe.new (Nat.le_of_eq g109.symm)).ext E109 CR108.1
  have V_b109 : Arv Z h109 b109 kc109 .char (1 : Int32) [(.int (0 : Int32))] (.int (0 : Int32)) := (Arv.new A109 (by decide)).pad (pad_rep [] (.int (0 : Int32)) 1)
  have lt_b109 := V_b109.lt
  refine zst 36 #[iv p1, iv p2, iv p3, iv p4, iv yy104, iv yy105, iv yy106, iv yy107, rv b108, .unset, .unset, .unset, .unset, .unset, .unset, .unset, .unset, .unset, .unset, .unset, .unset, .unset, .unset, .unset, .unset, .unset] [(.ref b109)] st109 ?_
  refine Go.st (f' := (mkF m 37 #[iv p1, iv p2, iv p3, iv p4, iv yy104, iv yy105, iv yy106, iv yy107, rv b108, .unset, .unset, .unset, .unset, .unset, .unset, .unset, .unset, .unset, .unset, .unset, .unset, .unset, .unset, .unset, .unset, .unset] [(.ref b109), (.ref b109)])) (fun _ k => XS.dup X109.here hx rfl (D at_36) rfl rfl k) ?_
  refine zic 38 0 X109 hx (D at_37) ?_
  refine zil 40 X109 hx (D at_38) rfl ?_
  obtain ⟨cl110, Ar110, q110, S110, Nx110, H110, G110⟩ := id V_b109
  have hin110 : ¬ ((0 : Int32) < 0 ∨ cl110.slots.size ≤ ((0 : Int32)).toNatClampNeg) := inb_of S110 ⟨by decide, by decide⟩
  obtain ⟨T111, h111, X111, e111, W111, st111⟩ := stC X109 hx hZ e109 Ar110 (j := (0 : Int32)) hin110 (g := (mkF m 40 #[iv p1, iv p2, iv p3, iv p4, iv yy104, iv yy105, iv yy106, iv yy107, rv b108, .unset, .unset, .unset, .unset, .unset, .unset, .unset, .unset, .unset, .unset, .unset, .unset, .unset, .unset, .unset, .unset, .unset] [(.int yy106), (.int 0), (.ref b109), (.ref b109)])) rfl rfl (D at_40)
  have V_b109_111 : Arv Z h111 b109 kc109 .char (1 : Int32) [(.int (nar .char yy106))] (.int (0 : Int32)) := Arv.set Ar110 q110 S110 Nx110 H110 G110 (fits_nar_char _) W111 0 rfl (Nat.le_of_ble_eq_true rfl)
  have N111 := Fr.snoc X111 N0 g_b109
  have O111 : Old Z n0 h111 := O109.wr W111 g_b109
  have CR111 : CHr Z EL s.vm h0 s.vm h111 := CR109.trans (CHr.wr W111 sf_b109 CR109.1)
  refine zst 41 #[iv p1, iv p2, iv p3, iv p4, iv yy104, iv yy105, iv yy106, iv yy107, rv b108, .unset, .unset, .unset, .unset, .unset, .unset, .unset, .unset, .unset, .unset, .unset, .unset, .unset, .unset, .unset, .unset, .unset] [(.ref b109)] st111 ?_
  refine zrl 43 #[iv p1, iv p2, iv p3, iv p4, iv yy104, iv yy105, iv yy106, iv yy107, rv b108, rv b109, .unset, .unset, .unset, .unset, .unset, .unset, .unset, .unset, .unset, .unset, .unset, .unset, .unset, .unset, .unset, .unset] X111 hx (D at_41) rfl ?_
  refine zic 44 2 X111 hx (D at_43) ?_
  obtain ⟨T112, h112, kc112, X112, e112, E112, A112, st112⟩ := newP X111 hx hZ (ww hw 0 rfl) e111 (g := (mkF m 44 #[iv p1, iv p2, iv p3, iv p4, iv yy104, iv yy105, iv yy106, iv yy107, rv b108, rv b109, .unset, .unset, .unset, .unset, .unset, .unset, .unset, .unset, .unset, .unset, .unset, .unset, .unset, .unset, .unset, .unset] [(.int 2)])) rfl (D at_44) rfl (by decide) (cap := 2) (by decide) (by decide) (by decide) (by decide)
  obtain ⟨b112, g112⟩ : ∃ z, z = h111.size := ⟨_, rfl⟩
  rw [← g112] at A112 st112
  have ft113 := (Nat.lt_of_lt_of_eq (Nat.lt_of_lt_of_le lt_b108 E109.1) W111.size.symm)
  have ne_b108_b112 : b108 ≠ b112 := Nat.ne_of_lt (Nat.lt_of_lt_of_eq ft113 g112.symm)
  have ft114 := (Nat.lt_of_lt_of_eq lt_b109 W111.size.symm)
  have ne_b109_b112 : b109 ≠ b112 := Nat.ne_of_lt (Nat.lt_of_lt_of_eq ft114 g112.symm)
  have ne_wO_b112 : wO ≠ b112 := Nat.ne_of_lt (Nat.lt_of_lt_of_le lt_wO (Nat.le_trans O111.2.1 (Nat.le_of_eq g112.symm)))
  have ne_wT_b112 : wT ≠ b112 := Nat.ne_of_lt (Nat.lt_of_lt_of_le lt_wT (Nat.le_trans O111.2.1 (Nat.le_of_eq g112.symm)))
  have g_b112 : n0 ≤ b112 := Nat.le_trans (O111.1 ▸ O111.2.1) (Nat.le_of_eq g112.symm)
  have O112 : Old Z n0 h112 := O111.ext E112
  have CR112 : CHr Z EL s.vm h0 s.vm h112 := CR111.trans (CHr.ext E112 CR111.1)
  have sf_b112 : Safe Z EL s.vm h112 b112 := (Safe.new (Nat.le_of_eq g112.symm)).ext E112 CR111.1
  have V_b112 : Arv Z h112 b112 kc112 .char (2 : Int32) [(.int (0 : Int32)), (.int (0 : Int32))] (.int (0 : Int32)) := (Arv.new A112 (by decide)).pad (pad_rep [] (.int (0 : Int32)) 2)
  have lt_b112 := V_b112.lt
  refine zst 46 #[iv p1, iv p2, iv p3, iv p4, iv yy104, iv yy105, iv yy106, iv yy107, rv b108, rv b109, .unset, .unset, .unset, .unset, .unset, .unset, .unset, .unset, .unset, .unset, .unset, .unset, .unset, .unset, .unset, .unset] [(.ref b112)] st112 ?_
  refine Go.st (f' := (mkF m 47 #[iv p1, iv p2, iv p3, iv p4, iv yy104, iv yy105, iv yy106, iv yy107, rv b108, rv b109, .unset, .unset, .unset, .unset, .unset, .unset, .unset, .unset, .unset, .unset, .unset, .unset, .unset, .unset, .unset, .unset] [(.ref b112), (.ref b112)])) (fun _ k => XS.dup X112.here hx rfl (D at_46) rfl rfl k) ?_
  refine zic 48 0 X112 hx (D at_47) ?_
  refine zil 50 X112 hx (D at_48) rfl ?_
  obtain ⟨cl115, Ar115, q115, S115, Nx115, H115, G115⟩ := id V_b112
  have hin115 : ¬ ((0 : Int32) < 0 ∨ cl115.slots.size ≤ ((0 : Int32)).toNatClampNeg) := inb_of S115 ⟨by decide, by decide⟩
  obtain ⟨T116, h116, X116, e116, W116, st116⟩ := stC X112 hx hZ e112 Ar115 (j := (0 : Int32)) hin115 (g := (mkF m 50 #[iv p1, iv p2, iv p3, iv p4, iv yy104, iv yy105, iv yy106, iv yy107, rv b108, rv b109, .unset, .unset, .unset, .unset, .unset, .unset, .unset, .unset, .unset, .unset, .unset, .unset, .unset, .unset, .unset, .unset] [(.int yy106), (.int 0), (.ref b112), (.ref b112)])) rfl rfl (D at_50)
  have V_b112_116 : Arv Z h116 b112 kc112 .char (2 : Int32) [(.int (nar .char yy106)), (.int (0 : Int32))] (.int (0 : Int32)) := Arv.set Ar115 q115 S115 Nx115 H115 G115 (fits_nar_char _) W116 0 rfl (Nat.le_of_ble_eq_true rfl)
  have N116 := Fr.snoc X116 N111 g_b112
  have O116 : Old Z n0 h116 := O112.wr W116 g_b112
  have CR116 : CHr Z EL s.vm h0 s.vm h116 := CR112.trans (CHr.wr W116 sf_b112 CR112.1)
  refine zst 51 #[iv p1, iv p2, iv p3, iv p4, iv yy104, iv yy105, iv yy106, iv yy107, rv b108, rv b109, .unset, .unset, .unset, .unset, .unset, .unset, .unset, .unset, .unset, .unset, .unset, .unset, .unset, .unset, .unset, .unset] [(.ref b112)] st116 ?_
  refine Go.st (f' := (mkF m 52 #[iv p1, iv p2, iv p3, iv p4, iv yy104, iv yy105, iv yy106, iv yy107, rv b108, rv b109, .unset, .unset, .unset, .unset, .unset, .unset, .unset, .unset, .unset, .unset, .unset, .unset, .unset, .unset, .unset, .unset] [(.ref b112), (.ref b112)])) (fun _ k => XS.dup X116.here hx rfl (D at_51) rfl rfl k) ?_
  refine zic 53 1 X116 hx (D at_52) ?_
  refine zil 55 X116 hx (D at_53) rfl ?_
  have ft118 := (Safe.wr W116 sf_b112 CR112.1 sf_b112)
  obtain ⟨cl117, Ar117, q117, S117, Nx117, H117, G117⟩ := id V_b112_116
  have hin117 : ¬ ((1 : Int32) < 0 ∨ cl117.slots.size ≤ ((1 : Int32)).toNatClampNeg) := inb_of S117 ⟨by decide, by decide⟩
  obtain ⟨T119, h119, X119, e119, W119, st119⟩ := stC X116 hx hZ e116 Ar117 (j := (1 : Int32)) hin117 (g := (mkF m 55 #[iv p1, iv p2, iv p3, iv p4, iv yy104, iv yy105, iv yy106, iv yy107, rv b108, rv b109, .unset, .unset, .unset, .unset, .unset, .unset, .unset, .unset, .unset, .unset, .unset, .unset, .unset, .unset, .unset, .unset] [(.int yy107), (.int 1), (.ref b112), (.ref b112)])) rfl rfl (D at_55)
  have V_b112_119 : Arv Z h119 b112 kc112 .char (2 : Int32) [(.int (nar .char yy106)), (.int (nar .char yy107))] (.int (0 : Int32)) := Arv.set Ar117 q117 S117 Nx117 H117 G117 (fits_nar_char _) W119 1 rfl (Nat.le_of_ble_eq_true rfl)
  have N119 := Fr.snoc X119 N116 g_b112
  have O119 : Old Z n0 h119 := O116.wr W119 g_b112
  have CR119 : CHr Z EL s.vm h0 s.vm h119 := CR116.trans (CHr.wr W119 ft118 CR116.1)
  refine zst 56 #[iv p1, iv p2, iv p3, iv p4, iv yy104, iv yy105, iv yy106, iv yy107, rv b108, rv b109, .unset, .unset, .unset, .unset, .unset, .unset, .unset, .unset, .unset, .unset, .unset, .unset, .unset, .unset, .unset, .unset] [(.ref b112)] st119 ?_
  refine zrl 58 #[iv p1, iv p2, iv p3, iv p4, iv yy104, iv yy105, iv yy106, iv yy107, rv b108, rv b109, rv b112, .unset, .unset, .unset, .unset, .unset, .unset, .unset, .unset, .unset, .unset, .unset, .unset, .unset, .unset, .unset] X119 hx (D at_56) rfl ?_
  have DR : ∀ (TJ120 : State) (hJ120 : Heap) (vmJ120 : Vm) (kJ120 : Nat) (LJ120 : List Loc) (dr : Addr) (t1 : Addr) (k1 : ClassId) (n1 : Int32) (es1 : List Value), (Stand p l e room_1 (s.setVm vmJ120) m #[(.int p1), (.int p2), (.int p3), (.int p4)] below meth c TJ120 LJ120 8 15) → (TJ120.heap = hJ120) → (Old Z n0 hJ120) → (Fr n0 LJ120) → (s.Since vmJ120 kJ120) → (kJ120 ≤ hJ120.size) → (Z.Warmed39 (s.setVm vmJ120).vm) → ((s.setVm vmJ120).vm.findClass "com/example/wirecall/wirecall/demo/UserToStringPinLaw" = some m.cls) → (CHr Z EL s.vm h0 vmJ120 hJ120) → (Ln n1 es1) → (es1.length ≤ 2) → (1 ≤ es1.length → es1.getD 0 (.int (0 : Int32)) = .int (nar .byte ((nar .char yy106).toInt8.toInt32))) → (2 ≤ es1.length → es1.getD 1 (.int (0 : Int32)) = .int (nar .byte ((nar .char yy107).toInt8.toInt32))) → (Exa Z hJ120 dr "java/lang/String") → (Fld Z hJ120 dr "java/lang/String" "coder" "B" (.int (0 : Int32))) → (Fld Z hJ120 dr "java/lang/String" "value" "[B" (.ref t1)) → (Arv Z hJ120 t1 k1 .byte n1 es1 (.int (0 : Int32))) → Go p e below (DoneW s Z EL (QL n0) room_1.cells room_1.slots) TJ120 (mkF m 102 #[iv p1, iv p2, iv p3, iv p4, iv yy104, iv yy105, iv yy106, iv yy107, rv b108, rv b109, rv b112, .unset, .unset, .unset, .unset, .unset, .unset, .unset, .unset, .unset, .unset, .unset, .unset, .unset, .unset, .unset] [(.ref dr)]) := by
   intro TJ120 hJ120 vmJ120 kJ120 LJ120 dr t1 k1 n1 es1 XJ120 eJ120 OJ120 NJ120 hSJ120 hkJ120 hZJ120 hownJ120 CRJ120 l1 z1 hc0 hc1 E_dr F_dr_coder F_dr_value V_t1
   have lt_dr := E_dr.lt
   have lt_t1 := V_t1.lt
   refine zrl 104 #[iv p1, iv p2, iv p3, iv p4, iv yy104, iv yy105, iv yy106, iv yy107, rv b108, rv b109, rv b112, rv dr, .unset, .unset, .unset, .unset, .unset, .unset, .unset, .unset, .unset, .unset, .unset, .unset, .unset, .unset] XJ120 hx (D at_102) rfl ?_
   refine zil 106 XJ120 hx (D at_104) rfl ?_
   by_cases cd121 : yy104 = (0 : Int32)
   · refine zfy 115 XJ120 hx (D at_106) ((if0 _ _).trans (teq cd121).1) ?_
     refine Go.st (f' := (mkF m 116 #[iv p1, iv p2, iv p3, iv p4, iv yy104, iv yy105, iv yy106, iv yy107, rv b108, rv b109, rv b112, rv dr, .unset, .unset, .unset, .unset, .unset, .unset, .unset, .unset, .unset, .unset, .unset, .unset, .unset, .unset] [.null])) (fun _ k => XS.aconstNull XJ120.here hx rfl (D at_115) k) ?_
     refine zgo 121 XJ120 hx (D at_116) ?_
     refine zrl 123 #[iv p1, iv p2, iv p3, iv p4, iv yy104, iv yy105, iv yy106, iv yy107, rv b108, rv b109, rv b112, rv dr, .val .null, .unset, .unset, .unset, .unset, .unset, .unset, .unset, .unset, .unset, .unset, .unset, .unset, .unset] XJ120 hx (D at_121) rfl ?_
     refine zil 125 XJ120 hx (D at_123) rfl ?_
     refine zfn 128 XJ120 hx (D at_125) ((if0 _ _).trans (teq cd121).2) ?_
     refine zic 129 0 XJ120 hx (D at_128) ?_
     refine zgo 133 XJ120 hx (D at_129) ?_
     refine zsl 135 #[iv p1, iv p2, iv p3, iv p4, iv yy104, iv yy105, iv yy106, iv yy107, rv b108, rv b109, rv b112, rv dr, .val .null, iv 0, .unset, .unset, .unset, .unset, .unset, .unset, .unset, .unset, .unset, .unset, .unset, .unset] XJ120 hx (D at_133) ?_
     refine zil 137 XJ120 hx (D at_135) rfl ?_
     refine zfn 140 XJ120 hx (D at_137) ((if0 _ _).trans (teq cd121).2) ?_
     obtain ⟨T122, h122, X122, e122, E122, A122, D122, -, st122⟩ := newO XJ120 hx hZJ120 hownJ120 (ww hw 22 rfl) (ww hw 23 rfl) (ww hw 24 rfl) eJ120 (g := (mkF m 140 #[iv p1, iv p2, iv p3, iv p4, iv yy104, iv yy105, iv yy106, iv yy107, rv b108, rv b109, rv b112, rv dr, .val .null, iv 0, .unset, .unset, .unset, .unset, .unset, .unset, .unset, .unset, .unset, .unset, .unset, .unset] [])) rfl (D at_140) (by decide) (by decide)
     obtain ⟨b122, g122⟩ : ∃ z, z = hJ120.size := ⟨_, rfl⟩
     rw [← g122] at A122 D122 st122
     have ne_dr_b122 : dr ≠ b122 := Nat.ne_of_lt (Nat.lt_of_lt_of_eq lt_dr g122.symm)
     have ne_t1_b122 : t1 ≠ b122 := Nat.ne_of_lt (Nat.lt_of_lt_of_eq lt_t1 g122.symm)
     have ne_wO_b122 : wO ≠ b122 := Nat.ne_of_lt (Nat.lt_of_lt_of_le lt_wO (Nat.le_trans OJ120.2.1 (Nat.le_of_eq g122.symm)))
     have ne_wT_b122 : wT ≠ b122 := Nat.ne_of_lt (Nat.lt_of_lt_of_le lt_wT (Nat.le_trans OJ120.2.1 (Nat.le_of_eq g122.symm)))
     have g_b122 : n0 ≤ b122 := Nat.le_trans (OJ120.1 ▸ OJ120.2.1) (Nat.le_of_eq g122.symm)
     have O122 : Old Z n0 h122 := OJ120.ext E122
     have CR122 : CHr Z EL s.vm h0 vmJ120 h122 := CRJ120.trans (CHr.ext E122 CRJ120.1)
     have sf_b122 : Safe Z EL vmJ120 h122 b122 := (Safe.new (Nat.le_of_eq g122.symm)).ext E122 CRJ120.1
     have lt_b122 := A122.lt
     have F_userId_b122 : Fld Z h122 b122 "com/example/wirecall/wirecall/demo/User" "userId" "I" (.int (0 : Int32)) := D122 (Or.inl (ww hw 30 rfl)) (ty := .int) (by decide)
     have F_userName_b122 : Fld Z h122 b122 "com/example/wirecall/wirecall/demo/User" "userName" "Ljava/lang/String;" .null := D122 (Or.inl (ww hw 32 rfl)) (ty := (.object "java/lang/String")) (by decide)
     refine zst 143 #[iv p1, iv p2, iv p3, iv p4, iv yy104, iv yy105, iv yy106, iv yy107, rv b108, rv b109, rv b112, rv dr, .val .null, iv 0, .unset, .unset, .unset, .unset, .unset, .unset, .unset, .unset, .unset, .unset, .unset, .unset] [(.ref b122)] st122 ?_
     refine Go.st (f' := (mkF m 144 #[iv p1, iv p2, iv p3, iv p4, iv yy104, iv yy105, iv yy106, iv yy107, rv b108, rv b109, rv b112, rv dr, .val .null, iv 0, .unset, .unset, .unset, .unset, .unset, .unset, .unset, .unset, .unset, .unset, .unset, .unset] [(.ref b122), (.ref b122)])) (fun _ k => XS.dup X122.here hx rfl (D at_143) rfl rfl k) ?_
     obtain ⟨_, _, ⟨T123, L123, kk123, nn123⟩, -, X123, ⟨Lc123, hQ123, lq123, yq123, zz123⟩, st123⟩ := X122.specialBack hx (y := mq45) rfl hownJ120 (mvT hZJ120 (ww hw 244 rfl)) (mvT hZJ120 (ww hw 245 rfl)) (mvT hZJ120 (ww hw 246 rfl)) (by decide) (own_back (W := 1) (rmU0 l Z a0 hw [] b122 h122 n0 O122 g_b122 A122 F_userId_b122 F_userName_b122 ) hZJ120 (ww hw 246 rfl) (ww hw 24 rfl) (by decide) (by decide)) (g := (mkF m 144 #[iv p1, iv p2, iv p3, iv p4, iv yy104, iv yy105, iv yy106, iv yy107, rv b108, rv b109, rv b112, rv dr, .val .null, iv 0, .unset, .unset, .unset, .unset, .unset, .unset, .unset, .unset, .unset, .unset, .unset, .unset] [(.ref b122), (.ref b122)])) rfl (by rw [hml]; rfl) (Steps.refl _) (a := b122) (argsL := []) (rest := [(.ref b122)]) (lenOf pd___V rfl) rfl (by show 2 * 0 + _ ≤ _; exact Nat.le_of_eq rfl) (D at_144) (fun _ _ => ⟨rfl, e122, (by decide : 9 + 0 ≤ _), (by decide : 17 + 0 ≤ _)⟩)
     dsimp only [Pt.U, Pt.locs, Pt.cells, Pt.slots] at X123 lq123 yq123 zz123 st123 hQ123
     subst lq123 yq123 zz123
     obtain ⟨rfl, Nq123, kq123, eq123, fq123_0, fq123_1⟩ := hQ123
     have N123 := Fr.app NJ120 Nq123
     have O123 : Old Z n0 T123.heap := O122.keep kq123 (allS g_b122 all0)
     have CR123 : CHr Z EL s.vm h0 vmJ120 T123.heap := CR122.trans (CHr.keep kq123 (sfS sf_b122 sf0) CR122.1)
     refine Go.tr (f' := (mkF m 147 #[iv p1, iv p2, iv p3, iv p4, iv yy104, iv yy105, iv yy106, iv yy107, rv b108, rv b109, rv b112, rv dr, .val .null, iv 0, .unset, .unset, .unset, .unset, .unset, .unset, .unset, .unset, .unset, .unset, .unset, .unset] [(.ref b122)])) st123 ?_
     refine zgo 160 X123 hx (D at_147) ?_
     refine zrl 162 #[iv p1, iv p2, iv p3, iv p4, iv yy104, iv yy105, iv yy106, iv yy107, rv b108, rv b109, rv b112, rv dr, .val .null, iv 0, rv b122, .unset, .unset, .unset, .unset, .unset, .unset, .unset, .unset, .unset, .unset, .unset] X123 hx (D at_160) rfl ?_
     refine zal 164 X123 hx (D at_162) rfl rfl ?_
     obtain ⟨cq124, kq_124, q124a, q124b, q124c⟩ := isOf hZJ120 rfl eq123
     obtain ⟨_, _, ⟨T124, L124, kk124, nn124⟩, -, Xw124, hSw124, hgw124, ⟨Lc124, hQ124, lq124, yq124, zz124, crw124⟩, st124⟩ := X123.virtualBackS hx (y := mq47) (z := mq47) hownJ120 (mvT hZJ120 (ww hw 33 rfl)) (mvT hZJ120 (ww hw 34 rfl)) (notFace_of_selects (args := #[]) (mvT hZJ120 (ww hw 36 rfl))) (mvT hZJ120 (ww hw 36 rfl)) (mvT hZJ120 (ww hw 35 rfl)) (by decide) (own_backW (W := 0) (rmT1 l Z a0 hw [] b122 (0 : Int32)  wO wT kO kT iC vF T123.heap n0 O123  eq123 fq123_0 fq123_1  WW) hZJ120 (ww hw 37 rfl) (ww hw 24 rfl) (by decide) (by decide) hEL CR123.1) q124a q124c (g := (mkF m 164 #[iv p1, iv p2, iv p3, iv p4, iv yy104, iv yy105, iv yy106, iv yy107, rv b108, rv b109, rv b112, rv dr, .val .null, iv 0, rv b122, .unset, .unset, .unset, .unset, .unset, .unset, .unset, .unset, .unset, .unset, .unset] [(.ref b122)])) rfl (by rw [hml]; rfl) (Steps.refl _) (argsL := []) (rest := []) (lenOf pd___Ljava_lang_String_ rfl) rfl (by show 2 * 0 + _ ≤ _; exact Nat.le_of_eq rfl) (D at_164) (fun _ _ => ⟨rfl, rfl, (by decide : 9 + 15 ≤ _), (by decide : 17 + 1332 ≤ _)⟩)
     dsimp only [Pt.U, Pt.locs, Pt.cells, Pt.slots] at Xw124 lq124 yq124 zz124 st124 hQ124 hSw124 hgw124 crw124
     subst lq124 yq124 zz124
     have ft125 := (Nat.le_trans (Nat.le_trans hkJ120 E122.1) kq123.1)
     obtain ⟨X124, hS124, hZ124, hown124⟩ := rebS hSJ120 ft125 Xw124 hSw124 hgw124 hZJ120 hownJ120
     obtain ⟨b124, tt124, kt124, n124, rfl, Nq124, zb124, kq124, eq124, cq124, fq124, vq124, ln124⟩ := hQ124
     have N124 := Fr.app N123 Nq124
     have ft126 := (Safe.keep kq123 (sfS sf_b122 sf0) CR122.1 sf_b122)
     have ft127 := (Nat.lt_of_lt_of_le lt_b122 kq123.1)
     have ft128 := (Nat.lt_of_lt_of_le (Nat.lt_of_lt_of_le lt_dr E122.1) kq123.1)
     have ne_dr_b124 : dr ≠ b124 := Nat.ne_of_lt (Nat.lt_of_lt_of_le ft128 zb124)
     have ft129 := (Nat.lt_of_lt_of_le (Nat.lt_of_lt_of_le lt_t1 E122.1) kq123.1)
     have ne_t1_b124 : t1 ≠ b124 := Nat.ne_of_lt (Nat.lt_of_lt_of_le ft129 zb124)
     have ne_b122_b124 : b122 ≠ b124 := Nat.ne_of_lt (Nat.lt_of_lt_of_le ft127 zb124)
     have ne_wO_b124 : wO ≠ b124 := Nat.ne_of_lt (Nat.lt_of_lt_of_le lt_wO (Nat.le_trans O123.2.1 zb124))
     have ne_wT_b124 : wT ≠ b124 := Nat.ne_of_lt (Nat.lt_of_lt_of_le lt_wT (Nat.le_trans O123.2.1 zb124))
     have g_b124 : n0 ≤ b124 := Nat.le_trans (O123.1 ▸ O123.2.1) zb124
     have O124 : Old Z n0 T124.heap := O123.keep kq124 all0
     have lt_b124 := eq124.lt
     have lt_tt124 := vq124.lt
     have hk124 : T124.heap.size ≤ T124.heap.size := Nat.le_refl _
     have sf130 := crw124.safe ft127 ft126
     have CR124 := CR123.trans crw124
     refine Go.tr (f' := (mkF m 167 #[iv p1, iv p2, iv p3, iv p4, iv yy104, iv yy105, iv yy106, iv yy107, rv b108, rv b109, rv b112, rv dr, .val .null, iv 0, rv b122, .unset, .unset, .unset, .unset, .unset, .unset, .unset, .unset, .unset, .unset, .unset] [(.ref b124)])) st124 ?_
     refine zrl 169 #[iv p1, iv p2, iv p3, iv p4, iv yy104, iv yy105, iv yy106, iv yy107, rv b108, rv b109, rv b112, rv dr, .val .null, iv 0, rv b122, rv b124, .unset, .unset, .unset, .unset, .unset, .unset, .unset, .unset, .unset, .unset] X124 hx (D at_167) rfl ?_
     refine zal 171 X124 hx (D at_169) rfl rfl ?_
     refine Go.st (f' := (mkF m 176 #[iv p1, iv p2, iv p3, iv p4, iv yy104, iv yy105, iv yy106, iv yy107, rv b108, rv b109, rv b112, rv dr, .val .null, iv 0, rv b122, rv b124, .unset, .unset, .unset, .unset, .unset, .unset, .unset, .unset, .unset, .unset] [])) (fun _ k => XS.ifnonnullYes X124.here hx rfl (pc0 := 171) (pc' := 176) rfl (D at_171) rfl (by decide) (by decide) k) ?_
     have ft131 := (((E_dr.ext E122).keep kq123).keep kq124)
     have ft132 := (((F_dr_coder.ext E122).keep kq123 (ninS ne_dr_b122 nin0)).keep kq124 nin0)
     have ft133 := (((F_dr_value.ext E122).keep kq123 (ninS ne_dr_b122 nin0)).keep kq124 nin0)
     have ft134 := (((V_t1.ext E122).keep kq123 (ninS ne_t1_b122 nin0)).keep kq124 nin0)
     exact U0 _ T124.heap T124.vm _ _ yy104 yy105 yy106 yy107 b108 b109 b112 dr (0 : Int32) b122 b124 tt124 kt124 n124 X124 rfl O124 N124 hS124 hk124 hZ124 hown124 CR124 ln124 eq124 cq124 fq124 vq124
   · refine zfn 109 XJ120 hx (D at_106) ((if0 _ _).trans (feq cd121).1) ?_
     refine zil 111 XJ120 hx (D at_109) rfl ?_
     refine zic 112 1 XJ120 hx (D at_111) ?_
     by_cases cd135 : yy104 = (1 : Int32)
     · refine zcn 115 XJ120 hx (D at_112) (teq cd135).2 ?_
       refine Go.st (f' := (mkF m 116 #[iv p1, iv p2, iv p3, iv p4, iv yy104, iv yy105, iv yy106, iv yy107, rv b108, rv b109, rv b112, rv dr, .unset, .unset, .unset, .unset, .unset, .unset, .unset, .unset, .unset, .unset, .unset, .unset, .unset, .unset] [.null])) (fun _ k => XS.aconstNull XJ120.here hx rfl (D at_115) k) ?_
       refine zgo 121 XJ120 hx (D at_116) ?_
       refine zrl 123 #[iv p1, iv p2, iv p3, iv p4, iv yy104, iv yy105, iv yy106, iv yy107, rv b108, rv b109, rv b112, rv dr, .val .null, .unset, .unset, .unset, .unset, .unset, .unset, .unset, .unset, .unset, .unset, .unset, .unset, .unset] XJ120 hx (D at_121) rfl ?_
       refine zil 125 XJ120 hx (D at_123) rfl ?_
       refine zfy 132 XJ120 hx (D at_125) ((if0 _ _).trans (feq cd121).2) ?_
       refine zin 133 XJ120 hx (D at_132) rfl ?_
       refine zsl 135 #[iv p1, iv p2, iv p3, iv p4, iv yy104, iv yy105, iv yy106, iv yy107, rv b108, rv b109, rv b112, rv dr, .val .null, iv p1, .unset, .unset, .unset, .unset, .unset, .unset, .unset, .unset, .unset, .unset, .unset, .unset] XJ120 hx (D at_133) ?_
       refine zil 137 XJ120 hx (D at_135) rfl ?_
       refine zfy 150 XJ120 hx (D at_137) ((if0 _ _).trans (feq cd121).2) ?_
       obtain ⟨T136, h136, X136, e136, E136, A136, D136, -, st136⟩ := newO XJ120 hx hZJ120 hownJ120 (ww hw 22 rfl) (ww hw 23 rfl) (ww hw 24 rfl) eJ120 (g := (mkF m 150 #[iv p1, iv p2, iv p3, iv p4, iv yy104, iv yy105, iv yy106, iv yy107, rv b108, rv b109, rv b112, rv dr, .val .null, iv p1, .unset, .unset, .unset, .unset, .unset, .unset, .unset, .unset, .unset, .unset, .unset, .unset] [])) rfl (D at_150) (by decide) (by decide)
       obtain ⟨b136, g136⟩ : ∃ z, z = hJ120.size := ⟨_, rfl⟩
       rw [← g136] at A136 D136 st136
       have ne_dr_b136 : dr ≠ b136 := Nat.ne_of_lt (Nat.lt_of_lt_of_eq lt_dr g136.symm)
       have ne_t1_b136 : t1 ≠ b136 := Nat.ne_of_lt (Nat.lt_of_lt_of_eq lt_t1 g136.symm)
       have ne_wO_b136 : wO ≠ b136 := Nat.ne_of_lt (Nat.lt_of_lt_of_le lt_wO (Nat.le_trans OJ120.2.1 (Nat.le_of_eq g136.symm)))
       have ne_wT_b136 : wT ≠ b136 := Nat.ne_of_lt (Nat.lt_of_lt_of_le lt_wT (Nat.le_trans OJ120.2.1 (Nat.le_of_eq g136.symm)))
       have g_b136 : n0 ≤ b136 := Nat.le_trans (OJ120.1 ▸ OJ120.2.1) (Nat.le_of_eq g136.symm)
       have O136 : Old Z n0 h136 := OJ120.ext E136
       have CR136 : CHr Z EL s.vm h0 vmJ120 h136 := CRJ120.trans (CHr.ext E136 CRJ120.1)
       have sf_b136 : Safe Z EL vmJ120 h136 b136 := (Safe.new (Nat.le_of_eq g136.symm)).ext E136 CRJ120.1
       have lt_b136 := A136.lt
       have F_userId_b136 : Fld Z h136 b136 "com/example/wirecall/wirecall/demo/User" "userId" "I" (.int (0 : Int32)) := D136 (Or.inl (ww hw 30 rfl)) (ty := .int) (by decide)
       have F_userName_b136 : Fld Z h136 b136 "com/example/wirecall/wirecall/demo/User" "userName" "Ljava/lang/String;" .null := D136 (Or.inl (ww hw 32 rfl)) (ty := (.object "java/lang/String")) (by decide)
       refine zst 153 #[iv p1, iv p2, iv p3, iv p4, iv yy104, iv yy105, iv yy106, iv yy107, rv b108, rv b109, rv b112, rv dr, .val .null, iv p1, .unset, .unset, .unset, .unset, .unset, .unset, .unset, .unset, .unset, .unset, .unset, .unset] [(.ref b136)] st136 ?_
       refine Go.st (f' := (mkF m 154 #[iv p1, iv p2, iv p3, iv p4, iv yy104, iv yy105, iv yy106, iv yy107, rv b108, rv b109, rv b112, rv dr, .val .null, iv p1, .unset, .unset, .unset, .unset, .unset, .unset, .unset, .unset, .unset, .unset, .unset, .unset] [(.ref b136), (.ref b136)])) (fun _ k => XS.dup X136.here hx rfl (D at_153) rfl rfl k) ?_
       refine zin 155 X136 hx (D at_154) rfl ?_
       refine zal 157 X136 hx (D at_155) rfl rfl ?_
       obtain ⟨_, _, ⟨T137, L137, kk137, nn137⟩, -, X137, ⟨Lc137, hQ137, lq137, yq137, zz137⟩, st137⟩ := X136.specialBack hx (y := mq46) rfl hownJ120 (mvT hZJ120 (ww hw 25 rfl)) (mvT hZJ120 (ww hw 26 rfl)) (mvT hZJ120 (ww hw 27 rfl)) (by decide) (own_back (W := 1) (rmU2 l Z a0 hw [] b136 p1 h136 n0 O136 g_b136 A136 F_userId_b136 F_userName_b136 ) hZJ120 (ww hw 27 rfl) (ww hw 24 rfl) (by decide) (by decide)) (g := (mkF m 157 #[iv p1, iv p2, iv p3, iv p4, iv yy104, iv yy105, iv yy106, iv yy107, rv b108, rv b109, rv b112, rv dr, .val .null, iv p1, .unset, .unset, .unset, .unset, .unset, .unset, .unset, .unset, .unset, .unset, .unset, .unset] [.null, (.int p1), (.ref b136), (.ref b136)])) rfl (by rw [hml]; rfl) (Steps.refl _) (a := b136) (argsL := [(.int p1), .null]) (rest := [(.ref b136)]) (lenOf pd__ILjava_lang_String__V rfl) rfl (by show 2 * 0 + _ ≤ _; exact Nat.le_of_eq rfl) (D at_157) (fun _ _ => ⟨rfl, e136, (by decide : 9 + 0 ≤ _), (by decide : 17 + 0 ≤ _)⟩)
       dsimp only [Pt.U, Pt.locs, Pt.cells, Pt.slots] at X137 lq137 yq137 zz137 st137 hQ137
       subst lq137 yq137 zz137
       obtain ⟨rfl, Nq137, kq137, eq137, fq137_0, fq137_1⟩ := hQ137
       have N137 := Fr.app NJ120 Nq137
       have O137 : Old Z n0 T137.heap := O136.keep kq137 (allS g_b136 all0)
       have CR137 : CHr Z EL s.vm h0 vmJ120 T137.heap := CR136.trans (CHr.keep kq137 (sfS sf_b136 sf0) CR136.1)
       refine Go.tr (f' := (mkF m 160 #[iv p1, iv p2, iv p3, iv p4, iv yy104, iv yy105, iv yy106, iv yy107, rv b108, rv b109, rv b112, rv dr, .val .null, iv p1, .unset, .unset, .unset, .unset, .unset, .unset, .unset, .unset, .unset, .unset, .unset, .unset] [(.ref b136)])) st137 ?_
       refine zrl 162 #[iv p1, iv p2, iv p3, iv p4, iv yy104, iv yy105, iv yy106, iv yy107, rv b108, rv b109, rv b112, rv dr, .val .null, iv p1, rv b136, .unset, .unset, .unset, .unset, .unset, .unset, .unset, .unset, .unset, .unset, .unset] X137 hx (D at_160) rfl ?_
       refine zal 164 X137 hx (D at_162) rfl rfl ?_
       obtain ⟨cq138, kq_138, q138a, q138b, q138c⟩ := isOf hZJ120 rfl eq137
       obtain ⟨_, _, ⟨T138, L138, kk138, nn138⟩, -, Xw138, hSw138, hgw138, ⟨Lc138, hQ138, lq138, yq138, zz138, crw138⟩, st138⟩ := X137.virtualBackS hx (y := mq47) (z := mq47) hownJ120 (mvT hZJ120 (ww hw 33 rfl)) (mvT hZJ120 (ww hw 34 rfl)) (notFace_of_selects (args := #[]) (mvT hZJ120 (ww hw 36 rfl))) (mvT hZJ120 (ww hw 36 rfl)) (mvT hZJ120 (ww hw 35 rfl)) (by decide) (own_backW (W := 0) (rmT1 l Z a0 hw [] b136 p1  wO wT kO kT iC vF T137.heap n0 O137  eq137 fq137_0 fq137_1  WW) hZJ120 (ww hw 37 rfl) (ww hw 24 rfl) (by decide) (by decide) hEL CR137.1) q138a q138c (g := (mkF m 164 #[iv p1, iv p2, iv p3, iv p4, iv yy104, iv yy105, iv yy106, iv yy107, rv b108, rv b109, rv b112, rv dr, .val .null, iv p1, rv b136, .unset, .unset, .unset, .unset, .unset, .unset, .unset, .unset, .unset, .unset, .unset] [(.ref b136)])) rfl (by rw [hml]; rfl) (Steps.refl _) (argsL := []) (rest := []) (lenOf pd___Ljava_lang_String_ rfl) rfl (by show 2 * 0 + _ ≤ _; exact Nat.le_of_eq rfl) (D at_164) (fun _ _ => ⟨rfl, rfl, (by decide : 9 + 15 ≤ _), (by decide : 17 + 1332 ≤ _)⟩)
       dsimp only [Pt.U, Pt.locs, Pt.cells, Pt.slots] at Xw138 lq138 yq138 zz138 st138 hQ138 hSw138 hgw138 crw138
       subst lq138 yq138 zz138
       have ft139 := (Nat.le_trans (Nat.le_trans hkJ120 E136.1) kq137.1)
       obtain ⟨X138, hS138, hZ138, hown138⟩ := rebS hSJ120 ft139 Xw138 hSw138 hgw138 hZJ120 hownJ120
       obtain ⟨b138, tt138, kt138, n138, rfl, Nq138, zb138, kq138, eq138, cq138, fq138, vq138, ln138⟩ := hQ138
       have N138 := Fr.app N137 Nq138
       have ft140 := (Safe.keep kq137 (sfS sf_b136 sf0) CR136.1 sf_b136)
       have ft141 := (Nat.lt_of_lt_of_le lt_b136 kq137.1)
       have ft142 := (Nat.lt_of_lt_of_le (Nat.lt_of_lt_of_le lt_dr E136.1) kq137.1)
       have ne_dr_b138 : dr ≠ b138 := Nat.ne_of_lt (Nat.lt_of_lt_of_le ft142 zb138)
       have ft143 := (Nat.lt_of_lt_of_le (Nat.lt_of_lt_of_le lt_t1 E136.1) kq137.1)
       have ne_t1_b138 : t1 ≠ b138 := Nat.ne_of_lt (Nat.lt_of_lt_of_le ft143 zb138)
       have ne_b136_b138 : b136 ≠ b138 := Nat.ne_of_lt (Nat.lt_of_lt_of_le ft141 zb138)
       have ne_wO_b138 : wO ≠ b138 := Nat.ne_of_lt (Nat.lt_of_lt_of_le lt_wO (Nat.le_trans O137.2.1 zb138))
       have ne_wT_b138 : wT ≠ b138 := Nat.ne_of_lt (Nat.lt_of_lt_of_le lt_wT (Nat.le_trans O137.2.1 zb138))
       have g_b138 : n0 ≤ b138 := Nat.le_trans (O137.1 ▸ O137.2.1) zb138
       have O138 : Old Z n0 T138.heap := O137.keep kq138 all0
       have lt_b138 := eq138.lt
       have lt_tt138 := vq138.lt
       have hk138 : T138.heap.size ≤ T138.heap.size := Nat.le_refl _
       have sf144 := crw138.safe ft141 ft140
       have CR138 := CR137.trans crw138
       refine Go.tr (f' := (mkF m 167 #[iv p1, iv p2, iv p3, iv p4, iv yy104, iv yy105, iv yy106, iv yy107, rv b108, rv b109, rv b112, rv dr, .val .null, iv p1, rv b136, .unset, .unset, .unset, .unset, .unset, .unset, .unset, .unset, .unset, .unset, .unset] [(.ref b138)])) st138 ?_
       refine zrl 169 #[iv p1, iv p2, iv p3, iv p4, iv yy104, iv yy105, iv yy106, iv yy107, rv b108, rv b109, rv b112, rv dr, .val .null, iv p1, rv b136, rv b138, .unset, .unset, .unset, .unset, .unset, .unset, .unset, .unset, .unset, .unset] X138 hx (D at_167) rfl ?_
       refine zal 171 X138 hx (D at_169) rfl rfl ?_
       refine Go.st (f' := (mkF m 176 #[iv p1, iv p2, iv p3, iv p4, iv yy104, iv yy105, iv yy106, iv yy107, rv b108, rv b109, rv b112, rv dr, .val .null, iv p1, rv b136, rv b138, .unset, .unset, .unset, .unset, .unset, .unset, .unset, .unset, .unset, .unset] [])) (fun _ k => XS.ifnonnullYes X138.here hx rfl (pc0 := 171) (pc' := 176) rfl (D at_171) rfl (by decide) (by decide) k) ?_
       have ft145 := (((E_dr.ext E136).keep kq137).keep kq138)
       have ft146 := (((F_dr_coder.ext E136).keep kq137 (ninS ne_dr_b136 nin0)).keep kq138 nin0)
       have ft147 := (((F_dr_value.ext E136).keep kq137 (ninS ne_dr_b136 nin0)).keep kq138 nin0)
       have ft148 := (((V_t1.ext E136).keep kq137 (ninS ne_t1_b136 nin0)).keep kq138 nin0)
       exact U0 _ T138.heap T138.vm _ _ yy104 yy105 yy106 yy107 b108 b109 b112 dr p1 b136 b138 tt138 kt138 n138 X138 rfl O138 N138 hS138 hk138 hZ138 hown138 CR138 ln138 eq138 cq138 fq138 vq138
     · refine zcy 119 XJ120 hx (D at_112) (feq cd135).2 ?_
       refine zal 121 XJ120 hx (D at_119) rfl rfl ?_
       refine zrl 123 #[iv p1, iv p2, iv p3, iv p4, iv yy104, iv yy105, iv yy106, iv yy107, rv b108, rv b109, rv b112, rv dr, rv dr, .unset, .unset, .unset, .unset, .unset, .unset, .unset, .unset, .unset, .unset, .unset, .unset, .unset] XJ120 hx (D at_121) rfl ?_
       refine zil 125 XJ120 hx (D at_123) rfl ?_
       refine zfy 132 XJ120 hx (D at_125) ((if0 _ _).trans (feq cd121).2) ?_
       refine zin 133 XJ120 hx (D at_132) rfl ?_
       refine zsl 135 #[iv p1, iv p2, iv p3, iv p4, iv yy104, iv yy105, iv yy106, iv yy107, rv b108, rv b109, rv b112, rv dr, rv dr, iv p1, .unset, .unset, .unset, .unset, .unset, .unset, .unset, .unset, .unset, .unset, .unset, .unset] XJ120 hx (D at_133) ?_
       refine zil 137 XJ120 hx (D at_135) rfl ?_
       refine zfy 150 XJ120 hx (D at_137) ((if0 _ _).trans (feq cd121).2) ?_
       obtain ⟨T149, h149, X149, e149, E149, A149, D149, -, st149⟩ := newO XJ120 hx hZJ120 hownJ120 (ww hw 22 rfl) (ww hw 23 rfl) (ww hw 24 rfl) eJ120 (g := (mkF m 150 #[iv p1, iv p2, iv p3, iv p4, iv yy104, iv yy105, iv yy106, iv yy107, rv b108, rv b109, rv b112, rv dr, rv dr, iv p1, .unset, .unset, .unset, .unset, .unset, .unset, .unset, .unset, .unset, .unset, .unset, .unset] [])) rfl (D at_150) (by decide) (by decide)
       obtain ⟨b149, g149⟩ : ∃ z, z = hJ120.size := ⟨_, rfl⟩
       rw [← g149] at A149 D149 st149
       have ne_dr_b149 : dr ≠ b149 := Nat.ne_of_lt (Nat.lt_of_lt_of_eq lt_dr g149.symm)
       have ne_t1_b149 : t1 ≠ b149 := Nat.ne_of_lt (Nat.lt_of_lt_of_eq lt_t1 g149.symm)
       have ne_wO_b149 : wO ≠ b149 := Nat.ne_of_lt (Nat.lt_of_lt_of_le lt_wO (Nat.le_trans OJ120.2.1 (Nat.le_of_eq g149.symm)))
       have ne_wT_b149 : wT ≠ b149 := Nat.ne_of_lt (Nat.lt_of_lt_of_le lt_wT (Nat.le_trans OJ120.2.1 (Nat.le_of_eq g149.symm)))
       have g_b149 : n0 ≤ b149 := Nat.le_trans (OJ120.1 ▸ OJ120.2.1) (Nat.le_of_eq g149.symm)
       have O149 : Old Z n0 h149 := OJ120.ext E149
       have CR149 : CHr Z EL s.vm h0 vmJ120 h149 := CRJ120.trans (CHr.ext E149 CRJ120.1)
       have sf_b149 : Safe Z EL vmJ120 h149 b149 := (Safe.new (Nat.le_of_eq g149.symm)).ext E149 CRJ120.1
       have lt_b149 := A149.lt
       have F_userId_b149 : Fld Z h149 b149 "com/example/wirecall/wirecall/demo/User" "userId" "I" (.int (0 : Int32)) := D149 (Or.inl (ww hw 30 rfl)) (ty := .int) (by decide)
       have F_userName_b149 : Fld Z h149 b149 "com/example/wirecall/wirecall/demo/User" "userName" "Ljava/lang/String;" .null := D149 (Or.inl (ww hw 32 rfl)) (ty := (.object "java/lang/String")) (by decide)
       refine zst 153 #[iv p1, iv p2, iv p3, iv p4, iv yy104, iv yy105, iv yy106, iv yy107, rv b108, rv b109, rv b112, rv dr, rv dr, iv p1, .unset, .unset, .unset, .unset, .unset, .unset, .unset, .unset, .unset, .unset, .unset, .unset] [(.ref b149)] st149 ?_
       refine Go.st (f' := (mkF m 154 #[iv p1, iv p2, iv p3, iv p4, iv yy104, iv yy105, iv yy106, iv yy107, rv b108, rv b109, rv b112, rv dr, rv dr, iv p1, .unset, .unset, .unset, .unset, .unset, .unset, .unset, .unset, .unset, .unset, .unset, .unset] [(.ref b149), (.ref b149)])) (fun _ k => XS.dup X149.here hx rfl (D at_153) rfl rfl k) ?_
       refine zin 155 X149 hx (D at_154) rfl ?_
       refine zal 157 X149 hx (D at_155) rfl rfl ?_
       obtain ⟨_, _, ⟨T150, L150, kk150, nn150⟩, -, X150, ⟨Lc150, hQ150, lq150, yq150, zz150⟩, st150⟩ := X149.specialBack hx (y := mq46) rfl hownJ120 (mvT hZJ120 (ww hw 25 rfl)) (mvT hZJ120 (ww hw 26 rfl)) (mvT hZJ120 (ww hw 27 rfl)) (by decide) (own_back (W := 1) (rmU3 l Z a0 hw [] b149 p1 dr h149 n0 O149 g_b149 A149 F_userId_b149 F_userName_b149 ) hZJ120 (ww hw 27 rfl) (ww hw 24 rfl) (by decide) (by decide)) (g := (mkF m 157 #[iv p1, iv p2, iv p3, iv p4, iv yy104, iv yy105, iv yy106, iv yy107, rv b108, rv b109, rv b112, rv dr, rv dr, iv p1, .unset, .unset, .unset, .unset, .unset, .unset, .unset, .unset, .unset, .unset, .unset, .unset] [(.ref dr), (.int p1), (.ref b149), (.ref b149)])) rfl (by rw [hml]; rfl) (Steps.refl _) (a := b149) (argsL := [(.int p1), (.ref dr)]) (rest := [(.ref b149)]) (lenOf pd__ILjava_lang_String__V rfl) rfl (by show 2 * 0 + _ ≤ _; exact Nat.le_of_eq rfl) (D at_157) (fun _ _ => ⟨rfl, e149, (by decide : 9 + 0 ≤ _), (by decide : 17 + 0 ≤ _)⟩)
       dsimp only [Pt.U, Pt.locs, Pt.cells, Pt.slots] at X150 lq150 yq150 zz150 st150 hQ150
       subst lq150 yq150 zz150
       obtain ⟨rfl, Nq150, kq150, eq150, fq150_0, fq150_1⟩ := hQ150
       have N150 := Fr.app NJ120 Nq150
       have O150 : Old Z n0 T150.heap := O149.keep kq150 (allS g_b149 all0)
       have CR150 : CHr Z EL s.vm h0 vmJ120 T150.heap := CR149.trans (CHr.keep kq150 (sfS sf_b149 sf0) CR149.1)
       refine Go.tr (f' := (mkF m 160 #[iv p1, iv p2, iv p3, iv p4, iv yy104, iv yy105, iv yy106, iv yy107, rv b108, rv b109, rv b112, rv dr, rv dr, iv p1, .unset, .unset, .unset, .unset, .unset, .unset, .unset, .unset, .unset, .unset, .unset, .unset] [(.ref b149)])) st150 ?_
       refine zrl 162 #[iv p1, iv p2, iv p3, iv p4, iv yy104, iv yy105, iv yy106, iv yy107, rv b108, rv b109, rv b112, rv dr, rv dr, iv p1, rv b149, .unset, .unset, .unset, .unset, .unset, .unset, .unset, .unset, .unset, .unset, .unset] X150 hx (D at_160) rfl ?_
       refine zal 164 X150 hx (D at_162) rfl rfl ?_
       have ft152 := ((E_dr.ext E149).keep kq150)
       have ft153 := ((F_dr_coder.ext E149).keep kq150 (ninS ne_dr_b149 nin0))
       have ft154 := ((F_dr_value.ext E149).keep kq150 (ninS ne_dr_b149 nin0))
       have ft155 := ((V_t1.ext E149).keep kq150 (ninS ne_t1_b149 nin0))
       obtain ⟨cq151, kq_151, q151a, q151b, q151c⟩ := isOf hZJ120 rfl eq150
       obtain ⟨_, _, ⟨T151, L151, kk151, nn151⟩, -, Xw151, hSw151, hgw151, ⟨Lc151, hQ151, lq151, yq151, zz151, crw151⟩, st151⟩ := X150.virtualBackS hx (y := mq47) (z := mq47) hownJ120 (mvT hZJ120 (ww hw 33 rfl)) (mvT hZJ120 (ww hw 34 rfl)) (notFace_of_selects (args := #[]) (mvT hZJ120 (ww hw 36 rfl))) (mvT hZJ120 (ww hw 36 rfl)) (mvT hZJ120 (ww hw 35 rfl)) (by decide) (own_backW (W := 0) (rmT0 l Z a0 hw [] b149 p1 dr t1 k1 n1 es1 wO wT kO kT iC vF T150.heap n0 O150 l1 z1 eq150 fq150_0 fq150_1 ft152 ft153 ft154 ft155 WW) hZJ120 (ww hw 37 rfl) (ww hw 24 rfl) (by decide) (by decide) hEL CR150.1) q151a q151c (g := (mkF m 164 #[iv p1, iv p2, iv p3, iv p4, iv yy104, iv yy105, iv yy106, iv yy107, rv b108, rv b109, rv b112, rv dr, rv dr, iv p1, rv b149, .unset, .unset, .unset, .unset, .unset, .unset, .unset, .unset, .unset, .unset, .unset] [(.ref b149)])) rfl (by rw [hml]; rfl) (Steps.refl _) (argsL := []) (rest := []) (lenOf pd___Ljava_lang_String_ rfl) rfl (by show 2 * 0 + _ ≤ _; exact Nat.le_of_eq rfl) (D at_164) (fun _ _ => ⟨rfl, rfl, (by decide : 9 + 15 ≤ _), (by decide : 17 + 1332 ≤ _)⟩)
       dsimp only [Pt.U, Pt.locs, Pt.cells, Pt.slots] at Xw151 lq151 yq151 zz151 st151 hQ151 hSw151 hgw151 crw151
       subst lq151 yq151 zz151
       have ft156 := (Nat.le_trans (Nat.le_trans hkJ120 E149.1) kq150.1)
       obtain ⟨X151, hS151, hZ151, hown151⟩ := rebS hSJ120 ft156 Xw151 hSw151 hgw151 hZJ120 hownJ120
       obtain ⟨b151, tt151, kt151, n151, rfl, Nq151, zb151, kq151, eq151, cq151, fq151, vq151, ln151⟩ := hQ151
       have N151 := Fr.app N150 Nq151
       have ft157 := (Safe.keep kq150 (sfS sf_b149 sf0) CR149.1 sf_b149)
       have ft158 := (Nat.lt_of_lt_of_le lt_b149 kq150.1)
       have ft159 := (Nat.lt_of_lt_of_le (Nat.lt_of_lt_of_le lt_dr E149.1) kq150.1)
       have ne_dr_b151 : dr ≠ b151 := Nat.ne_of_lt (Nat.lt_of_lt_of_le ft159 zb151)
       have ft160 := (Nat.lt_of_lt_of_le (Nat.lt_of_lt_of_le lt_t1 E149.1) kq150.1)
       have ne_t1_b151 : t1 ≠ b151 := Nat.ne_of_lt (Nat.lt_of_lt_of_le ft160 zb151)
       have ne_b149_b151 : b149 ≠ b151 := Nat.ne_of_lt (Nat.lt_of_lt_of_le ft158 zb151)
       have ne_wO_b151 : wO ≠ b151 := Nat.ne_of_lt (Nat.lt_of_lt_of_le lt_wO (Nat.le_trans O150.2.1 zb151))
       have ne_wT_b151 : wT ≠ b151 := Nat.ne_of_lt (Nat.lt_of_lt_of_le lt_wT (Nat.le_trans O150.2.1 zb151))
       have g_b151 : n0 ≤ b151 := Nat.le_trans (O150.1 ▸ O150.2.1) zb151
       have O151 : Old Z n0 T151.heap := O150.keep kq151 all0
       have lt_b151 := eq151.lt
       have lt_tt151 := vq151.lt
       have hk151 : T151.heap.size ≤ T151.heap.size := Nat.le_refl _
       have sf161 := crw151.safe ft158 ft157
       have CR151 := CR150.trans crw151
       refine Go.tr (f' := (mkF m 167 #[iv p1, iv p2, iv p3, iv p4, iv yy104, iv yy105, iv yy106, iv yy107, rv b108, rv b109, rv b112, rv dr, rv dr, iv p1, rv b149, .unset, .unset, .unset, .unset, .unset, .unset, .unset, .unset, .unset, .unset, .unset] [(.ref b151)])) st151 ?_
       refine zrl 169 #[iv p1, iv p2, iv p3, iv p4, iv yy104, iv yy105, iv yy106, iv yy107, rv b108, rv b109, rv b112, rv dr, rv dr, iv p1, rv b149, rv b151, .unset, .unset, .unset, .unset, .unset, .unset, .unset, .unset, .unset, .unset] X151 hx (D at_167) rfl ?_
       refine zal 171 X151 hx (D at_169) rfl rfl ?_
       refine Go.st (f' := (mkF m 176 #[iv p1, iv p2, iv p3, iv p4, iv yy104, iv yy105, iv yy106, iv yy107, rv b108, rv b109, rv b112, rv dr, rv dr, iv p1, rv b149, rv b151, .unset, .unset, .unset, .unset, .unset, .unset, .unset, .unset, .unset, .unset] [])) (fun _ k => XS.ifnonnullYes X151.here hx rfl (pc0 := 171) (pc' := 176) rfl (D at_171) rfl (by decide) (by decide) k) ?_
       have ft162 := (ft152.keep kq151)
       have ft163 := (ft153.keep kq151 nin0)
       have ft164 := (ft154.keep kq151 nin0)
       have ft165 := (ft155.keep kq151 nin0)
       exact U1 _ T151.heap T151.vm _ _ yy104 yy105 yy106 yy107 b108 b109 b112 dr t1 k1 n1 es1 p1 b149 b151 tt151 kt151 n151 X151 rfl O151 N151 hS151 hk151 hZ151 hown151 CR151 l1 z1 hc0 hc1 ft162 ft163 ft164 ft165 eyy106.2 eyy107.2 ln151 eq151 cq151 fq151 vq151
  refine zil 60 X119 hx (D at_58) rfl ?_
  by_cases cd166 : yy105 = (0 : Int32)
  · refine zfn 63 X119 hx (D at_60) ((if0 _ _).trans (teq cd166).2) ?_
    obtain ⟨T167, h167, X167, e167, E167, A167, D167, -, st167⟩ := newO X119 hx hZ hown (ww hw 1 rfl) (ww hw 2 rfl) (ww hw 3 rfl) e119 (g := (mkF m 63 #[iv p1, iv p2, iv p3, iv p4, iv yy104, iv yy105, iv yy106, iv yy107, rv b108, rv b109, rv b112, .unset, .unset, .unset, .unset, .unset, .unset, .unset, .unset, .unset, .unset, .unset, .unset, .unset, .unset, .unset] [])) rfl (D at_63) (by decide) (by decide)
    obtain ⟨b167, g167⟩ : ∃ z, z = h119.size := ⟨_, rfl⟩
    rw [← g167] at A167 D167 st167
    have ft168 := (Nat.lt_of_lt_of_eq (Nat.lt_of_lt_of_eq (Nat.lt_of_lt_of_le ft113 E112.1) W116.size.symm) W119.size.symm)
    have ne_b108_b167 : b108 ≠ b167 := Nat.ne_of_lt (Nat.lt_of_lt_of_eq ft168 g167.symm)
    have ft169 := (Nat.lt_of_lt_of_eq (Nat.lt_of_lt_of_eq (Nat.lt_of_lt_of_le ft114 E112.1) W116.size.symm) W119.size.symm)
    have ne_b109_b167 : b109 ≠ b167 := Nat.ne_of_lt (Nat.lt_of_lt_of_eq ft169 g167.symm)
    have ft170 := (Nat.lt_of_lt_of_eq (Nat.lt_of_lt_of_eq lt_b112 W116.size.symm) W119.size.symm)
    have ne_b112_b167 : b112 ≠ b167 := Nat.ne_of_lt (Nat.lt_of_lt_of_eq ft170 g167.symm)
    have ne_wO_b167 : wO ≠ b167 := Nat.ne_of_lt (Nat.lt_of_lt_of_le lt_wO (Nat.le_trans O119.2.1 (Nat.le_of_eq g167.symm)))
    have ne_wT_b167 : wT ≠ b167 := Nat.ne_of_lt (Nat.lt_of_lt_of_le lt_wT (Nat.le_trans O119.2.1 (Nat.le_of_eq g167.symm)))
    have g_b167 : n0 ≤ b167 := Nat.le_trans (O119.1 ▸ O119.2.1) (Nat.le_of_eq g167.symm)
    have O167 : Old Z n0 h167 := O119.ext E167
    have CR167 : CHr Z EL s.vm h0 s.vm h167 := CR119.trans (CHr.ext E167 CR119.1)
    have sf_b167 : Safe Z EL s.vm h167 b167 := (Safe.new (Nat.le_of_eq g167.symm)).ext E167 CR119.1
    have lt_b167 := A167.lt
    have F_value_b167 : Fld Z h167 b167 "java/lang/String" "value" "[B" .null := D167 (Or.inr (ww hw 16 rfl)) (ty := (.array .byte)) (by decide)
    have F_coder_b167 : Fld Z h167 b167 "java/lang/String" "coder" "B" (.int (0 : Int32)) := D167 (Or.inr (ww hw 17 rfl)) (ty := .byte) (by decide)
    refine zst 66 #[iv p1, iv p2, iv p3, iv p4, iv yy104, iv yy105, iv yy106, iv yy107, rv b108, rv b109, rv b112, .unset, .unset, .unset, .unset, .unset, .unset, .unset, .unset, .unset, .unset, .unset, .unset, .unset, .unset, .unset] [(.ref b167)] st167 ?_
    refine Go.st (f' := (mkF m 67 #[iv p1, iv p2, iv p3, iv p4, iv yy104, iv yy105, iv yy106, iv yy107, rv b108, rv b109, rv b112, .unset, .unset, .unset, .unset, .unset, .unset, .unset, .unset, .unset, .unset, .unset, .unset, .unset, .unset, .unset] [(.ref b167), (.ref b167)])) (fun _ k => XS.dup X167.here hx rfl (D at_66) rfl rfl k) ?_
    refine zal 69 X167 hx (D at_67) rfl rfl ?_
    have ft172 := ((((((V_b108.ext E109).other W111 ne_b108_b109).ext E112).other W116 ne_b108_b112).other W119 ne_b108_b112).ext E167)
    obtain ⟨_, _, ⟨T171, L171, kk171, nn171⟩, -, Xw171, hSw171, hgw171, ⟨Lc171, hQ171, lq171, yq171, zz171, crw171⟩, st171⟩ := X167.specialBackS hx (y := mq4) rfl hown (mvT hZ (ww hw 4 rfl)) (mvT hZ (ww hw 5 rfl)) (mvT hZ (ww hw 6 rfl)) (by decide) (own_backW (W := 1) (s1_0 l Z a0 hw [] b167 b108 kc108 wO wT kO kT iC vF h167 n0 O167 g_b167 A167 F_coder_b167 F_value_b167 ft172 WW) hZ (ww hw 6 rfl) (ww hw 3 rfl) (by decide) (by decide) hEL CR167.1) (g := (mkF m 69 #[iv p1, iv p2, iv p3, iv p4, iv yy104, iv yy105, iv yy106, iv yy107, rv b108, rv b109, rv b112, .unset, .unset, .unset, .unset, .unset, .unset, .unset, .unset, .unset, .unset, .unset, .unset, .unset, .unset, .unset] [(.ref b108), (.ref b167), (.ref b167)])) rfl (by rw [hml]; rfl) (Steps.refl _) (a := b167) (argsL := [(.ref b108)]) (rest := [(.ref b167)]) (lenOf pd___C_V rfl) rfl (by show 2 * 0 + _ ≤ _; exact Nat.le_of_eq rfl) (D at_69) (fun _ _ => ⟨rfl, e167, (by decide : 4 + 4 ≤ _), (by decide : 7 + 8 ≤ _)⟩)
    dsimp only [Pt.U, Pt.locs, Pt.cells, Pt.slots] at Xw171 lq171 yq171 zz171 st171 hQ171 hSw171 hgw171 crw171
    subst lq171 yq171 zz171
    obtain ⟨X171, hS171, hZ171, hown171⟩ := rebS hS (by rw [e167]; exact (Nat.zero_le _)) Xw171 hSw171 hgw171 hZ hown
    obtain ⟨rfl, Nq171, kq171, eq171, cq171, tt171, kt171, fq171, vq171⟩ := hQ171
    have N171 := Fr.app N119 Nq171
    have ft173 := (Safe.ext E167 CR119.1 (Safe.wr W119 ft118 CR116.1 (Safe.wr W116 sf_b112 CR112.1 (Safe.ext E112 CR111.1 (Safe.wr W111 sf_b109 CR109.1 (Safe.ext E109 CR108.1 sf_b108))))))
    have ft174 := (Nat.lt_of_lt_of_le ft168 E167.1)
    have ft175 := (Safe.ext E167 CR119.1 (Safe.wr W119 ft118 CR116.1 (Safe.wr W116 sf_b112 CR112.1 (Safe.ext E112 CR111.1 (Safe.wr W111 sf_b109 CR109.1 sf_b109)))))
    have ft176 := (Nat.lt_of_lt_of_le ft169 E167.1)
    have ft177 := (Safe.ext E167 CR119.1 (Safe.wr W119 ft118 CR116.1 ft118))
    have ft178 := (Nat.lt_of_lt_of_le ft170 E167.1)
    have O171 : Old Z n0 T171.heap := O167.keep kq171 (allS g_b167 all0)
    have lt_tt171 := vq171.lt
    have ft179 := (ft172.keep kq171 (ninS ne_b108_b167 nin0))
    have nt_b108_tt171 : b108 ≠ tt171 := own_neArv ft179 vq171 (by decide)
    have ft180 := (((((V_b109_111.ext E112).other W116 ne_b109_b112).other W119 ne_b109_b112).ext E167).keep kq171 (ninS ne_b109_b167 nin0))
    have nt_b109_tt171 : b109 ≠ tt171 := own_neArv ft180 vq171 (by decide)
    have ft181 := ((V_b112_119.ext E167).keep kq171 (ninS ne_b112_b167 nin0))
    have nt_b112_tt171 : b112 ≠ tt171 := own_neArv ft181 vq171 (by decide)
    have nt_b167_tt171 : b167 ≠ tt171 := Exa.neArv eq171 vq171 (ww hw 2 rfl)
    have hk171 : T171.heap.size ≤ T171.heap.size := Nat.le_refl _
    have sf182 := crw171.safe ft174 ft173
    have sf183 := crw171.safe ft176 ft175
    have sf184 := crw171.safe ft178 ft177
    have sf185 := crw171.safe lt_b167 sf_b167
    have CR171 := CR167.trans crw171
    refine Go.tr (f' := (mkF m 72 #[iv p1, iv p2, iv p3, iv p4, iv yy104, iv yy105, iv yy106, iv yy107, rv b108, rv b109, rv b112, .unset, .unset, .unset, .unset, .unset, .unset, .unset, .unset, .unset, .unset, .unset, .unset, .unset, .unset, .unset] [(.ref b167)])) st171 ?_
    refine zgo 102 X171 hx (D at_72) ?_
    exact DR _ T171.heap T171.vm _ _ b167 tt171 kt171 (0 : Int32) [] X171 rfl O171 N171 hS171 hk171 hZ171 hown171 CR171 ⟨by decide, by show _ = ((0 : Nat) : Int); decide⟩ (Nat.le_of_ble_eq_true rfl) (fun h => absurd h (Nat.not_le.mpr (Nat.le_of_ble_eq_true rfl))) (fun h => absurd h (Nat.not_le.mpr (Nat.le_of_ble_eq_true rfl))) eq171 cq171 fq171 vq171
  · refine zfy 75 X119 hx (D at_60) ((if0 _ _).trans (feq cd166).2) ?_
    refine zil 77 X119 hx (D at_75) rfl ?_
    refine zic 78 1 X119 hx (D at_77) ?_
    by_cases cd186 : yy105 = (1 : Int32)
    · refine zcn 81 X119 hx (D at_78) (teq cd186).2 ?_
      obtain ⟨T187, h187, X187, e187, E187, A187, D187, -, st187⟩ := newO X119 hx hZ hown (ww hw 1 rfl) (ww hw 2 rfl) (ww hw 3 rfl) e119 (g := (mkF m 81 #[iv p1, iv p2, iv p3, iv p4, iv yy104, iv yy105, iv yy106, iv yy107, rv b108, rv b109, rv b112, .unset, .unset, .unset, .unset, .unset, .unset, .unset, .unset, .unset, .unset, .unset, .unset, .unset, .unset, .unset] [])) rfl (D at_81) (by decide) (by decide)
      obtain ⟨b187, g187⟩ : ∃ z, z = h119.size := ⟨_, rfl⟩
      rw [← g187] at A187 D187 st187
      have ft188 := (Nat.lt_of_lt_of_eq (Nat.lt_of_lt_of_eq (Nat.lt_of_lt_of_le ft113 E112.1) W116.size.symm) W119.size.symm)
      have ne_b108_b187 : b108 ≠ b187 := Nat.ne_of_lt (Nat.lt_of_lt_of_eq ft188 g187.symm)
      have ft189 := (Nat.lt_of_lt_of_eq (Nat.lt_of_lt_of_eq (Nat.lt_of_lt_of_le ft114 E112.1) W116.size.symm) W119.size.symm)
      have ne_b109_b187 : b109 ≠ b187 := Nat.ne_of_lt (Nat.lt_of_lt_of_eq ft189 g187.symm)
      have ft190 := (Nat.lt_of_lt_of_eq (Nat.lt_of_lt_of_eq lt_b112 W116.size.symm) W119.size.symm)
      have ne_b112_b187 : b112 ≠ b187 := Nat.ne_of_lt (Nat.lt_of_lt_of_eq ft190 g187.symm)
      have ne_wO_b187 : wO ≠ b187 := Nat.ne_of_lt (Nat.lt_of_lt_of_le lt_wO (Nat.le_trans O119.2.1 (Nat.le_of_eq g187.symm)))
      have ne_wT_b187 : wT ≠ b187 := Nat.ne_of_lt (Nat.lt_of_lt_of_le lt_wT (Nat.le_trans O119.2.1 (Nat.le_of_eq g187.symm)))
      have g_b187 : n0 ≤ b187 := Nat.le_trans (O119.1 ▸ O119.2.1) (Nat.le_of_eq g187.symm)
      have O187 : Old Z n0 h187 := O119.ext E187
      have CR187 : CHr Z EL s.vm h0 s.vm h187 := CR119.trans (CHr.ext E187 CR119.1)
      have sf_b187 : Safe Z EL s.vm h187 b187 := (Safe.new (Nat.le_of_eq g187.symm)).ext E187 CR119.1
      have lt_b187 := A187.lt
      have F_value_b187 : Fld Z h187 b187 "java/lang/String" "value" "[B" .null := D187 (Or.inr (ww hw 16 rfl)) (ty := (.array .byte)) (by decide)
      have F_coder_b187 : Fld Z h187 b187 "java/lang/String" "coder" "B" (.int (0 : Int32)) := D187 (Or.inr (ww hw 17 rfl)) (ty := .byte) (by decide)
      refine zst 84 #[iv p1, iv p2, iv p3, iv p4, iv yy104, iv yy105, iv yy106, iv yy107, rv b108, rv b109, rv b112, .unset, .unset, .unset, .unset, .unset, .unset, .unset, .unset, .unset, .unset, .unset, .unset, .unset, .unset, .unset] [(.ref b187)] st187 ?_
      refine Go.st (f' := (mkF m 85 #[iv p1, iv p2, iv p3, iv p4, iv yy104, iv yy105, iv yy106, iv yy107, rv b108, rv b109, rv b112, .unset, .unset, .unset, .unset, .unset, .unset, .unset, .unset, .unset, .unset, .unset, .unset, .unset, .unset, .unset] [(.ref b187), (.ref b187)])) (fun _ k => XS.dup X187.here hx rfl (D at_84) rfl rfl k) ?_
      refine zal 87 X187 hx (D at_85) rfl rfl ?_
      have ft192 := ((((V_b109_111.ext E112).other W116 ne_b109_b112).other W119 ne_b109_b112).ext E187)
      obtain ⟨_, _, ⟨T191, L191, kk191, nn191⟩, -, X191, ⟨Lc191, hQ191, lq191, yq191, zz191⟩, st191⟩ := X187.specialBack hx (y := mq4) rfl hown (mvT hZ (ww hw 4 rfl)) (mvT hZ (ww hw 5 rfl)) (mvT hZ (ww hw 6 rfl)) (by decide) (own_back (W := 1) (st1_1 l Z a0 hw [] b187 b109 kc109 (nar .char yy106) wO wT kO kT iC vF h187 n0 O187 eyy106.1 g_b187 (Ne.symm ne_b109_b187) A187 F_coder_b187 F_value_b187 ft192 WW) hZ (ww hw 6 rfl) (ww hw 3 rfl) (by decide) (by decide)) (g := (mkF m 87 #[iv p1, iv p2, iv p3, iv p4, iv yy104, iv yy105, iv yy106, iv yy107, rv b108, rv b109, rv b112, .unset, .unset, .unset, .unset, .unset, .unset, .unset, .unset, .unset, .unset, .unset, .unset, .unset, .unset, .unset] [(.ref b109), (.ref b187), (.ref b187)])) rfl (by rw [hml]; rfl) (Steps.refl _) (a := b187) (argsL := [(.ref b109)]) (rest := [(.ref b187)]) (lenOf pd___C_V rfl) rfl (by show 2 * 0 + _ ≤ _; exact Nat.le_of_eq rfl) (D at_87) (fun _ _ => ⟨rfl, e187, (by decide : 4 + 1 ≤ _), (by decide : 7 + 1 ≤ _)⟩)
      dsimp only [Pt.U, Pt.locs, Pt.cells, Pt.slots] at X191 lq191 yq191 zz191 st191 hQ191
      subst lq191 yq191 zz191
      obtain ⟨rfl, Nq191, kq191, eq191, cq191, tt191, kt191, zq191, fq191, vq191⟩ := hQ191
      have N191 := Fr.app N119 Nq191
      have ft193 := (Nat.lt_of_lt_of_le ft188 E187.1)
      have ne_b108_tt191 : b108 ≠ tt191 := Nat.ne_of_lt (Nat.lt_of_lt_of_le ft193 zq191)
      have ft194 := (Nat.lt_of_lt_of_le ft189 E187.1)
      have ne_b109_tt191 : b109 ≠ tt191 := Nat.ne_of_lt (Nat.lt_of_lt_of_le ft194 zq191)
      have ft195 := (Nat.lt_of_lt_of_le ft190 E187.1)
      have ne_b112_tt191 : b112 ≠ tt191 := Nat.ne_of_lt (Nat.lt_of_lt_of_le ft195 zq191)
      have ne_b187_tt191 : b187 ≠ tt191 := Nat.ne_of_lt (Nat.lt_of_lt_of_le lt_b187 zq191)
      have ne_wO_tt191 : wO ≠ tt191 := Nat.ne_of_lt (Nat.lt_of_lt_of_le lt_wO (Nat.le_trans O187.2.1 zq191))
      have ne_wT_tt191 : wT ≠ tt191 := Nat.ne_of_lt (Nat.lt_of_lt_of_le lt_wT (Nat.le_trans O187.2.1 zq191))
      have g_tt191 : n0 ≤ tt191 := Nat.le_trans (O187.1 ▸ O187.2.1) zq191
      have sn_tt191 : Safe Z EL s.vm h187 tt191 := Safe.new zq191
      have O191 : Old Z n0 T191.heap := O187.keep kq191 (allS g_b187 all0)
      have CR191 : CHr Z EL s.vm h0 s.vm T191.heap := CR187.trans (CHr.keep kq191 (sfS sf_b187 sf0) CR187.1)
      have lt_tt191 := vq191.lt
      refine Go.tr (f' := (mkF m 90 #[iv p1, iv p2, iv p3, iv p4, iv yy104, iv yy105, iv yy106, iv yy107, rv b108, rv b109, rv b112, .unset, .unset, .unset, .unset, .unset, .unset, .unset, .unset, .unset, .unset, .unset, .unset, .unset, .unset, .unset] [(.ref b187)])) st191 ?_
      refine zgo 102 X191 hx (D at_90) ?_
      exact DR _ T191.heap s.vm _ _ b187 tt191 kt191 (1 : Int32) [(.int (nar .byte ((nar .char yy106).toInt8.toInt32)))] (X191.more (by decide) (by decide)) rfl O191 N191 hS (Nat.zero_le _) hZ hown CR191 ⟨by decide, by show _ = ((1 : Nat) : Int); decide⟩ (Nat.le_of_ble_eq_true rfl) (fun _ => rfl) (fun h => absurd h (Nat.not_le.mpr (Nat.le_of_ble_eq_true rfl))) eq191 cq191 fq191 vq191
    · refine zcy 93 X119 hx (D at_78) (feq cd186).2 ?_
      obtain ⟨T196, h196, X196, e196, E196, A196, D196, -, st196⟩ := newO X119 hx hZ hown (ww hw 1 rfl) (ww hw 2 rfl) (ww hw 3 rfl) e119 (g := (mkF m 93 #[iv p1, iv p2, iv p3, iv p4, iv yy104, iv yy105, iv yy106, iv yy107, rv b108, rv b109, rv b112, .unset, .unset, .unset, .unset, .unset, .unset, .unset, .unset, .unset, .unset, .unset, .unset, .unset, .unset, .unset] [])) rfl (D at_93) (by decide) (by decide)
      obtain ⟨b196, g196⟩ : ∃ z, z = h119.size := ⟨_, rfl⟩
      rw [← g196] at A196 D196 st196
      have ft197 := (Nat.lt_of_lt_of_eq (Nat.lt_of_lt_of_eq (Nat.lt_of_lt_of_le ft113 E112.1) W116.size.symm) W119.size.symm)
      have ne_b108_b196 : b108 ≠ b196 := Nat.ne_of_lt (Nat.lt_of_lt_of_eq ft197 g196.symm)
      have ft198 := (Nat.lt_of_lt_of_eq (Nat.lt_of_lt_of_eq (Nat.lt_of_lt_of_le ft114 E112.1) W116.size.symm) W119.size.symm)
      have ne_b109_b196 : b109 ≠ b196 := Nat.ne_of_lt (Nat.lt_of_lt_of_eq ft198 g196.symm)
      have ft199 := (Nat.lt_of_lt_of_eq (Nat.lt_of_lt_of_eq lt_b112 W116.size.symm) W119.size.symm)
      have ne_b112_b196 : b112 ≠ b196 := Nat.ne_of_lt (Nat.lt_of_lt_of_eq ft199 g196.symm)
      have ne_wO_b196 : wO ≠ b196 := Nat.ne_of_lt (Nat.lt_of_lt_of_le lt_wO (Nat.le_trans O119.2.1 (Nat.le_of_eq g196.symm)))
      have ne_wT_b196 : wT ≠ b196 := Nat.ne_of_lt (Nat.lt_of_lt_of_le lt_wT (Nat.le_trans O119.2.1 (Nat.le_of_eq g196.symm)))
      have g_b196 : n0 ≤ b196 := Nat.le_trans (O119.1 ▸ O119.2.1) (Nat.le_of_eq g196.symm)
      have O196 : Old Z n0 h196 := O119.ext E196
      have CR196 : CHr Z EL s.vm h0 s.vm h196 := CR119.trans (CHr.ext E196 CR119.1)
      have sf_b196 : Safe Z EL s.vm h196 b196 := (Safe.new (Nat.le_of_eq g196.symm)).ext E196 CR119.1
      have lt_b196 := A196.lt
      have F_value_b196 : Fld Z h196 b196 "java/lang/String" "value" "[B" .null := D196 (Or.inr (ww hw 16 rfl)) (ty := (.array .byte)) (by decide)
      have F_coder_b196 : Fld Z h196 b196 "java/lang/String" "coder" "B" (.int (0 : Int32)) := D196 (Or.inr (ww hw 17 rfl)) (ty := .byte) (by decide)
      refine zst 96 #[iv p1, iv p2, iv p3, iv p4, iv yy104, iv yy105, iv yy106, iv yy107, rv b108, rv b109, rv b112, .unset, .unset, .unset, .unset, .unset, .unset, .unset, .unset, .unset, .unset, .unset, .unset, .unset, .unset, .unset] [(.ref b196)] st196 ?_
      refine Go.st (f' := (mkF m 97 #[iv p1, iv p2, iv p3, iv p4, iv yy104, iv yy105, iv yy106, iv yy107, rv b108, rv b109, rv b112, .unset, .unset, .unset, .unset, .unset, .unset, .unset, .unset, .unset, .unset, .unset, .unset, .unset, .unset, .unset] [(.ref b196), (.ref b196)])) (fun _ k => XS.dup X196.here hx rfl (D at_96) rfl rfl k) ?_
      refine zal 99 X196 hx (D at_97) rfl rfl ?_
      have ft201 := (V_b112_119.ext E196)
      obtain ⟨_, _, ⟨T200, L200, kk200, nn200⟩, -, X200, ⟨Lc200, hQ200, lq200, yq200, zz200⟩, st200⟩ := X196.specialBack hx (y := mq4) rfl hown (mvT hZ (ww hw 4 rfl)) (mvT hZ (ww hw 5 rfl)) (mvT hZ (ww hw 6 rfl)) (by decide) (own_back (W := 1) (st1_2 l Z a0 hw [] b196 b112 kc112 (nar .char yy106) (nar .char yy107) wO wT kO kT iC vF h196 n0 O196 eyy106.1 eyy107.1 g_b196 (Ne.symm ne_b112_b196) A196 F_coder_b196 F_value_b196 ft201 WW) hZ (ww hw 6 rfl) (ww hw 3 rfl) (by decide) (by decide)) (g := (mkF m 99 #[iv p1, iv p2, iv p3, iv p4, iv yy104, iv yy105, iv yy106, iv yy107, rv b108, rv b109, rv b112, .unset, .unset, .unset, .unset, .unset, .unset, .unset, .unset, .unset, .unset, .unset, .unset, .unset, .unset, .unset] [(.ref b112), (.ref b196), (.ref b196)])) rfl (by rw [hml]; rfl) (Steps.refl _) (a := b196) (argsL := [(.ref b112)]) (rest := [(.ref b196)]) (lenOf pd___C_V rfl) rfl (by show 2 * 0 + _ ≤ _; exact Nat.le_of_eq rfl) (D at_99) (fun _ _ => ⟨rfl, e196, (by decide : 4 + 1 ≤ _), (by decide : 7 + 2 ≤ _)⟩)
      dsimp only [Pt.U, Pt.locs, Pt.cells, Pt.slots] at X200 lq200 yq200 zz200 st200 hQ200
      subst lq200 yq200 zz200
      obtain ⟨rfl, Nq200, kq200, eq200, cq200, tt200, kt200, zq200, fq200, vq200⟩ := hQ200
      have N200 := Fr.app N119 Nq200
      have ft202 := (Nat.lt_of_lt_of_le ft197 E196.1)
      have ne_b108_tt200 : b108 ≠ tt200 := Nat.ne_of_lt (Nat.lt_of_lt_of_le ft202 zq200)
      have ft203 := (Nat.lt_of_lt_of_le ft198 E196.1)
      have ne_b109_tt200 : b109 ≠ tt200 := Nat.ne_of_lt (Nat.lt_of_lt_of_le ft203 zq200)
      have ft204 := (Nat.lt_of_lt_of_le ft199 E196.1)
      have ne_b112_tt200 : b112 ≠ tt200 := Nat.ne_of_lt (Nat.lt_of_lt_of_le ft204 zq200)
      have ne_b196_tt200 : b196 ≠ tt200 := Nat.ne_of_lt (Nat.lt_of_lt_of_le lt_b196 zq200)
      have ne_wO_tt200 : wO ≠ tt200 := Nat.ne_of_lt (Nat.lt_of_lt_of_le lt_wO (Nat.le_trans O196.2.1 zq200))
      have ne_wT_tt200 : wT ≠ tt200 := Nat.ne_of_lt (Nat.lt_of_lt_of_le lt_wT (Nat.le_trans O196.2.1 zq200))
      have g_tt200 : n0 ≤ tt200 := Nat.le_trans (O196.1 ▸ O196.2.1) zq200
      have sn_tt200 : Safe Z EL s.vm h196 tt200 := Safe.new zq200
      have O200 : Old Z n0 T200.heap := O196.keep kq200 (allS g_b196 all0)
      have CR200 : CHr Z EL s.vm h0 s.vm T200.heap := CR196.trans (CHr.keep kq200 (sfS sf_b196 sf0) CR196.1)
      have lt_tt200 := vq200.lt
      refine Go.tr (f' := (mkF m 102 #[iv p1, iv p2, iv p3, iv p4, iv yy104, iv yy105, iv yy106, iv yy107, rv b108, rv b109, rv b112, .unset, .unset, .unset, .unset, .unset, .unset, .unset, .unset, .unset, .unset, .unset, .unset, .unset, .unset, .unset] [(.ref b196)])) st200 ?_
      exact DR _ T200.heap s.vm _ _ b196 tt200 kt200 (2 : Int32) [(.int (nar .byte ((nar .char yy106).toInt8.toInt32))), (.int (nar .byte ((nar .char yy107).toInt8.toInt32)))] (X200.more (by decide) (by decide)) rfl O200 N200 hS (Nat.zero_le _) hZ hown CR200 ⟨by decide, by show _ = ((2 : Nat) : Int); decide⟩ (Nat.le_of_ble_eq_true rfl) (fun _ => rfl) (fun _ => rfl) eq200 cq200 fq200 vq200
theorem own_el {args : Array Value} {first s : State} {o : Option Outcome} {idx : List Nat} {t i : Term} {a : Addr} {j : Int32} {cell : Cell} (h1 : t.eval args first o idx s = some (.ref a)) (h2 : i.eval args first o idx s = some (.int j)) (h3 : ¬ j < 0) (h4 : s.arrayAt? a = some cell) : (Term.elem t i).eval args first o idx s = cell.slots[j.toNatClampNeg]? := by
  simp only [Term.eval, h1, h2, Option.bind_eq_bind, Option.bind_some, h4]
  rw [if_neg h3]
theorem own_eq_i {args : Array Value} {first s : State} {o : Option Outcome} {idx : List Nat} {t u : Term} {k : Int32} (h : (Jvm.Cond.eq t u).value args first o s idx = some true) (hu : u.eval args first o idx s = some (.int k)) : t.eval args first o idx s = some (.int k) := by
  simp only [Cond.value] at h
  rw [hu] at h
  cases ht : t.eval args first o idx s with
  | none => simp [ht] at h
  | some x => cases x <;> simp [ht] at h ⊢ <;> exact h
theorem own_tab {s : State} {args a0 : Array Value} {C n d : String} {a : Addr} {f : Nat → Int32} {u : Term} (hf : Fit s) (ev : (Term.static C n d).eval args s none [] s = some (.ref a)) (E : Exa s s.heap a "[B") (wa : (Cond.arrayClass .byte).before a0 s = true)
    (hl : (Term.length (.static C n d)).eval args s none [] s = some (.int 100)) (ha : (Jvm.Cond.all (.static C n d) (.eq (.elem (.static C n d) (.index 0)) u)).value args s none s [] = some true) (hu : ∀ i, i < 100 → u.eval args s none [i] s = some (.int (f i))) :
    ∃ k, Arv s s.heap a k .byte (100 : Int32) ((List.range 100).map (fun r => .int (f r))) (.int (0 : Int32)) := by
  obtain ⟨a', cell, e1, e2, e3⟩ := Term.length_spec hl
  cases ev.symm.trans e1
  have e4 := State.arrayAt?_spec e2
  have hc := e4.1
  obtain ⟨q1, q2⟩ := own_len hl ev hc
  have hs : cell.slots.size = 100 := by
    have t := congrArg Int32.toInt q2
    rw [len_toInt q1] at t
    have e : (100 : Int32).toInt = 100 := by decide
    omega
  obtain ⟨cB, kB, comp, f1, f2, f3⟩ := Cond.arrayClass_spec wa
  obtain ⟨cell', k', g1, g2, g3, g4, -⟩ := E
  cases hc.symm.trans g1
  cases (show s.vm.findClass "[B" = some cB from f1).symm.trans g2
  have hu' : cell.vm ≠ .unknown := fun q => by
    unfold State.arrayAt? at e2; simp [hc, g3, q] at e2
  have A : Arr s s.heap a cell .byte := ⟨hc, ⟨fun k q => by rw [q] at g4; exact absurd g4 (by simp [VmData.isStatics]), kB, f2, comp, f3⟩, hu'⟩
  have al := Cond.all_elim (t := .static C n d) (idx := []) ev e2 ha
  have S : cell.slots.size = (100 : Int32).toNatClampNeg := hs
  have H : Has cell ((List.range 100).map (fun r => Value.int (f r))) (.int (0 : Int32)) := fun j hj => by
    have hj' : j < 100 := by omega
    have q := own_eq_i (al j hj) (hu j hj')
    have ev' : (Term.static C n d).eval args s none [j] s = some (.ref a) := ev
    have jt : (Nat.toInt32 j).toInt = (j : Int) := len_toInt (Nat.lt_trans hj q1)
    have jn : (Nat.toInt32 j).toNatClampNeg = j := by simp only [Int32.toNatClampNeg, jt]; rfl
    have jl : ¬ (Nat.toInt32 j) < 0 := by
      have e0 : (0 : Int32).toInt = 0 := by decide
      rw [Int32.lt_iff_toInt_lt]; omega
    have q' : (Term.elem (.static C n d) (.index 0)).eval args s none [j] s = cell.slots[j]? := by
      rw [own_el (j := Nat.toInt32 j) ev' rfl jl e2, jn]
    rw [q'] at q
    rw [q]; simp [List.getD, hj']
  refine ⟨cell.cls, cell, A, rfl, S, by decide, H, fun j hj => ?_⟩
  have e1 : (Nat.toInt32 j).toNatClampNeg = j := by simp only [Int32.toNatClampNeg, len_toInt (Nat.lt_trans hj q1)]; rfl
  exact elem_fits (j := Nat.toInt32 j) hf A (idx_in hj q1) (by rw [e1]; exact H j hj)
theorem own_tu : (∀ i : Fin 100, (48 : Int32) + (Nat.toInt32 i.val) % 10 = Int32.ofNat (48 + i.val % 10)) ∧ (∀ i : Fin 100, (48 : Int32) + (Nat.toInt32 i.val) / 10 = Int32.ofNat (48 + i.val / 10)) := by decide +kernel
theorem own_tabR {s : State} {args a0 : Array Value} {C n d : String} {a : Addr} (hf : Fit s) (ev : (Term.static C n d).eval args s none [] s = some (.ref a)) (E : Exa s s.heap a "[B") (wa : (Cond.arrayClass .byte).before a0 s = true)
    (hl : (Term.length (.static C n d)).eval args s none [] s = some (.int 100)) (ha : (Jvm.Cond.all (.static C n d) (.eq (.elem (.static C n d) (.index 0)) (.add (.int 48) (.rem (.index 0) (.int 10))))).value args s none s [] = some true) : ∃ k, Arv s s.heap a k .byte (100 : Int32) onesL (.int (0 : Int32)) :=
  own_tab (f := fun r => Int32.ofNat (48 + r % 10)) hf ev E wa hl ha (fun i hi => by
    have q := own_tu.1 ⟨i, hi⟩
    simp only [Term.eval, List.getElem?_cons_zero, Option.map_some, Option.bind_eq_bind, Option.bind_some, Option.pure_def]
    rw [if_neg (by decide)]; simp only [Option.bind_some]; rw [q])
theorem own_tabD {s : State} {args a0 : Array Value} {C n d : String} {a : Addr} (hf : Fit s) (ev : (Term.static C n d).eval args s none [] s = some (.ref a)) (E : Exa s s.heap a "[B") (wa : (Cond.arrayClass .byte).before a0 s = true)
    (hl : (Term.length (.static C n d)).eval args s none [] s = some (.int 100)) (ha : (Jvm.Cond.all (.static C n d) (.eq (.elem (.static C n d) (.index 0)) (.add (.int 48) (.div (.index 0) (.int 10))))).value args s none s [] = some true) : ∃ k, Arv s s.heap a k .byte (100 : Int32) tensL (.int (0 : Int32)) :=
  own_tab (f := fun r => Int32.ofNat (48 + r / 10)) hf ev E wa hl ha (fun i hi => by
    have q := own_tu.2 ⟨i, hi⟩
    simp only [Term.eval, List.getElem?_cons_zero, Option.map_some, Option.bind_eq_bind, Option.bind_some, Option.pure_def]
    rw [if_neg (by decide)]; simp only [Option.bind_some]; rw [q])

set_option maxRecDepth 65536 in
set_option maxHeartbeats 40000000 in
theorem comes_1 {Post : Tables → Env → Array Value → State → Outcome → State → Prop} (hpost : ∀ tb e args s v u, (limb_1_1.after args s (.returned v) u = true ∧ limb_1_2.after args s (.returned v) u = true ∧ True) → ReturnedEndW s (.returned v) u (Jvm.fieldLocs frame_1_writes args s ++ Jvm.arrayLocs frame_1_arrays args s ++ Jvm.staticLocs frame_1_statics s) 40 4544 → Post tb e args s (.returned v) u) :
    ArmFor flags0 classFile x code maxLocals ret World_1 tables_1 room_1 Calls_1 rest_1 Pre_1 Post := by
  intro l hfl _ _ p e ha hc hk s m args below hf hA hF happ hP
  obtain ⟨hcalls, hrest, hpre⟩ := hP
  obtain ⟨-, -, -, hnamed, -, -, -, hat⟩ := (Spec.applies_iff hf).mp happ
  obtain ⟨hg, hn⟩ := and_e (Cond.before_iff.mp (show (Jvm.Cond.and given_1 narrow_1).before args s = true from hpre))
  obtain ⟨g1, g2⟩ := and_e hg
  obtain ⟨g3, g4⟩ := and_e g2
  obtain ⟨g5, g6⟩ := and_e g4
  obtain ⟨g7, g8⟩ := and_e g6
  obtain ⟨v0, v1, v2, v3, rfl⟩ : ∃ v0 v1 v2 v3 : Value, args = #[v0, v1, v2, v3] := by
    have hs : args.size = 4 := by simpa [Cond.value, given_1] using g1
    obtain ⟨L⟩ := args
    match L, hs with
    | [v0, v1, v2, v3], _ => exact ⟨v0, v1, v2, v3, rfl⟩
  have hw := fun d (hd : d ∈ tables_1) => atoms_spec (ws := Jvm.Cond.code x code maxLocals ret :: tables_1) hat d (List.mem_cons_of_mem _ hd)
  have hfit : Fit s := fun {y c} hc i hi => by
    obtain ⟨ha, rfl⟩ := Array.getElem?_eq_some_iff.mp hc
    have q := List.all_eq_true.mp ((Array.all_eq_true_iff_forall_mem.mp hF) _ (Array.getElem_mem ha)) i (List.mem_range.mpr hi)
    simpa [Array.getElem?_eq_getElem hi] using q
  obtain ⟨hsets, hown0⟩ := atoms_of _ (rest_1_c_eq ▸ (show rest_1_c.before _ s = true from hrest))
  have hr0 := Cond.before_iff.mp hown0
  obtain ⟨i0, ei0⟩ := is_v g3
  obtain rfl : v0 = (.int i0) := Option.some.inj ei0
  obtain ⟨i1, ei1⟩ := is_v g5
  obtain rfl : v1 = (.int i1) := Option.some.inj ei1
  obtain ⟨i2, ei2⟩ := is_v g7
  obtain rfl : v2 = (.int i2) := Option.some.inj ei2
  obtain ⟨i3, ei3⟩ := is_v g8
  obtain rfl : v3 = (.int i3) := Option.some.inj ei3
  obtain ⟨wO, ev_wO⟩ := exa_v (Cond.before_iff.mp (hsets _ (List.mem_of_getElem? (i := 12) rfl)))
  obtain ⟨wT, ev_wT⟩ := exa_v (Cond.before_iff.mp (hsets _ (List.mem_of_getElem? (i := 17) rfl)))
  have S_wO := Sta.start ev_wO (Or.inl (hsets _ (List.mem_of_getElem? (i := 11) rfl)))
  have E_wO := Exa.start ev_wO (Cond.before_iff.mp (hsets _ (List.mem_of_getElem? (i := 12) rfl)))
  have S_wT := Sta.start ev_wT (Or.inl (hsets _ (List.mem_of_getElem? (i := 16) rfl)))
  have E_wT := Exa.start ev_wT (Cond.before_iff.mp (hsets _ (List.mem_of_getElem? (i := 17) rfl)))
  obtain ⟨iC, ev_iC⟩ := is_v (Cond.before_iff.mp (hsets _ (List.mem_of_getElem? (i := 1) rfl)))
  have S_iC := Sta.start ev_iC (Or.inl (hsets _ (List.mem_of_getElem? (i := 0) rfl)))
  have nz_iC : ¬ iC = (0 : Int32) := own_ne_int (Cond.before_iff.mp (hsets _ (List.mem_of_getElem? (i := 2) rfl))) ev_iC
  obtain ⟨vF, ev_vF, r_vF⟩ := isR_v (Cond.before_iff.mp (hsets _ (List.mem_of_getElem? (i := 8) rfl)))
  have S_vF := Sta.start ev_vF (Or.inl (hsets _ (List.mem_of_getElem? (i := 7) rfl)))
  obtain ⟨kO, V_wO⟩ := own_tabR hfit ev_wO E_wO (hw _ (List.mem_of_getElem? (i := 15) rfl)) (own_eq_int (Cond.before_iff.mp (hsets _ (List.mem_of_getElem? (i := 13) rfl)))) (Cond.before_iff.mp (hsets _ (List.mem_of_getElem? (i := 14) rfl)))
  obtain ⟨kT, V_wT⟩ := own_tabD hfit ev_wT E_wT (hw _ (List.mem_of_getElem? (i := 15) rfl)) (own_eq_int (Cond.before_iff.mp (hsets _ (List.mem_of_getElem? (i := 18) rfl)))) (Cond.before_iff.mp (hsets _ (List.mem_of_getElem? (i := 19) rfl)))
  have WW : World1 s  wO wT kO kT iC vF  := ⟨S_iC, nz_iC, S_vF, r_vF, S_wO, E_wO, S_wT, E_wT, V_wO, V_wT⟩
  have hCH : CHv s EL s.vm s.heap := CHv.start (own_EL hw) (fun p hp => hcalls.1 p hp) (hsets _ (List.mem_of_getElem? (i := 2) rfl)) (own_wS hw _ (by simp [Bundle.stringAtoms])) (own_wS hw _ (by simp [Bundle.stringAtoms, Bundle.sN]))
  obtain ⟨n, o, h1, h2, h3, _, L, rfl, ⟨rfl, N⟩, -, hq⟩ := rm0 l s _ hw tables_1 i0 i1 i2 i3  wO wT kO kT iC vF  s.heap s.heap.size (Old.start s) WW  p e ha hc hk s m _ below hf ((Spec.applies_iff_loose hf).mp happ).1 ⟨rfl, State.Warmed39.refl s, rfl, hCH⟩ trivial
  refine ⟨n, _, h1, h2, h3, hpost _ _ _ _ _ _ ⟨Cond.after_iff.mpr rfl, Cond.after_iff.mpr (eq_i res_at (Term.int_eval (1)) rfl), trivial⟩ ⟨hq.1, hq.2.1, hq.2.2.1, (hq.2.2.2.sift fun y hy => Or.inr (N y hy)).mono (by decide) (by decide)⟩⟩
theorem main_1_1 : Claimed_1_1 := comes_1 fun _ _ _ _ _ _ h hF => ⟨h.1, hF⟩
theorem main_1_2 : Claimed_1_2 := comes_1 fun _ _ _ _ _ _ h hF => ⟨h.2.1, hF⟩
end Jvm.Pilot.@@N@@
namespace Jvm.Pilot.@@N@@
open Jvm Jvm.ClassFile Sem Op Lib Jvm.Free Jvm.Stand Jvm.Pilot.@@N@@.Jvm.D
/-! MADE BY PROGRAM (witnessworld.py) out of the Statement's table words and the real class files: 28 classes; the members and pool entries that the words name. The judged class is class 1, her method 5. -/
namespace start1
open Jvm.ClassFile
def u (s : String) : CpInfo := .utf8 (stringToUtf16 s)
/-- a pool by its gaps: so many unusable entries, then the entry; so many at the end -/
def gap : Nat → List CpInfo → List CpInfo
  | 0, r => r
  | n + 1, r => .unusable :: gap n r
def poolList (es : List (Nat × CpInfo)) (last : Nat) : List CpInfo := es.foldr (fun e r => gap e.1 (e.2 :: r)) (gap last [])
def pool (es : List (Nat × CpInfo)) (last : Nat) : Array CpInfo := ⟨poolList es last⟩
def fileOf (pool : Array CpInfo) (this : Nat) (attrs : Array Attribute := #[]) (ms : Array MethodInfo := #[]) (fl : Nat := 33) (sup : Nat := 0) (ifs : Array Nat := #[]) (fds : Array FieldInfo := #[]) : ClassFile where
  minorVersion := 0
  majorVersion := 65
  constantPool := pool
  accessFlags := fl
  thisClass := this
  superClass := sup
  interfaces := ifs
  fields := fds
  methods := ms
  attributes := attrs
def plain (name : String) (sup : Option ClassId) : Class where
  name := name
  kind := .ordinary
  loader := none
  accessFlags := 33
  super := sup
  interfaces := #[]
  cf := none
  fields := #[]
  methods := #[]
  instanceTypes := #[]
  staticTypes := #[]
  resolved := #[]
  callSites := []
  init := .initialized
  statics := none
  mirror := none

def pool0 : Array CpInfo := pool [(5, u "<init>"), (0, u "()V"), (1, .class_ 10), (1, u "java/lang/Object"), (85, u "clone"), (0, u "()Ljava/lang/Object;")] 26

def k0c0 : Code := { maxStack := 0, maxLocals := 1, code := object_method_1_code, exceptionTable := #[], attributes := #[] }
def k0m0 : Method := { name := "<init>", desc := "()V", sig := { parameters := [], returnType := none }, accessFlags := 1, code := some k0c0 }
def k0m1 : Method := { name := "clone", desc := "()Ljava/lang/Object;", sig := { parameters := [], returnType := some (.object "java/lang/Object") }, accessFlags := 260, code := none }
/-- java/lang/Object -/
def k0 : Class := { plain "java/lang/Object" none with
  accessFlags := 33
  interfaces := #[]
  cf := some (fileOf pool0 8 #[] #[{ accessFlags := 1, nameIndex := 5, descriptorIndex := 6, attributes := #[] }, { accessFlags := 260, nameIndex := 96, descriptorIndex := 97, attributes := #[] }] 33 0 #[] #[])
  fields := #[]
  methods := #[k0m0, k0m1]
  instanceTypes := #[]
  staticTypes := #[]
  resolved := Array.replicate 124 none
  statics := none }

def pool1 : Array CpInfo := pool [(2, .class_ 4), (0, .nameAndType 5 6), (0, u "java/lang/Object"), (0, u "<init>"), (0, u "()V"), (0, .methodref 8 9), (0, .class_ 10), (0, .nameAndType 11 12), (0, u "java/lang/String"), (0, u "length"), (0, u "()I"), (0, .methodref 8 14), (0, .nameAndType 15 16), (0, u "charAt"), (0, u "(I)C"), (0, .long 10), (1, .long 100), (1, .long 1000), (1, .long 10000), (1, .long 100000), (1, .long 1000000), (1, .long 10000000), (1, .long 100000000), (1, .long 1000000000), (1, .methodref 36 37), (0, .class_ 38), (0, .nameAndType 39 40), (0, u "com/example/wirecall/wirecall/demo/UserToStringPinLaw"), (0, u "pow10"), (0, u "(I)J"), (0, .methodref 36 42), (0, .nameAndType 43 44), (0, u "ch"), (0, u "(Ljava/lang/String;IC)Z"), (0, .methodref 8 46), (0, .nameAndType 5 47), (0, u "([C)V"), (0, .class_ 49), (0, u "com/example/wirecall/wirecall/demo/User"), (0, .methodref 48 3), (0, .methodref 48 52), (0, .nameAndType 5 53), (0, u "(ILjava/lang/String;)V"), (0, .methodref 48 55), (0, .nameAndType 56 57), (0, u "toString"), (0, u "()Ljava/lang/String;"), (0, .methodref 59 60), (0, .class_ 61), (0, .nameAndType 62 63), (0, u "java/lang/Math"), (0, u "abs"), (0, u "(J)J"), (0, .methodref 36 65), (0, .nameAndType 66 67), (0, u "digitCount"), (0, u "(J)I"), (0, .methodref 36 69), (0, .nameAndType 70 71), (0, u "digitOk"), (0, u "(Ljava/lang/String;IJII)Z"), (3, u "law"), (0, u "(IIII)Z")] 4

def k1m0 : Method := { name := "<init>", desc := "()V", sig := { parameters := [], returnType := none }, accessFlags := 1, code := none }
def k1c1 : Code := { maxStack := 2, maxLocals := 3, code := method_2_code, exceptionTable := #[], attributes := #[] }
def k1m1 : Method := { name := "ch", desc := "(Ljava/lang/String;IC)Z", sig := { parameters := [(.object "java/lang/String"), .int, .char], returnType := some .boolean }, accessFlags := 10, code := some k1c1 }
def k1c2 : Code := { maxStack := 4, maxLocals := 2, code := method_3_code, exceptionTable := #[], attributes := #[] }
def k1m2 : Method := { name := "digitCount", desc := "(J)I", sig := { parameters := [.long], returnType := some .int }, accessFlags := 10, code := some k1c2 }
def k1c3 : Code := { maxStack := 2, maxLocals := 1, code := method_4_code, exceptionTable := #[], attributes := #[] }
def k1m3 : Method := { name := "pow10", desc := "(I)J", sig := { parameters := [.int], returnType := some .long }, accessFlags := 10, code := some k1c3 }
def k1c4 : Code := { maxStack := 5, maxLocals := 8, code := method_5_code, exceptionTable := #[], attributes := #[] }
def k1m4 : Method := { name := "digitOk", desc := "(Ljava/lang/String;IJII)Z", sig := { parameters := [(.object "java/lang/String"), .int, .long, .int, .int], returnType := some .boolean }, accessFlags := 10, code := some k1c4 }
def k1c5 : Code := { maxStack := 6, maxLocals := 26, code := code, exceptionTable := #[], attributes := #[] }
def k1m5 : Method := { name := "law", desc := "(IIII)Z", sig := { parameters := [.int, .int, .int, .int], returnType := some .boolean }, accessFlags := 9, code := some k1c5 }
/-- com/example/wirecall/wirecall/demo/UserToStringPinLaw -/
def k1 : Class := { plain "com/example/wirecall/wirecall/demo/UserToStringPinLaw" (some 0) with
  accessFlags := 49
  interfaces := #[]
  cf := some (fileOf pool1 36 #[] #[{ accessFlags := 1, nameIndex := 5, descriptorIndex := 6, attributes := #[] }, { accessFlags := 10, nameIndex := 43, descriptorIndex := 44, attributes := #[] }, { accessFlags := 10, nameIndex := 66, descriptorIndex := 67, attributes := #[] }, { accessFlags := 10, nameIndex := 39, descriptorIndex := 40, attributes := #[] }, { accessFlags := 10, nameIndex := 70, descriptorIndex := 71, attributes := #[] }, { accessFlags := 9, nameIndex := 75, descriptorIndex := 76, attributes := #[] }] 49 2 #[] #[])
  fields := #[]
  methods := #[k1m0, k1m1, k1m2, k1m3, k1m4, k1m5]
  instanceTypes := #[]
  staticTypes := #[]
  resolved := Array.replicate 81 none
  statics := none }

def pool2 : Array CpInfo := pool [(1, .class_ 2), (0, u "java/io/Serializable"), (0, .class_ 4), (0, u "java/lang/Object")] 2

/-- java/io/Serializable -/
def k2 : Class := { plain "java/io/Serializable" (some 0) with
  accessFlags := 1537
  interfaces := #[]
  cf := some (fileOf pool2 1 #[] #[] 1537 3 #[] #[])
  fields := #[]
  methods := #[]
  instanceTypes := #[]
  staticTypes := #[]
  resolved := Array.replicate 7 none
  statics := none }

def pool3 : Array CpInfo := pool [(1, .class_ 2), (0, u "java/lang/Comparable"), (0, .class_ 4), (0, u "java/lang/Object")] 7

/-- java/lang/Comparable -/
def k3 : Class := { plain "java/lang/Comparable" (some 0) with
  accessFlags := 1537
  interfaces := #[]
  cf := some (fileOf pool3 1 #[] #[] 1537 3 #[] #[])
  fields := #[]
  methods := #[]
  instanceTypes := #[]
  staticTypes := #[]
  resolved := Array.replicate 12 none
  statics := none }

def pool4 : Array CpInfo := pool [(2, .class_ 4), (1, u "java/lang/CharSequence"), (42, .class_ 48), (0, u "java/lang/CharSequence$1CodePointIterator"), (10, .class_ 60), (0, u "java/lang/CharSequence$1CharIterator"), (5, .class_ 67), (0, u "java/lang/Object")] 63

/-- java/lang/CharSequence -/
def k4 : Class := { plain "java/lang/CharSequence" (some 0) with
  accessFlags := 1537
  interfaces := #[]
  cf := some (fileOf pool4 2 #[.nestMembers #[47, 59]] #[] 1537 66 #[] #[])
  fields := #[]
  methods := #[]
  instanceTypes := #[]
  staticTypes := #[]
  resolved := Array.replicate 131 none
  statics := none }

def pool5 : Array CpInfo := pool [(1, .class_ 2), (0, u "java/lang/constant/Constable"), (0, .class_ 4), (0, u "java/lang/Object")] 6

/-- java/lang/constant/Constable -/
def k5 : Class := { plain "java/lang/constant/Constable" (some 0) with
  accessFlags := 1537
  interfaces := #[]
  cf := some (fileOf pool5 1 #[] #[] 1537 3 #[] #[])
  fields := #[]
  methods := #[]
  instanceTypes := #[]
  staticTypes := #[]
  resolved := Array.replicate 11 none
  statics := none }

def pool6 : Array CpInfo := pool [(1, .class_ 2), (0, u "java/lang/constant/ConstantDesc"), (0, .class_ 4), (0, u "java/lang/Object")] 32

/-- java/lang/constant/ConstantDesc -/
def k6 : Class := { plain "java/lang/constant/ConstantDesc" (some 0) with
  accessFlags := 1537
  interfaces := #[]
  cf := some (fileOf pool6 1 #[] #[] 1537 3 #[] #[])
  fields := #[]
  methods := #[]
  instanceTypes := #[]
  staticTypes := #[]
  resolved := Array.replicate 37 none
  statics := none }

def pool7 : Array CpInfo := pool [(1, .methodref 2 3), (0, .class_ 4), (0, .nameAndType 5 6), (0, u "java/lang/Object"), (0, u "<init>"), (0, u "()V"), (0, .string 8), (0, u ""), (0, .fieldref 10 11), (0, .class_ 12), (0, .nameAndType 13 14), (0, u "java/lang/String"), (0, u "value"), (0, u "[B"), (0, .fieldref 10 16), (0, .nameAndType 17 18), (0, u "coder"), (0, u "B"), (2, u "hash"), (0, u "I"), (2, u "hashIsZero"), (0, u "Z"), (0, .methodref 10 28), (0, .nameAndType 5 29), (0, u "([CIILjava/lang/Void;)V"), (8, .fieldref 10 39), (0, .nameAndType 40 26), (0, u "COMPACT_STRINGS"), (1, .class_ 44), (1, u "java/lang/StringUTF16"), (0, u "compress"), (1, .methodref 42 48), (0, .nameAndType 49 50), (0, u "coderFromArrayLen"), (0, u "([BI)B"), (3, .methodref 55 56), (0, .class_ 57), (0, .nameAndType 58 59), (0, u "java/util/Arrays"), (0, u "copyOfRange"), (0, u "([BII)[B"), (47, .class_ 109), (1, u "java/lang/StringLatin1"), (32, u "()Z"), (34, .methodref 42 178), (0, .nameAndType 45 179), (0, u "([CII)[B"), (13, .class_ 195), (1, u "java/lang/System"), (16, .methodref 193 213), (0, .nameAndType 214 215), (0, u "arraycopy"), (0, u "(Ljava/lang/Object;ILjava/lang/Object;II)V"), (118, u "()I"), (0, .methodref 10 336), (0, .nameAndType 17 337), (0, u "()B"), (2, u "()[B"), (22, u "([BI)C"), (27, u "(II)V"), (35, u "(I)C"), (61, .methodref 10 490), (0, .nameAndType 5 491), (0, u "(Ljava/lang/AbstractStringBuilder;Ljava/lang/Void;)V"), (0, .methodref 10 493), (0, .nameAndType 494 142), (0, u "isLatin1"), (0, .methodref 107 496), (0, .nameAndType 497 363), (0, u "charAt"), (3, u "checkIndex"), (4, .nameAndType 507 334), (0, u "length"), (24, u "getBytes"), (16, .methodref 550 506), (0, .class_ 551), (0, u "java/lang/AbstractStringBuilder"), (0, .methodref 550 553), (0, .nameAndType 554 340), (0, u "getValue"), (20, .class_ 576), (0, u "java/lang/CharSequence"), (22, u "CASE_INSENSITIVE_ORDER"), (0, u "Ljava/util/Comparator;"), (220, u "([BIB)V"), (188, u "([C)V"), (36, .methodref 550 493), (5, .fieldref 1054 1055), (0, .class_ 1056), (0, .nameAndType 1057 1058), (0, u "jdk/internal/util/Preconditions"), (0, u "SIOOBE_FORMATTER"), (0, u "Ljava/util/function/BiFunction;"), (0, .methodref 1054 1060), (0, .nameAndType 501 1061), (0, u "(IILjava/util/function/BiFunction;)I"), (39, u "serialPersistentFields"), (0, u "[Ljava/io/ObjectStreamField;"), (0, .class_ 1104), (0, u "java/lang/String$CaseInsensitiveComparator"), (1, .class_ 1107), (0, u "java/io/Serializable"), (0, .class_ 1109), (0, u "java/lang/Comparable"), (0, .class_ 1111), (0, u "java/lang/constant/Constable"), (0, .class_ 1113), (0, u "java/lang/constant/ConstantDesc"), (2, u "serialVersionUID"), (0, u "J"), (3, u "REPL"), (0, u "C"), (2, u "LATIN1"), (1, u "UTF16"), (105, u "(Ljava/lang/StringBuilder;)V")] 217

def k7m0 : Method := { name := "<init>", desc := "()V", sig := { parameters := [], returnType := none }, accessFlags := 1, code := none }
def k7c1 : Code := { maxStack := 5, maxLocals := 2, code := jdk_42_method_3_code, exceptionTable := #[], attributes := #[] }
def k7m1 : Method := { name := "<init>", desc := "([C)V", sig := { parameters := [(.array .char)], returnType := none }, accessFlags := 1, code := some k7c1 }
def k7c2 : Code := { maxStack := 3, maxLocals := 2, code := jdk_42_method_53_code, exceptionTable := #[], attributes := #[] }
def k7m2 : Method := { name := "<init>", desc := "(Ljava/lang/StringBuilder;)V", sig := { parameters := [(.object "java/lang/StringBuilder")], returnType := none }, accessFlags := 1, code := some k7c2 }
def k7c3 : Code := { maxStack := 2, maxLocals := 1, code := jdk_42_method_54_code, exceptionTable := #[], attributes := #[] }
def k7m3 : Method := { name := "length", desc := "()I", sig := { parameters := [], returnType := some .int }, accessFlags := 1, code := some k7c3 }
def k7c4 : Code := { maxStack := 2, maxLocals := 2, code := jdk_42_method_56_code, exceptionTable := #[], attributes := #[] }
def k7m4 : Method := { name := "charAt", desc := "(I)C", sig := { parameters := [.int], returnType := some .char }, accessFlags := 1, code := some k7c4 }
def k7c5 : Code := { maxStack := 5, maxLocals := 4, code := jdk_42_method_147_code, exceptionTable := #[], attributes := #[] }
def k7m5 : Method := { name := "getBytes", desc := "([BIB)V", sig := { parameters := [(.array .byte), .int, .byte], returnType := none }, accessFlags := 0, code := some k7c5 }
def k7c6 : Code := { maxStack := 4, maxLocals := 6, code := jdk_42_method_149_code, exceptionTable := #[], attributes := #[] }
def k7m6 : Method := { name := "<init>", desc := "([CIILjava/lang/Void;)V", sig := { parameters := [(.array .char), .int, .int, (.object "java/lang/Void")], returnType := none }, accessFlags := 2, code := some k7c6 }
def k7c7 : Code := { maxStack := 5, maxLocals := 5, code := jdk_42_method_150_code, exceptionTable := #[], attributes := #[] }
def k7m7 : Method := { name := "<init>", desc := "(Ljava/lang/AbstractStringBuilder;Ljava/lang/Void;)V", sig := { parameters := [(.object "java/lang/AbstractStringBuilder"), (.object "java/lang/Void")], returnType := none }, accessFlags := 0, code := some k7c7 }
def k7c8 : Code := { maxStack := 1, maxLocals := 1, code := jdk_42_method_152_code, exceptionTable := #[], attributes := #[] }
def k7m8 : Method := { name := "coder", desc := "()B", sig := { parameters := [], returnType := some .byte }, accessFlags := 0, code := some k7c8 }
def k7c9 : Code := { maxStack := 1, maxLocals := 1, code := jdk_42_method_154_code, exceptionTable := #[], attributes := #[] }
def k7m9 : Method := { name := "isLatin1", desc := "()Z", sig := { parameters := [], returnType := some .boolean }, accessFlags := 0, code := some k7c9 }
def k7c10 : Code := { maxStack := 3, maxLocals := 2, code := jdk_42_method_155_code, exceptionTable := #[], attributes := #[] }
def k7m10 : Method := { name := "checkIndex", desc := "(II)V", sig := { parameters := [.int, .int], returnType := none }, accessFlags := 8, code := some k7c10 }
/-- java/lang/String -/
def k7 : Class := { plain "java/lang/String" (some 0) with
  accessFlags := 49
  interfaces := #[2, 3, 4, 5, 6]
  cf := some (fileOf pool7 10 #[.nestMembers #[1103]] #[{ accessFlags := 1, nameIndex := 5, descriptorIndex := 6, attributes := #[] }, { accessFlags := 1, nameIndex := 5, descriptorIndex := 1010, attributes := #[] }, { accessFlags := 1, nameIndex := 5, descriptorIndex := 1233, attributes := #[] }, { accessFlags := 1, nameIndex := 507, descriptorIndex := 334, attributes := #[] }, { accessFlags := 1, nameIndex := 497, descriptorIndex := 427, attributes := #[] }, { accessFlags := 0, nameIndex := 532, descriptorIndex := 821, attributes := #[] }, { accessFlags := 2, nameIndex := 5, descriptorIndex := 29, attributes := #[] }, { accessFlags := 0, nameIndex := 5, descriptorIndex := 491, attributes := #[] }, { accessFlags := 0, nameIndex := 17, descriptorIndex := 337, attributes := #[] }, { accessFlags := 0, nameIndex := 494, descriptorIndex := 142, attributes := #[] }, { accessFlags := 8, nameIndex := 501, descriptorIndex := 391, attributes := #[] }] 49 2 #[1106, 1108, 575, 1110, 1112] #[{ accessFlags := 18, nameIndex := 13, descriptorIndex := 14, attributes := #[] }, { accessFlags := 18, nameIndex := 17, descriptorIndex := 18, attributes := #[] }, { accessFlags := 2, nameIndex := 21, descriptorIndex := 22, attributes := #[] }, { accessFlags := 2, nameIndex := 25, descriptorIndex := 26, attributes := #[] }, { accessFlags := 26, nameIndex := 1116, descriptorIndex := 1117, attributes := #[] }, { accessFlags := 24, nameIndex := 40, descriptorIndex := 26, attributes := #[] }, { accessFlags := 26, nameIndex := 1101, descriptorIndex := 1102, attributes := #[] }, { accessFlags := 26, nameIndex := 1121, descriptorIndex := 1122, attributes := #[] }, { accessFlags := 25, nameIndex := 599, descriptorIndex := 600, attributes := #[] }, { accessFlags := 24, nameIndex := 1125, descriptorIndex := 18, attributes := #[] }, { accessFlags := 24, nameIndex := 1127, descriptorIndex := 18, attributes := #[] }])
  fields := #[{ name := "value", type := (.array .byte), accessFlags := 18, slot := 0, constantValue := 0 }, { name := "coder", type := .byte, accessFlags := 18, slot := 1, constantValue := 0 }, { name := "hash", type := .int, accessFlags := 2, slot := 2, constantValue := 0 }, { name := "hashIsZero", type := .boolean, accessFlags := 2, slot := 3, constantValue := 0 }, { name := "serialVersionUID", type := .long, accessFlags := 26, slot := 0, constantValue := 0 }, { name := "COMPACT_STRINGS", type := .boolean, accessFlags := 24, slot := 1, constantValue := 0 }, { name := "serialPersistentFields", type := (.array (.object "java/io/ObjectStreamField")), accessFlags := 26, slot := 2, constantValue := 0 }, { name := "REPL", type := .char, accessFlags := 26, slot := 3, constantValue := 0 }, { name := "CASE_INSENSITIVE_ORDER", type := (.object "java/util/Comparator"), accessFlags := 25, slot := 4, constantValue := 0 }, { name := "LATIN1", type := .byte, accessFlags := 24, slot := 5, constantValue := 0 }, { name := "UTF16", type := .byte, accessFlags := 24, slot := 6, constantValue := 0 }]
  methods := #[k7m0, k7m1, k7m2, k7m3, k7m4, k7m5, k7m6, k7m7, k7m8, k7m9, k7m10]
  instanceTypes := #[(.array .byte), .byte, .int, .boolean]
  staticTypes := #[.long, .boolean, (.array (.object "java/io/ObjectStreamField")), .char, (.object "java/util/Comparator"), .byte, .byte]
  resolved := Array.replicate 1451 none
  statics := some 0 }

def pool8 : Array CpInfo := pool [(1, .methodref 2 3), (0, .class_ 4), (0, .nameAndType 5 6), (0, u "java/lang/Object"), (0, u "<init>"), (0, u "()V"), (0, .fieldref 8 9), (0, .class_ 10), (0, .nameAndType 11 12), (0, u "com/example/wirecall/wirecall/demo/User"), (0, u "userId"), (0, u "I"), (0, .fieldref 8 14), (0, .nameAndType 15 16), (0, u "userName"), (0, u "Ljava/lang/String;"), (16, .class_ 34), (0, u "java/lang/StringBuilder"), (0, .methodref 33 3), (0, .string 37), (0, u "User(userId="), (0, .methodref 33 39), (0, .nameAndType 40 41), (0, u "append"), (0, u "(Ljava/lang/String;)Ljava/lang/StringBuilder;"), (0, .methodref 33 43), (0, .nameAndType 40 44), (0, u "(I)Ljava/lang/StringBuilder;"), (0, .string 46), (0, u ", userName="), (0, .string 48), (0, u ")"), (0, .methodref 33 50), (0, .nameAndType 51 52), (0, u "toString"), (0, u "()Ljava/lang/String;"), (2, u "(ILjava/lang/String;)V")] 8

def k8c0 : Code := { maxStack := 1, maxLocals := 1, code := prog_20_method_1_code, exceptionTable := #[], attributes := #[] }
def k8m0 : Method := { name := "<init>", desc := "()V", sig := { parameters := [], returnType := none }, accessFlags := 1, code := some k8c0 }
def k8c1 : Code := { maxStack := 2, maxLocals := 3, code := prog_20_method_2_code, exceptionTable := #[], attributes := #[] }
def k8m1 : Method := { name := "<init>", desc := "(ILjava/lang/String;)V", sig := { parameters := [.int, (.object "java/lang/String")], returnType := none }, accessFlags := 1, code := some k8c1 }
def k8c2 : Code := { maxStack := 2, maxLocals := 1, code := prog_20_method_7_code, exceptionTable := #[], attributes := #[] }
def k8m2 : Method := { name := "toString", desc := "()Ljava/lang/String;", sig := { parameters := [], returnType := some (.object "java/lang/String") }, accessFlags := 1, code := some k8c2 }
/-- com/example/wirecall/wirecall/demo/User -/
def k8 : Class := { plain "com/example/wirecall/wirecall/demo/User" (some 0) with
  accessFlags := 49
  interfaces := #[]
  cf := some (fileOf pool8 8 #[] #[{ accessFlags := 1, nameIndex := 5, descriptorIndex := 6, attributes := #[] }, { accessFlags := 1, nameIndex := 5, descriptorIndex := 55, attributes := #[] }, { accessFlags := 1, nameIndex := 51, descriptorIndex := 52, attributes := #[] }] 49 2 #[] #[{ accessFlags := 2, nameIndex := 11, descriptorIndex := 12, attributes := #[] }, { accessFlags := 2, nameIndex := 15, descriptorIndex := 16, attributes := #[] }])
  fields := #[{ name := "userId", type := .int, accessFlags := 2, slot := 0, constantValue := 0 }, { name := "userName", type := (.object "java/lang/String"), accessFlags := 2, slot := 1, constantValue := 0 }]
  methods := #[k8m0, k8m1, k8m2]
  instanceTypes := #[.int, (.object "java/lang/String")]
  staticTypes := #[]
  resolved := Array.replicate 64 none
  statics := none }

def pool9 : Array CpInfo := pool [(1, .class_ 2), (0, u "java/lang/Appendable"), (0, .class_ 4), (0, u "java/lang/Object")] 9

/-- java/lang/Appendable -/
def k9 : Class := { plain "java/lang/Appendable" (some 0) with
  accessFlags := 1537
  interfaces := #[]
  cf := some (fileOf pool9 1 #[] #[] 1537 3 #[] #[])
  fields := #[]
  methods := #[]
  instanceTypes := #[]
  staticTypes := #[]
  resolved := Array.replicate 14 none
  statics := none }

def pool10 : Array CpInfo := pool [(1, .class_ 2), (0, u "java/lang/String"), (0, .methodref 4 5), (0, .class_ 6), (0, .nameAndType 7 8), (0, u "java/lang/Object"), (0, u "<init>"), (0, u "()V"), (1, .class_ 12), (1, u "java/lang/AbstractStringBuilder"), (0, u "EMPTYVALUE"), (0, u "[B"), (0, .fieldref 10 16), (0, .nameAndType 17 14), (0, u "value"), (0, .fieldref 1 19), (0, .nameAndType 20 21), (0, u "COMPACT_STRINGS"), (0, u "Z"), (0, .fieldref 10 23), (0, .nameAndType 24 25), (0, u "coder"), (0, u "B"), (6, .methodref 1 33), (0, .nameAndType 34 35), (0, u "length"), (0, u "()I"), (0, .class_ 37), (0, u "java/lang/Integer"), (1, .integer 2147483647), (0, .methodref 1 41), (0, .nameAndType 24 42), (0, u "()B"), (2, u "append"), (0, u "(Ljava/lang/String;)Ljava/lang/AbstractStringBuilder;"), (1, .class_ 49), (0, u "java/lang/CharSequence"), (19, u "(Ljava/lang/String;)V"), (5, u "maybeLatin1"), (3, .fieldref 10 80), (0, .nameAndType 81 82), (0, u "count"), (0, u "I"), (0, .methodref 10 84), (0, .nameAndType 85 86), (0, u "isLatin1"), (0, u "()Z"), (13, .methodref 10 101), (0, .nameAndType 102 103), (0, u "ensureCapacityInternal"), (0, u "(I)V"), (0, .methodref 10 105), (0, .nameAndType 106 107), (0, u "newCapacity"), (0, u "(I)I"), (0, .methodref 109 110), (0, .class_ 111), (0, .nameAndType 112 113), (0, u "java/util/Arrays"), (0, u "copyOf"), (0, u "([BI)[B"), (0, .methodref 115 116), (0, .class_ 117), (0, .nameAndType 118 119), (0, u "jdk/internal/util/ArraysSupport"), (0, u "newLength"), (0, u "(III)I"), (68, u "getChars"), (15, .methodref 10 205), (0, .nameAndType 206 207), (0, u "appendNull"), (0, u "()Ljava/lang/AbstractStringBuilder;"), (0, .methodref 10 209), (0, .nameAndType 210 211), (0, u "putStringAt"), (0, u "(ILjava/lang/String;)V"), (5, u "inflateIfNeededFor"), (2, .nameAndType 221 222), (0, u "getBytes"), (0, u "([BIB)V"), (22, .methodref 36 246), (0, .nameAndType 247 107), (0, u "stringSize"), (0, .methodref 36 249), (0, .nameAndType 188 250), (0, u "(II[B)I"), (146, .methodref 10 398), (0, .nameAndType 217 69), (0, .methodref 1 220), (3, u "()[B"), (40, .class_ 445), (0, u "java/lang/Appendable"), (65, u "(I)Ljava/lang/AbstractStringBuilder;"), (40, u "getValue")] 56

def k10m0 : Method := { name := "<init>", desc := "()V", sig := { parameters := [], returnType := none }, accessFlags := 0, code := none }
def k10c1 : Code := { maxStack := 2, maxLocals := 2, code := jdk_68_method_2_code, exceptionTable := #[], attributes := #[] }
def k10m1 : Method := { name := "<init>", desc := "(I)V", sig := { parameters := [.int], returnType := none }, accessFlags := 0, code := some k10c1 }
def k10c2 : Code := { maxStack := 1, maxLocals := 1, code := jdk_68_method_6_code, exceptionTable := #[], attributes := #[] }
def k10m2 : Method := { name := "length", desc := "()I", sig := { parameters := [], returnType := some .int }, accessFlags := 1, code := some k10c2 }
def k10c3 : Code := { maxStack := 4, maxLocals := 3, code := jdk_68_method_9_code, exceptionTable := #[], attributes := #[] }
def k10m3 : Method := { name := "ensureCapacityInternal", desc := "(I)V", sig := { parameters := [.int], returnType := none }, accessFlags := 2, code := some k10c3 }
def k10c4 : Code := { maxStack := 5, maxLocals := 6, code := jdk_68_method_10_code, exceptionTable := #[], attributes := #[] }
def k10m4 : Method := { name := "newCapacity", desc := "(I)I", sig := { parameters := [.int], returnType := some .int }, accessFlags := 2, code := some k10c4 }
def k10c5 : Code := { maxStack := 3, maxLocals := 3, code := jdk_68_method_22_code, exceptionTable := #[], attributes := #[] }
def k10m5 : Method := { name := "append", desc := "(Ljava/lang/String;)Ljava/lang/AbstractStringBuilder;", sig := { parameters := [(.object "java/lang/String")], returnType := some (.object "java/lang/AbstractStringBuilder") }, accessFlags := 1, code := some k10c5 }
def k10c6 : Code := { maxStack := 6, maxLocals := 3, code := jdk_68_method_26_code, exceptionTable := #[], attributes := #[] }
def k10m6 : Method := { name := "appendNull", desc := "()Ljava/lang/AbstractStringBuilder;", sig := { parameters := [], returnType := some (.object "java/lang/AbstractStringBuilder") }, accessFlags := 2, code := some k10c6 }
def k10c7 : Code := { maxStack := 4, maxLocals := 4, code := jdk_68_method_32_code, exceptionTable := #[], attributes := #[] }
def k10m7 : Method := { name := "append", desc := "(I)Ljava/lang/AbstractStringBuilder;", sig := { parameters := [.int], returnType := some (.object "java/lang/AbstractStringBuilder") }, accessFlags := 1, code := some k10c7 }
def k10c8 : Code := { maxStack := 1, maxLocals := 1, code := jdk_68_method_64_code, exceptionTable := #[], attributes := #[] }
def k10m8 : Method := { name := "getValue", desc := "()[B", sig := { parameters := [], returnType := some (.array .byte) }, accessFlags := 16, code := some k10c8 }
def k10c9 : Code := { maxStack := 1, maxLocals := 1, code := jdk_68_method_68_code, exceptionTable := #[], attributes := #[] }
def k10m9 : Method := { name := "isLatin1", desc := "()Z", sig := { parameters := [], returnType := some .boolean }, accessFlags := 16, code := some k10c9 }
def k10c10 : Code := { maxStack := 2, maxLocals := 2, code := jdk_68_method_71_code, exceptionTable := #[], attributes := #[] }
def k10m10 : Method := { name := "inflateIfNeededFor", desc := "(Ljava/lang/String;)V", sig := { parameters := [(.object "java/lang/String")], returnType := none }, accessFlags := 2, code := some k10c10 }
def k10c11 : Code := { maxStack := 4, maxLocals := 3, code := jdk_68_method_73_code, exceptionTable := #[], attributes := #[] }
def k10m11 : Method := { name := "putStringAt", desc := "(ILjava/lang/String;)V", sig := { parameters := [.int, (.object "java/lang/String")], returnType := none }, accessFlags := 2, code := some k10c11 }
/-- java/lang/AbstractStringBuilder -/
def k10 : Class := { plain "java/lang/AbstractStringBuilder" (some 0) with
  accessFlags := 1056
  interfaces := #[9, 4]
  cf := some (fileOf pool10 10 #[] #[{ accessFlags := 0, nameIndex := 7, descriptorIndex := 8, attributes := #[] }, { accessFlags := 0, nameIndex := 7, descriptorIndex := 103, attributes := #[] }, { accessFlags := 1, nameIndex := 34, descriptorIndex := 35, attributes := #[] }, { accessFlags := 2, nameIndex := 102, descriptorIndex := 103, attributes := #[] }, { accessFlags := 2, nameIndex := 106, descriptorIndex := 107, attributes := #[] }, { accessFlags := 1, nameIndex := 45, descriptorIndex := 46, attributes := #[] }, { accessFlags := 2, nameIndex := 206, descriptorIndex := 207, attributes := #[] }, { accessFlags := 1, nameIndex := 45, descriptorIndex := 511, attributes := #[] }, { accessFlags := 16, nameIndex := 552, descriptorIndex := 403, attributes := #[] }, { accessFlags := 16, nameIndex := 85, descriptorIndex := 86, attributes := #[] }, { accessFlags := 2, nameIndex := 217, descriptorIndex := 69, attributes := #[] }, { accessFlags := 2, nameIndex := 210, descriptorIndex := 211, attributes := #[] }] 1056 4 #[444, 48] #[{ accessFlags := 0, nameIndex := 17, descriptorIndex := 14, attributes := #[] }, { accessFlags := 0, nameIndex := 24, descriptorIndex := 25, attributes := #[] }, { accessFlags := 0, nameIndex := 75, descriptorIndex := 21, attributes := #[] }, { accessFlags := 0, nameIndex := 81, descriptorIndex := 82, attributes := #[] }, { accessFlags := 26, nameIndex := 13, descriptorIndex := 14, attributes := #[] }])
  fields := #[{ name := "value", type := (.array .byte), accessFlags := 0, slot := 0, constantValue := 0 }, { name := "coder", type := .byte, accessFlags := 0, slot := 1, constantValue := 0 }, { name := "maybeLatin1", type := .boolean, accessFlags := 0, slot := 2, constantValue := 0 }, { name := "count", type := .int, accessFlags := 0, slot := 3, constantValue := 0 }, { name := "EMPTYVALUE", type := (.array .byte), accessFlags := 26, slot := 0, constantValue := 0 }]
  methods := #[k10m0, k10m1, k10m2, k10m3, k10m4, k10m5, k10m6, k10m7, k10m8, k10m9, k10m10, k10m11]
  instanceTypes := #[(.array .byte), .byte, .boolean, .int]
  staticTypes := #[(.array .byte)]
  resolved := Array.replicate 609 none
  statics := none }

def pool11 : Array CpInfo := pool [(1, .methodref 2 3), (0, .class_ 4), (0, .nameAndType 5 6), (0, u "java/lang/AbstractStringBuilder"), (0, u "<init>"), (0, u "(I)V"), (11, .class_ 20), (1, u "java/lang/String"), (3, .class_ 26), (1, u "java/lang/StringBuilder"), (0, u "append"), (0, u "(Ljava/lang/String;)Ljava/lang/StringBuilder;"), (0, .methodref 2 30), (0, .nameAndType 27 31), (0, u "(Ljava/lang/String;)Ljava/lang/AbstractStringBuilder;"), (21, .methodref 2 54), (0, .nameAndType 27 55), (0, u "(I)Ljava/lang/AbstractStringBuilder;"), (81, .methodref 18 138), (0, .nameAndType 5 139), (0, u "(Ljava/lang/StringBuilder;)V"), (5, u "()V"), (10, u "()I"), (111, u "(I)Ljava/lang/StringBuilder;"), (74, .methodref 2 344), (0, .nameAndType 345 156), (0, u "length"), (3, .class_ 350), (0, u "java/lang/Appendable"), (0, .class_ 352), (0, u "java/io/Serializable"), (0, .class_ 354), (0, u "java/lang/Comparable"), (0, .class_ 356), (0, u "java/lang/CharSequence"), (0, u "serialVersionUID"), (0, u "J"), (40, u "toString"), (0, u "()Ljava/lang/String;")] 21

def k11c0 : Code := { maxStack := 2, maxLocals := 1, code := jdk_67_method_1_code, exceptionTable := #[], attributes := #[] }
def k11m0 : Method := { name := "<init>", desc := "()V", sig := { parameters := [], returnType := none }, accessFlags := 1, code := some k11c0 }
def k11c1 : Code := { maxStack := 2, maxLocals := 2, code := jdk_67_method_7_code, exceptionTable := #[], attributes := #[] }
def k11m1 : Method := { name := "append", desc := "(Ljava/lang/String;)Ljava/lang/StringBuilder;", sig := { parameters := [(.object "java/lang/String")], returnType := some (.object "java/lang/StringBuilder") }, accessFlags := 1, code := some k11c1 }
def k11c2 : Code := { maxStack := 2, maxLocals := 2, code := jdk_67_method_15_code, exceptionTable := #[], attributes := #[] }
def k11m2 : Method := { name := "append", desc := "(I)Ljava/lang/StringBuilder;", sig := { parameters := [.int], returnType := some (.object "java/lang/StringBuilder") }, accessFlags := 1, code := some k11c2 }
def k11c3 : Code := { maxStack := 3, maxLocals := 1, code := jdk_67_method_42_code, exceptionTable := #[], attributes := #[] }
def k11m3 : Method := { name := "toString", desc := "()Ljava/lang/String;", sig := { parameters := [], returnType := some (.object "java/lang/String") }, accessFlags := 1, code := some k11c3 }
def k11c4 : Code := { maxStack := 1, maxLocals := 1, code := jdk_67_method_93_code, exceptionTable := #[], attributes := #[] }
def k11m4 : Method := { name := "length", desc := "()I", sig := { parameters := [], returnType := some .int }, accessFlags := 4161, code := some k11c4 }
/-- java/lang/StringBuilder -/
def k11 : Class := { plain "java/lang/StringBuilder" (some 10) with
  accessFlags := 49
  interfaces := #[9, 2, 3, 4]
  cf := some (fileOf pool11 24 #[] #[{ accessFlags := 1, nameIndex := 5, descriptorIndex := 145, attributes := #[] }, { accessFlags := 1, nameIndex := 27, descriptorIndex := 28, attributes := #[] }, { accessFlags := 1, nameIndex := 27, descriptorIndex := 268, attributes := #[] }, { accessFlags := 1, nameIndex := 399, descriptorIndex := 400, attributes := #[] }, { accessFlags := 4161, nameIndex := 345, descriptorIndex := 156, attributes := #[] }] 49 2 #[349, 351, 353, 355] #[{ accessFlags := 24, nameIndex := 357, descriptorIndex := 358, attributes := #[] }])
  fields := #[{ name := "serialVersionUID", type := .long, accessFlags := 24, slot := 0, constantValue := 0 }]
  methods := #[k11m0, k11m1, k11m2, k11m3, k11m4]
  instanceTypes := #[(.array .byte), .byte, .boolean, .int]
  staticTypes := #[.long]
  resolved := Array.replicate 422 none
  statics := none }

def pool12 : Array CpInfo := pool [(2, .class_ 4), (1, u "java/lang/Object"), (0, u "<init>"), (0, u "()V"), (1, .class_ 10), (1, u "java/lang/System"), (0, u "allowSecurityManager"), (0, u "I"), (16, u "cons"), (0, u "Ljava/io/Console;"), (77, .class_ 110), (1, u "java/lang/System$CallersHolder"), (43, u "initialErrStream"), (0, u "Ljava/io/PrintStream;"), (19, u "security"), (0, u "Ljava/lang/SecurityManager;"), (31, .class_ 209), (0, u "java/lang/System$1"), (7, u "props"), (0, u "Ljava/util/Properties;"), (2, u "lineSeparator"), (0, u "Ljava/lang/String;"), (96, .class_ 321), (1, u "java/lang/System$LoggerFinder"), (5, .class_ 328), (0, u "java/lang/System$Logger"), (67, u "err"), (2, u "out"), (91, u "notSupportedJnuEncoding"), (15, u "in"), (17, u "initialIn"), (0, u "Ljava/io/InputStream;"), (35, u "bootLayer"), (0, u "Ljava/lang/ModuleLayer;"), (99, .class_ 664), (0, u "java/lang/System$2"), (9, u "NEVER"), (2, u "MAYBE"), (49, u "arraycopy"), (0, u "(Ljava/lang/Object;ILjava/lang/Object;II)V"), (72, .class_ 802), (0, u "java/lang/System$Logger$Level")] 31

def k12m0 : Method := { name := "<init>", desc := "()V", sig := { parameters := [], returnType := none }, accessFlags := 2, code := none }
def k12m1 : Method := { name := "arraycopy", desc := "(Ljava/lang/Object;ILjava/lang/Object;II)V", sig := { parameters := [(.object "java/lang/Object"), .int, (.object "java/lang/Object"), .int, .int], returnType := none }, accessFlags := 265, code := none }
/-- java/lang/System -/
def k12 : Class := { plain "java/lang/System" (some 0) with
  accessFlags := 49
  interfaces := #[]
  cf := some (fileOf pool12 8 #[.nestMembers #[319, 327, 801, 108, 663, 208]] #[{ accessFlags := 2, nameIndex := 5, descriptorIndex := 6, attributes := #[] }, { accessFlags := 265, nameIndex := 727, descriptorIndex := 728, attributes := #[] }] 49 2 #[] #[{ accessFlags := 25, nameIndex := 507, descriptorIndex := 526, attributes := #[] }, { accessFlags := 25, nameIndex := 399, descriptorIndex := 155, attributes := #[] }, { accessFlags := 25, nameIndex := 396, descriptorIndex := 155, attributes := #[] }, { accessFlags := 10, nameIndex := 525, descriptorIndex := 526, attributes := #[] }, { accessFlags := 26, nameIndex := 674, descriptorIndex := 12, attributes := #[] }, { accessFlags := 26, nameIndex := 677, descriptorIndex := 12, attributes := #[] }, { accessFlags := 10, nameIndex := 11, descriptorIndex := 12, attributes := #[] }, { accessFlags := 74, nameIndex := 175, descriptorIndex := 176, attributes := #[] }, { accessFlags := 10, nameIndex := 491, descriptorIndex := 222, attributes := #[] }, { accessFlags := 74, nameIndex := 29, descriptorIndex := 30, attributes := #[] }, { accessFlags := 74, nameIndex := 154, descriptorIndex := 155, attributes := #[] }, { accessFlags := 10, nameIndex := 217, descriptorIndex := 218, attributes := #[] }, { accessFlags := 10, nameIndex := 221, descriptorIndex := 222, attributes := #[] }, { accessFlags := 8, nameIndex := 562, descriptorIndex := 563, attributes := #[] }])
  fields := #[{ name := "in", type := (.object "java/io/InputStream"), accessFlags := 25, slot := 0, constantValue := 0 }, { name := "out", type := (.object "java/io/PrintStream"), accessFlags := 25, slot := 1, constantValue := 0 }, { name := "err", type := (.object "java/io/PrintStream"), accessFlags := 25, slot := 2, constantValue := 0 }, { name := "initialIn", type := (.object "java/io/InputStream"), accessFlags := 10, slot := 3, constantValue := 0 }, { name := "NEVER", type := .int, accessFlags := 26, slot := 4, constantValue := 0 }, { name := "MAYBE", type := .int, accessFlags := 26, slot := 5, constantValue := 0 }, { name := "allowSecurityManager", type := .int, accessFlags := 10, slot := 6, constantValue := 0 }, { name := "security", type := (.object "java/lang/SecurityManager"), accessFlags := 74, slot := 7, constantValue := 0 }, { name := "notSupportedJnuEncoding", type := (.object "java/lang/String"), accessFlags := 10, slot := 8, constantValue := 0 }, { name := "cons", type := (.object "java/io/Console"), accessFlags := 74, slot := 9, constantValue := 0 }, { name := "initialErrStream", type := (.object "java/io/PrintStream"), accessFlags := 74, slot := 10, constantValue := 0 }, { name := "props", type := (.object "java/util/Properties"), accessFlags := 10, slot := 11, constantValue := 0 }, { name := "lineSeparator", type := (.object "java/lang/String"), accessFlags := 10, slot := 12, constantValue := 0 }, { name := "bootLayer", type := (.object "java/lang/ModuleLayer"), accessFlags := 8, slot := 13, constantValue := 0 }]
  methods := #[k12m0, k12m1]
  instanceTypes := #[]
  staticTypes := #[(.object "java/io/InputStream"), (.object "java/io/PrintStream"), (.object "java/io/PrintStream"), (.object "java/io/InputStream"), .int, .int, .int, (.object "java/lang/SecurityManager"), (.object "java/lang/String"), (.object "java/io/Console"), (.object "java/io/PrintStream"), (.object "java/util/Properties"), (.object "java/lang/String"), (.object "java/lang/ModuleLayer")]
  resolved := Array.replicate 834 none
  statics := none }

def pool13 : Array CpInfo := pool [(2, .class_ 4), (1, u "java/lang/Object"), (0, u "<init>"), (0, u "()V"), (1, .class_ 10), (1, u "java/lang/Number"), (2, .class_ 14), (0, u "java/io/Serializable"), (0, u "serialVersionUID"), (0, u "J")] 20

def k13m0 : Method := { name := "<init>", desc := "()V", sig := { parameters := [], returnType := none }, accessFlags := 1, code := none }
/-- java/lang/Number -/
def k13 : Class := { plain "java/lang/Number" (some 0) with
  accessFlags := 1057
  interfaces := #[2]
  cf := some (fileOf pool13 8 #[] #[{ accessFlags := 1, nameIndex := 5, descriptorIndex := 6, attributes := #[] }] 1057 2 #[13] #[{ accessFlags := 26, nameIndex := 15, descriptorIndex := 16, attributes := #[] }])
  fields := #[{ name := "serialVersionUID", type := .long, accessFlags := 26, slot := 0, constantValue := 0 }]
  methods := #[k13m0]
  instanceTypes := #[]
  staticTypes := #[.long]
  resolved := Array.replicate 37 none
  statics := none }

def pool14 : Array CpInfo := pool [(1, .class_ 2), (0, u "java/lang/Integer"), (16, u "digits"), (0, u "[C"), (33, u "(I)I"), (19, u "stringSize"), (2, u "getChars"), (0, u "(II[B)I"), (4, .fieldref 1 84), (0, .nameAndType 85 86), (0, u "DigitOnes"), (0, u "[B"), (0, .fieldref 1 88), (0, .nameAndType 89 86), (0, u "DigitTens"), (99, .class_ 190), (0, u "java/lang/Integer$IntegerCache"), (3, u "I"), (8, .class_ 204), (0, u "java/lang/Number"), (2, u "value"), (94, u "TYPE"), (0, u "Ljava/lang/Class;"), (0, .class_ 305), (0, u "java/lang/Comparable"), (0, .class_ 307), (0, u "java/lang/constant/Constable"), (0, .class_ 309), (0, u "java/lang/constant/ConstantDesc"), (0, u "MIN_VALUE"), (1, u "MAX_VALUE"), (3, u "SIZE"), (1, u "BYTES"), (1, u "serialVersionUID"), (0, u "J")] 131

def k14c0 : Code := { maxStack := 4, maxLocals := 7, code := jdk_33_method_12_code, exceptionTable := #[], attributes := #[] }
def k14m0 : Method := { name := "getChars", desc := "(II[B)I", sig := { parameters := [.int, .int, (.array .byte)], returnType := some .int }, accessFlags := 8, code := some k14c0 }
def k14c1 : Code := { maxStack := 2, maxLocals := 4, code := jdk_33_method_13_code, exceptionTable := #[], attributes := #[] }
def k14m1 : Method := { name := "stringSize", desc := "(I)I", sig := { parameters := [.int], returnType := some .int }, accessFlags := 8, code := some k14c1 }
/-- java/lang/Integer -/
def k14 : Class := { plain "java/lang/Integer" (some 13) with
  accessFlags := 49
  interfaces := #[3, 5, 6]
  cf := some (fileOf pool14 1 #[.nestMembers #[189]] #[{ accessFlags := 8, nameIndex := 77, descriptorIndex := 78, attributes := #[] }, { accessFlags := 8, nameIndex := 74, descriptorIndex := 54, attributes := #[] }] 49 203 #[304, 306, 308] #[{ accessFlags := 25, nameIndex := 310, descriptorIndex := 194, attributes := #[] }, { accessFlags := 25, nameIndex := 312, descriptorIndex := 194, attributes := #[] }, { accessFlags := 25, nameIndex := 302, descriptorIndex := 303, attributes := #[] }, { accessFlags := 24, nameIndex := 19, descriptorIndex := 20, attributes := #[] }, { accessFlags := 24, nameIndex := 89, descriptorIndex := 86, attributes := #[] }, { accessFlags := 24, nameIndex := 85, descriptorIndex := 86, attributes := #[] }, { accessFlags := 18, nameIndex := 207, descriptorIndex := 194, attributes := #[] }, { accessFlags := 25, nameIndex := 316, descriptorIndex := 194, attributes := #[] }, { accessFlags := 25, nameIndex := 318, descriptorIndex := 194, attributes := #[] }, { accessFlags := 26, nameIndex := 320, descriptorIndex := 321, attributes := #[] }])
  fields := #[{ name := "MIN_VALUE", type := .int, accessFlags := 25, slot := 0, constantValue := 0 }, { name := "MAX_VALUE", type := .int, accessFlags := 25, slot := 1, constantValue := 0 }, { name := "TYPE", type := (.object "java/lang/Class"), accessFlags := 25, slot := 2, constantValue := 0 }, { name := "digits", type := (.array .char), accessFlags := 24, slot := 3, constantValue := 0 }, { name := "DigitTens", type := (.array .byte), accessFlags := 24, slot := 4, constantValue := 0 }, { name := "DigitOnes", type := (.array .byte), accessFlags := 24, slot := 5, constantValue := 0 }, { name := "value", type := .int, accessFlags := 18, slot := 0, constantValue := 0 }, { name := "SIZE", type := .int, accessFlags := 25, slot := 6, constantValue := 0 }, { name := "BYTES", type := .int, accessFlags := 25, slot := 7, constantValue := 0 }, { name := "serialVersionUID", type := .long, accessFlags := 26, slot := 8, constantValue := 0 }]
  methods := #[k14m0, k14m1]
  instanceTypes := #[.int]
  staticTypes := #[.int, .int, (.object "java/lang/Class"), (.array .char), (.array .byte), (.array .byte), .int, .int, .long]
  resolved := Array.replicate 453 none
  statics := some 1 }

def pool15 : Array CpInfo := pool [(9, u "<init>"), (6, .class_ 18), (1, u "java/lang/Object"), (0, u "()V"), (1, .class_ 23), (1, u "jdk/internal/util/ArraysSupport"), (0, u "LOG2_ARRAY_LONG_INDEX_SCALE"), (0, u "I"), (2, u "U"), (0, u "Ljdk/internal/misc/Unsafe;"), (8, u "BIG_ENDIAN"), (0, u "Z"), (8, u "LOG2_BYTE_BIT_SIZE"), (4, u "LOG2_ARRAY_INT_INDEX_SCALE"), (54, u "JLA"), (0, u "Ljdk/internal/access/JavaLangAccess;"), (11, u "LOG2_ARRAY_BOOLEAN_INDEX_SCALE"), (9, u "LOG2_ARRAY_BYTE_INDEX_SCALE"), (5, u "LOG2_ARRAY_CHAR_INDEX_SCALE"), (5, u "LOG2_ARRAY_SHORT_INDEX_SCALE"), (18, u "LOG2_ARRAY_FLOAT_INDEX_SCALE"), (24, u "LOG2_ARRAY_DOUBLE_INDEX_SCALE"), (6, .methodref 195 196), (0, .class_ 197), (0, .nameAndType 198 199), (0, u "java/lang/Math"), (0, u "max"), (0, u "(II)I"), (0, .integer 2147483639), (76, u "T_BOOLEAN"), (2, u "T_CHAR"), (1, u "T_FLOAT"), (1, u "T_DOUBLE"), (1, u "T_BYTE"), (1, u "T_SHORT"), (1, u "T_INT"), (1, u "T_LONG"), (1, u "SOFT_MAX_ARRAY_LENGTH"), (56, u "newLength"), (0, u "(III)I")] 25

def k15m0 : Method := { name := "<init>", desc := "()V", sig := { parameters := [], returnType := none }, accessFlags := 2, code := none }
def k15c1 : Code := { maxStack := 3, maxLocals := 4, code := jdk_48_method_27_code, exceptionTable := #[], attributes := #[] }
def k15m1 : Method := { name := "newLength", desc := "(III)I", sig := { parameters := [.int, .int, .int], returnType := some .int }, accessFlags := 9, code := some k15c1 }
/-- jdk/internal/util/ArraysSupport -/
def k15 : Class := { plain "jdk/internal/util/ArraysSupport" (some 0) with
  accessFlags := 33
  interfaces := #[]
  cf := some (fileOf pool15 21 #[] #[{ accessFlags := 2, nameIndex := 9, descriptorIndex := 19, attributes := #[] }, { accessFlags := 9, nameIndex := 351, descriptorIndex := 352, attributes := #[] }] 33 16 #[] #[{ accessFlags := 24, nameIndex := 28, descriptorIndex := 29, attributes := #[] }, { accessFlags := 26, nameIndex := 38, descriptorIndex := 39, attributes := #[] }, { accessFlags := 25, nameIndex := 121, descriptorIndex := 25, attributes := #[] }, { accessFlags := 25, nameIndex := 131, descriptorIndex := 25, attributes := #[] }, { accessFlags := 25, nameIndex := 137, descriptorIndex := 25, attributes := #[] }, { accessFlags := 25, nameIndex := 143, descriptorIndex := 25, attributes := #[] }, { accessFlags := 25, nameIndex := 53, descriptorIndex := 25, attributes := #[] }, { accessFlags := 25, nameIndex := 24, descriptorIndex := 25, attributes := #[] }, { accessFlags := 25, nameIndex := 162, descriptorIndex := 25, attributes := #[] }, { accessFlags := 25, nameIndex := 187, descriptorIndex := 25, attributes := #[] }, { accessFlags := 26, nameIndex := 48, descriptorIndex := 25, attributes := #[] }, { accessFlags := 25, nameIndex := 277, descriptorIndex := 25, attributes := #[] }, { accessFlags := 25, nameIndex := 280, descriptorIndex := 25, attributes := #[] }, { accessFlags := 25, nameIndex := 282, descriptorIndex := 25, attributes := #[] }, { accessFlags := 25, nameIndex := 284, descriptorIndex := 25, attributes := #[] }, { accessFlags := 25, nameIndex := 286, descriptorIndex := 25, attributes := #[] }, { accessFlags := 25, nameIndex := 288, descriptorIndex := 25, attributes := #[] }, { accessFlags := 25, nameIndex := 290, descriptorIndex := 25, attributes := #[] }, { accessFlags := 25, nameIndex := 292, descriptorIndex := 25, attributes := #[] }, { accessFlags := 26, nameIndex := 108, descriptorIndex := 109, attributes := #[] }, { accessFlags := 25, nameIndex := 294, descriptorIndex := 25, attributes := #[] }])
  fields := #[{ name := "U", type := (.object "jdk/internal/misc/Unsafe"), accessFlags := 24, slot := 0, constantValue := 0 }, { name := "BIG_ENDIAN", type := .boolean, accessFlags := 26, slot := 1, constantValue := 0 }, { name := "LOG2_ARRAY_BOOLEAN_INDEX_SCALE", type := .int, accessFlags := 25, slot := 2, constantValue := 0 }, { name := "LOG2_ARRAY_BYTE_INDEX_SCALE", type := .int, accessFlags := 25, slot := 3, constantValue := 0 }, { name := "LOG2_ARRAY_CHAR_INDEX_SCALE", type := .int, accessFlags := 25, slot := 4, constantValue := 0 }, { name := "LOG2_ARRAY_SHORT_INDEX_SCALE", type := .int, accessFlags := 25, slot := 5, constantValue := 0 }, { name := "LOG2_ARRAY_INT_INDEX_SCALE", type := .int, accessFlags := 25, slot := 6, constantValue := 0 }, { name := "LOG2_ARRAY_LONG_INDEX_SCALE", type := .int, accessFlags := 25, slot := 7, constantValue := 0 }, { name := "LOG2_ARRAY_FLOAT_INDEX_SCALE", type := .int, accessFlags := 25, slot := 8, constantValue := 0 }, { name := "LOG2_ARRAY_DOUBLE_INDEX_SCALE", type := .int, accessFlags := 25, slot := 9, constantValue := 0 }, { name := "LOG2_BYTE_BIT_SIZE", type := .int, accessFlags := 26, slot := 10, constantValue := 0 }, { name := "T_BOOLEAN", type := .int, accessFlags := 25, slot := 11, constantValue := 0 }, { name := "T_CHAR", type := .int, accessFlags := 25, slot := 12, constantValue := 0 }, { name := "T_FLOAT", type := .int, accessFlags := 25, slot := 13, constantValue := 0 }, { name := "T_DOUBLE", type := .int, accessFlags := 25, slot := 14, constantValue := 0 }, { name := "T_BYTE", type := .int, accessFlags := 25, slot := 15, constantValue := 0 }, { name := "T_SHORT", type := .int, accessFlags := 25, slot := 16, constantValue := 0 }, { name := "T_INT", type := .int, accessFlags := 25, slot := 17, constantValue := 0 }, { name := "T_LONG", type := .int, accessFlags := 25, slot := 18, constantValue := 0 }, { name := "JLA", type := (.object "jdk/internal/access/JavaLangAccess"), accessFlags := 26, slot := 19, constantValue := 0 }, { name := "SOFT_MAX_ARRAY_LENGTH", type := .int, accessFlags := 25, slot := 20, constantValue := 0 }]
  methods := #[k15m0, k15m1]
  instanceTypes := #[]
  staticTypes := #[(.object "jdk/internal/misc/Unsafe"), .boolean, .int, .int, .int, .int, .int, .int, .int, .int, .int, .int, .int, .int, .int, .int, .int, .int, .int, (.object "jdk/internal/access/JavaLangAccess"), .int]
  resolved := Array.replicate 378 none
  statics := none }

def pool16 : Array CpInfo := pool [(1, .class_ 2), (0, u "java/lang/Math"), (1, .class_ 6), (1, u "java/lang/Object"), (0, u "<init>"), (0, u "()V"), (89, .class_ 100), (1, u "java/lang/Math$RandomNumberGeneratorHolder"), (23, u "abs"), (0, u "(J)J"), (46, u "negativeZeroFloatBits"), (0, u "J"), (2, u "negativeZeroDoubleBits"), (21, u "max"), (2, u "min"), (43, u "$assertionsDisabled"), (0, u "Z"), (88, u "(II)I"), (2, u "twoToTheDoubleScaleDown"), (0, u "D"), (4, u "twoToTheDoubleScaleUp"), (9, u "E"), (3, u "PI"), (2, u "TAU"), (2, u "DEGREES_TO_RADIANS"), (0, u "RADIANS_TO_DEGREES")] 94

def k16m0 : Method := { name := "<init>", desc := "()V", sig := { parameters := [], returnType := none }, accessFlags := 2, code := none }
def k16c1 : Code := { maxStack := 4, maxLocals := 2, code := jdk_29_method_61_code, exceptionTable := #[], attributes := #[] }
def k16m1 : Method := { name := "abs", desc := "(J)J", sig := { parameters := [.long], returnType := some .long }, accessFlags := 9, code := some k16c1 }
def k16c2 : Code := { maxStack := 2, maxLocals := 2, code := jdk_29_method_65_code, exceptionTable := #[], attributes := #[] }
def k16m2 : Method := { name := "max", desc := "(II)I", sig := { parameters := [.int, .int], returnType := some .int }, accessFlags := 9, code := some k16c2 }
def k16c3 : Code := { maxStack := 2, maxLocals := 2, code := jdk_29_method_69_code, exceptionTable := #[], attributes := #[] }
def k16m3 : Method := { name := "min", desc := "(II)I", sig := { parameters := [.int, .int], returnType := some .int }, accessFlags := 9, code := some k16c3 }
/-- java/lang/Math -/
def k16 : Class := { plain "java/lang/Math" (some 0) with
  accessFlags := 49
  interfaces := #[]
  cf := some (fileOf pool16 1 #[.nestMembers #[98]] #[{ accessFlags := 2, nameIndex := 7, descriptorIndex := 8, attributes := #[] }, { accessFlags := 9, nameIndex := 124, descriptorIndex := 125, attributes := #[] }, { accessFlags := 9, nameIndex := 198, descriptorIndex := 335, attributes := #[] }, { accessFlags := 9, nameIndex := 201, descriptorIndex := 335, attributes := #[] }] 49 4 #[] #[{ accessFlags := 25, nameIndex := 354, descriptorIndex := 339, attributes := #[] }, { accessFlags := 25, nameIndex := 358, descriptorIndex := 339, attributes := #[] }, { accessFlags := 25, nameIndex := 361, descriptorIndex := 339, attributes := #[] }, { accessFlags := 26, nameIndex := 364, descriptorIndex := 339, attributes := #[] }, { accessFlags := 26, nameIndex := 365, descriptorIndex := 339, attributes := #[] }, { accessFlags := 26, nameIndex := 172, descriptorIndex := 173, attributes := #[] }, { accessFlags := 26, nameIndex := 176, descriptorIndex := 173, attributes := #[] }, { accessFlags := 8, nameIndex := 344, descriptorIndex := 339, attributes := #[] }, { accessFlags := 8, nameIndex := 338, descriptorIndex := 339, attributes := #[] }, { accessFlags := 4120, nameIndex := 245, descriptorIndex := 246, attributes := #[] }])
  fields := #[{ name := "E", type := .double, accessFlags := 25, slot := 0, constantValue := 0 }, { name := "PI", type := .double, accessFlags := 25, slot := 1, constantValue := 0 }, { name := "TAU", type := .double, accessFlags := 25, slot := 2, constantValue := 0 }, { name := "DEGREES_TO_RADIANS", type := .double, accessFlags := 26, slot := 3, constantValue := 0 }, { name := "RADIANS_TO_DEGREES", type := .double, accessFlags := 26, slot := 4, constantValue := 0 }, { name := "negativeZeroFloatBits", type := .long, accessFlags := 26, slot := 5, constantValue := 0 }, { name := "negativeZeroDoubleBits", type := .long, accessFlags := 26, slot := 6, constantValue := 0 }, { name := "twoToTheDoubleScaleUp", type := .double, accessFlags := 8, slot := 7, constantValue := 0 }, { name := "twoToTheDoubleScaleDown", type := .double, accessFlags := 8, slot := 8, constantValue := 0 }, { name := "$assertionsDisabled", type := .boolean, accessFlags := 4120, slot := 9, constantValue := 0 }]
  methods := #[k16m0, k16m1, k16m2, k16m3]
  instanceTypes := #[]
  staticTypes := #[.double, .double, .double, .double, .double, .long, .long, .double, .double, .boolean]
  resolved := Array.replicate 460 none
  statics := none }

def pool17 : Array CpInfo := pool [(2, .class_ 4), (1, u "java/lang/Object"), (0, u "<init>"), (0, u "()V"), (7, .class_ 16), (1, u "java/util/Arrays"), (57, .class_ 76), (1, u "java/util/Arrays$NaturalOrder"), (32, u "()Ljava/lang/Object;"), (3, .class_ 115), (1, u "java/util/Arrays$LegacyMergeSort"), (1, u "Z"), (10, .nameAndType 129 109), (0, u "clone"), (9, u "copyOfRange"), (10, .methodref 151 152), (0, .class_ 153), (0, .nameAndType 154 155), (0, u "java/lang/System"), (0, u "arraycopy"), (0, u "(Ljava/lang/Object;ILjava/lang/Object;II)V"), (146, u "copyOf"), (1, .methodref 305 306), (0, .class_ 307), (0, .nameAndType 308 309), (0, u "java/lang/Math"), (0, u "min"), (0, u "(II)I"), (0, .methodref 311 128), (0, .class_ 312), (0, u "[B"), (26, .methodref 14 340), (0, .nameAndType 341 342), (0, u "copyOfRangeByte"), (0, u "([BII)[B"), (0, .methodref 14 344), (0, .nameAndType 345 346), (0, u "checkLength"), (0, u "(II)V"), (28, .class_ 376), (0, u "java/util/Arrays$ArrayList"), (68, u "$assertionsDisabled"), (269, u "MIN_ARRAY_SORT_GRAN"), (0, u "I"), (2, u "INSERTIONSORT_THRESHOLD"), (149, u "([BI)[B"), (105, .class_ 976), (0, u "java/util/Arrays$ArrayItr")] 52

def k17m0 : Method := { name := "<init>", desc := "()V", sig := { parameters := [], returnType := none }, accessFlags := 2, code := none }
def k17c1 : Code := { maxStack := 6, maxLocals := 3, code := jdk_65_method_121_code, exceptionTable := #[], attributes := #[] }
def k17m1 : Method := { name := "copyOf", desc := "([BI)[B", sig := { parameters := [(.array .byte), .int], returnType := some (.array .byte) }, accessFlags := 9, code := some k17c1 }
def k17c2 : Code := { maxStack := 4, maxLocals := 2, code := jdk_65_method_131_code, exceptionTable := #[], attributes := #[] }
def k17m2 : Method := { name := "checkLength", desc := "(II)V", sig := { parameters := [.int, .int], returnType := none }, accessFlags := 10, code := some k17c2 }
def k17c3 : Code := { maxStack := 3, maxLocals := 3, code := jdk_65_method_132_code, exceptionTable := #[], attributes := #[] }
def k17m3 : Method := { name := "copyOfRange", desc := "([BII)[B", sig := { parameters := [(.array .byte), .int, .int], returnType := some (.array .byte) }, accessFlags := 9, code := some k17c3 }
def k17c4 : Code := { maxStack := 6, maxLocals := 5, code := jdk_65_method_133_code, exceptionTable := #[], attributes := #[] }
def k17m4 : Method := { name := "copyOfRangeByte", desc := "([BII)[B", sig := { parameters := [(.array .byte), .int, .int], returnType := some (.array .byte) }, accessFlags := 10, code := some k17c4 }
/-- java/util/Arrays -/
def k17 : Class := { plain "java/util/Arrays" (some 0) with
  accessFlags := 49
  interfaces := #[]
  cf := some (fileOf pool17 14 #[.nestMembers #[975, 375, 113, 74]] #[{ accessFlags := 2, nameIndex := 5, descriptorIndex := 6, attributes := #[] }, { accessFlags := 9, nameIndex := 302, descriptorIndex := 869, attributes := #[] }, { accessFlags := 10, nameIndex := 345, descriptorIndex := 346, attributes := #[] }, { accessFlags := 9, nameIndex := 139, descriptorIndex := 342, attributes := #[] }, { accessFlags := 10, nameIndex := 341, descriptorIndex := 342, attributes := #[] }] 49 2 #[] #[{ accessFlags := 26, nameIndex := 715, descriptorIndex := 716, attributes := #[] }, { accessFlags := 26, nameIndex := 719, descriptorIndex := 716, attributes := #[] }, { accessFlags := 4120, nameIndex := 445, descriptorIndex := 117, attributes := #[] }])
  fields := #[{ name := "MIN_ARRAY_SORT_GRAN", type := .int, accessFlags := 26, slot := 0, constantValue := 0 }, { name := "INSERTIONSORT_THRESHOLD", type := .int, accessFlags := 26, slot := 1, constantValue := 0 }, { name := "$assertionsDisabled", type := .boolean, accessFlags := 4120, slot := 2, constantValue := 0 }]
  methods := #[k17m0, k17m1, k17m2, k17m3, k17m4]
  instanceTypes := #[]
  staticTypes := #[.int, .int, .boolean]
  resolved := Array.replicate 1029 none
  statics := none }

def pool18 : Array CpInfo := pool [(1, .class_ 2), (0, u "java/lang/String"), (1, .class_ 6), (1, u "java/lang/Object"), (0, u "<init>"), (0, u "()V"), (0, .methodref 1 10), (0, .nameAndType 11 12), (0, u "checkIndex"), (0, u "(II)V"), (1, .class_ 16), (1, u "java/lang/StringLatin1"), (36, u "([BI)C"), (67, u "$assertionsDisabled"), (0, u "Z"), (98, .class_ 223), (1, u "java/lang/StringLatin1$LinesSpliterator"), (28, u "charAt"), (137, .class_ 391), (0, u "java/lang/StringLatin1$CharsSpliterator")] 3

def k18m0 : Method := { name := "<init>", desc := "()V", sig := { parameters := [], returnType := none }, accessFlags := 0, code := none }
def k18c1 : Code := { maxStack := 2, maxLocals := 2, code := jdk_43_method_2_code, exceptionTable := #[], attributes := #[] }
def k18m1 : Method := { name := "charAt", desc := "([BI)C", sig := { parameters := [(.array .byte), .int], returnType := some .char }, accessFlags := 9, code := some k18c1 }
/-- java/lang/StringLatin1 -/
def k18 : Class := { plain "java/lang/StringLatin1" (some 0) with
  accessFlags := 48
  interfaces := #[]
  cf := some (fileOf pool18 14 #[.nestMembers #[390, 221]] #[{ accessFlags := 0, nameIndex := 7, descriptorIndex := 8, attributes := #[] }, { accessFlags := 9, nameIndex := 252, descriptorIndex := 53, attributes := #[] }] 48 4 #[] #[{ accessFlags := 4120, nameIndex := 121, descriptorIndex := 122, attributes := #[] }])
  fields := #[{ name := "$assertionsDisabled", type := .boolean, accessFlags := 4120, slot := 0, constantValue := 0 }]
  methods := #[k18m0, k18m1]
  instanceTypes := #[]
  staticTypes := #[.boolean]
  resolved := Array.replicate 395 none
  statics := none }

def pool19 : Array CpInfo := pool [(2, .class_ 4), (1, u "java/lang/Object"), (0, u "<init>"), (0, u "()V"), (17, .class_ 26), (1, u "jdk/internal/util/Preconditions"), (6, u "checkIndex"), (21, .class_ 56), (0, u "jdk/internal/util/Preconditions$4"), (57, .class_ 115), (0, u "jdk/internal/util/Preconditions$1"), (7, u "SIOOBE_FORMATTER"), (0, u "Ljava/util/function/BiFunction;"), (0, .class_ 126), (0, u "jdk/internal/util/Preconditions$2"), (3, u "AIOOBE_FORMATTER"), (0, .class_ 132), (0, u "jdk/internal/util/Preconditions$3"), (3, u "IOOBE_FORMATTER"), (41, u "(IILjava/util/function/BiFunction;)I")] 15

def k19m0 : Method := { name := "<init>", desc := "()V", sig := { parameters := [], returnType := none }, accessFlags := 1, code := none }
def k19c1 : Code := { maxStack := 3, maxLocals := 3, code := jdk_41_method_11_code, exceptionTable := #[], attributes := #[] }
def k19m1 : Method := { name := "checkIndex", desc := "(IILjava/util/function/BiFunction;)I", sig := { parameters := [.int, .int, (.object "java/util/function/BiFunction")], returnType := some .int }, accessFlags := 9, code := some k19c1 }
/-- jdk/internal/util/Preconditions -/
def k19 : Class := { plain "jdk/internal/util/Preconditions" (some 0) with
  accessFlags := 33
  interfaces := #[]
  cf := some (fileOf pool19 24 #[.nestMembers #[55, 131, 125, 114]] #[{ accessFlags := 1, nameIndex := 5, descriptorIndex := 6, attributes := #[] }, { accessFlags := 9, nameIndex := 33, descriptorIndex := 178, attributes := #[] }] 33 2 #[] #[{ accessFlags := 25, nameIndex := 123, descriptorIndex := 124, attributes := #[] }, { accessFlags := 25, nameIndex := 130, descriptorIndex := 124, attributes := #[] }, { accessFlags := 25, nameIndex := 136, descriptorIndex := 124, attributes := #[] }])
  fields := #[{ name := "SIOOBE_FORMATTER", type := (.object "java/util/function/BiFunction"), accessFlags := 25, slot := 0, constantValue := 0 }, { name := "AIOOBE_FORMATTER", type := (.object "java/util/function/BiFunction"), accessFlags := 25, slot := 1, constantValue := 0 }, { name := "IOOBE_FORMATTER", type := (.object "java/util/function/BiFunction"), accessFlags := 25, slot := 2, constantValue := 0 }]
  methods := #[k19m0, k19m1]
  instanceTypes := #[]
  staticTypes := #[(.object "java/util/function/BiFunction"), (.object "java/util/function/BiFunction"), (.object "java/util/function/BiFunction")]
  resolved := Array.replicate 194 none
  statics := some 2 }

def pool20 : Array CpInfo := pool [(6, .class_ 8), (1, u "java/lang/Object"), (0, u "<init>"), (0, u "()V"), (1, .class_ 14), (1, u "java/lang/StringUTF16"), (31, u "$assertionsDisabled"), (0, u "Z"), (13, u "HI_BYTE_SHIFT"), (0, u "I"), (2, u "LO_BYTE_SHIFT"), (49, .methodref 12 116), (0, .nameAndType 117 118), (0, u "compress"), (0, u "([CI[BII)I"), (3, u "([CII)[B"), (138, u "coderFromArrayLen"), (0, u "([BI)B"), (106, .class_ 371), (1, u "java/lang/StringUTF16$LinesSpliterator"), (58, u "MAX_LENGTH"), (196, .class_ 628), (0, u "java/lang/StringUTF16$CodePointsSpliterator"), (0, .class_ 630), (0, u "java/lang/StringUTF16$CharsSpliterator")] 4

def k20m0 : Method := { name := "<init>", desc := "()V", sig := { parameters := [], returnType := none }, accessFlags := 0, code := none }
def k20c1 : Code := { maxStack := 2, maxLocals := 2, code := jdk_52_method_15_code, exceptionTable := #[], attributes := #[] }
def k20m1 : Method := { name := "coderFromArrayLen", desc := "([BI)B", sig := { parameters := [(.array .byte), .int], returnType := some .byte }, accessFlags := 8, code := some k20c1 }
def k20c2 : Code := { maxStack := 5, maxLocals := 6, code := jdk_52_method_16_code, exceptionTable := #[], attributes := #[] }
def k20m2 : Method := { name := "compress", desc := "([CII)[B", sig := { parameters := [(.array .char), .int, .int], returnType := some (.array .byte) }, accessFlags := 9, code := some k20c2 }
def k20c3 : Code := { maxStack := 3, maxLocals := 7, code := jdk_52_method_21_code, exceptionTable := #[], attributes := #[] }
def k20m3 : Method := { name := "compress", desc := "([CI[BII)I", sig := { parameters := [(.array .char), .int, (.array .byte), .int, .int], returnType := some .int }, accessFlags := 9, code := some k20c3 }
/-- java/lang/StringUTF16 -/
def k20 : Class := { plain "java/lang/StringUTF16" (some 0) with
  accessFlags := 48
  interfaces := #[]
  cf := some (fileOf pool20 12 #[.nestMembers #[627, 629, 369]] #[{ accessFlags := 0, nameIndex := 9, descriptorIndex := 10, attributes := #[] }, { accessFlags := 8, nameIndex := 261, descriptorIndex := 262, attributes := #[] }, { accessFlags := 9, nameIndex := 117, descriptorIndex := 122, attributes := #[] }, { accessFlags := 9, nameIndex := 117, descriptorIndex := 118, attributes := #[] }] 48 6 #[] #[{ accessFlags := 26, nameIndex := 61, descriptorIndex := 62, attributes := #[] }, { accessFlags := 26, nameIndex := 65, descriptorIndex := 62, attributes := #[] }, { accessFlags := 24, nameIndex := 430, descriptorIndex := 62, attributes := #[] }, { accessFlags := 4120, nameIndex := 46, descriptorIndex := 47, attributes := #[] }])
  fields := #[{ name := "HI_BYTE_SHIFT", type := .int, accessFlags := 26, slot := 0, constantValue := 0 }, { name := "LO_BYTE_SHIFT", type := .int, accessFlags := 26, slot := 1, constantValue := 0 }, { name := "MAX_LENGTH", type := .int, accessFlags := 24, slot := 2, constantValue := 0 }, { name := "$assertionsDisabled", type := .boolean, accessFlags := 4120, slot := 3, constantValue := 0 }]
  methods := #[k20m0, k20m1, k20m2, k20m3]
  instanceTypes := #[]
  staticTypes := #[.int, .int, .int, .boolean]
  resolved := Array.replicate 635 none
  statics := none }

def pool21 : Array CpInfo := pool [(1, .class_ 2), (0, u "java/lang/Cloneable"), (0, .class_ 4), (0, u "java/lang/Object")] 2

/-- java/lang/Cloneable -/
def k21 : Class := { plain "java/lang/Cloneable" (some 0) with
  accessFlags := 1537
  interfaces := #[]
  cf := some (fileOf pool21 1 #[] #[] 1537 3 #[] #[])
  fields := #[]
  methods := #[]
  instanceTypes := #[]
  staticTypes := #[]
  resolved := Array.replicate 7 none
  statics := none }

/-- the primitive byte -/
def k22 : Class := { plain "byte" none with kind := .primitive 'B', accessFlags := 0x411 }
/-- [B -/
def k23 : Class := { plain "[B" (some 0) with kind := .array 22 .byte, interfaces := #[21, 2], accessFlags := 1041 }

/-- the primitive char -/
def k24 : Class := { plain "char" none with kind := .primitive 'C', accessFlags := 0x411 }
/-- [C -/
def k25 : Class := { plain "[C" (some 0) with kind := .array 24 .char, interfaces := #[21, 2], accessFlags := 1041 }

/-- the primitive int -/
def k26 : Class := { plain "int" none with kind := .primitive 'I', accessFlags := 0x411 }
/-- [I -/
def k27 : Class := { plain "[I" (some 0) with kind := .array 26 .int, interfaces := #[21, 2], accessFlags := 1041 }

def heap : Heap := #[{ cls := 7, slots := #[.long 0, .int 1, .null, .int 0, .null, .int 0, .int 0], vm := .statics 7 },
  { cls := 14, slots := #[.int 0, .int 0, .null, .null, .ref 4, .ref 3, .int 0, .int 0, .long 0], vm := .statics 14 },
  { cls := 19, slots := #[.null, .null, .null], vm := .statics 19 },
  { cls := 23, slots := #[.int 48, .int 49, .int 50, .int 51, .int 52, .int 53, .int 54, .int 55, .int 56, .int 57, .int 48, .int 49, .int 50, .int 51, .int 52, .int 53, .int 54, .int 55, .int 56, .int 57, .int 48, .int 49, .int 50, .int 51, .int 52, .int 53, .int 54, .int 55, .int 56, .int 57, .int 48, .int 49, .int 50, .int 51, .int 52, .int 53, .int 54, .int 55, .int 56, .int 57, .int 48, .int 49, .int 50, .int 51, .int 52, .int 53, .int 54, .int 55, .int 56, .int 57, .int 48, .int 49, .int 50, .int 51, .int 52, .int 53, .int 54, .int 55, .int 56, .int 57, .int 48, .int 49, .int 50, .int 51, .int 52, .int 53, .int 54, .int 55, .int 56, .int 57, .int 48, .int 49, .int 50, .int 51, .int 52, .int 53, .int 54, .int 55, .int 56, .int 57, .int 48, .int 49, .int 50, .int 51, .int 52, .int 53, .int 54, .int 55, .int 56, .int 57, .int 48, .int 49, .int 50, .int 51, .int 52, .int 53, .int 54, .int 55, .int 56, .int 57], vm := .none },
  { cls := 23, slots := #[.int 48, .int 48, .int 48, .int 48, .int 48, .int 48, .int 48, .int 48, .int 48, .int 48, .int 49, .int 49, .int 49, .int 49, .int 49, .int 49, .int 49, .int 49, .int 49, .int 49, .int 50, .int 50, .int 50, .int 50, .int 50, .int 50, .int 50, .int 50, .int 50, .int 50, .int 51, .int 51, .int 51, .int 51, .int 51, .int 51, .int 51, .int 51, .int 51, .int 51, .int 52, .int 52, .int 52, .int 52, .int 52, .int 52, .int 52, .int 52, .int 52, .int 52, .int 53, .int 53, .int 53, .int 53, .int 53, .int 53, .int 53, .int 53, .int 53, .int 53, .int 54, .int 54, .int 54, .int 54, .int 54, .int 54, .int 54, .int 54, .int 54, .int 54, .int 55, .int 55, .int 55, .int 55, .int 55, .int 55, .int 55, .int 55, .int 55, .int 55, .int 56, .int 56, .int 56, .int 56, .int 56, .int 56, .int 56, .int 56, .int 56, .int 56, .int 57, .int 57, .int 57, .int 57, .int 57, .int 57, .int 57, .int 57, .int 57, .int 57], vm := .none }]
def classes : Array Class := #[k0, k1, k2, k3, k4, k5, k6, k7, k8, k9, k10, k11, k12, k13, k14, k15, k16, k17, k18, k19, k20, k21, k22, k23, k24, k25, k26, k27]
def interned : List (Array UInt16 × Addr) := []
def slotsUsed : Nat := 219
def theMethod : MethodId := ⟨1, 5⟩
def args0 : Array Value := #[.int 1, .int 2, .int 3, .int 4]
def aboutOver (below : List Frame) : State where
  vm := { classes := classes, interned := interned.toArray }
  heap := heap
  slotsUsed := slotsUsed
  threads := #[{ frames := .invoking theMethod args0 :: below }]
def below0 : List Frame := [.native { method := ⟨0, 0⟩, args := #[] }]
def about1 : State := aboutOver below0
def p0 : Program := .bare "" "" ""
def e0 : Env := launch0.env 0 0 0
theorem w_frames : about1.frames = Frame.invoking theMethod args0 :: below0 := rfl
set_option maxRecDepth 65536 in
theorem w_args : argsFit about1.vm theMethod args0 = true := by decide +kernel
set_option maxRecDepth 65536 in
theorem w_heap : heapFits about1 = true := by decide +kernel
set_option maxRecDepth 65536 in
theorem w_runnable : about1.curStatus? = some .runnable := by decide +kernel
set_option maxRecDepth 65536 in
theorem w_alone : about1.alone = true := by decide +kernel
set_option maxRecDepth 65536 in
theorem w_named : about1.methodNamed? x = some theMethod := by decide +kernel
set_option maxRecDepth 65536 in
theorem w_hears : about1.hears theMethod below0 = true := by decide +kernel
set_option maxRecDepth 65536 in
theorem w_ripe : about1.ripe theMethod args0 below0 = true := by decide +kernel
theorem w_running : about1.status = .running := rfl
set_option maxRecDepth 65536 in
theorem w_room : about1.hasRoom e0.platform room_1 = true :=
  launch0.hasRoom_least _ room_1 (by decide +kernel) (by decide +kernel) (by decide +kernel) (by decide +kernel) (by decide +kernel) (by decide +kernel)
theorem allAtoms_all (ts : List Jvm.Cond) (a : Array Jvm.Value) (st : Jvm.State) : (allAtoms ts).before a st = ts.all (fun c => c.before a st) := by
  induction ts with
  | nil => rfl
  | cons c t ih =>
    show (Jvm.Cond.and c (allAtoms t)).before a st = _
    rw [Jvm.Cond.before_and, ih, List.all_cons]
def words1 : List Jvm.Cond := Jvm.Cond.code x code maxLocals ret :: tables_1
/-- a 'code' word, met by the world's own term for the bytes: nothing is compared byte by byte -/
theorem code_word {y : MethodName} {bytes : ByteArray} {mx : Nat} {rt : Option FieldType} {a : Array Value} {s : State} {m : MethodId} {meth : Method} {c : Code} (h1 : s.methodNamed? y = some m) (h2 : s.vm.method? m = some meth) (h3 : meth.code = some c) (h4 : c.code = bytes)
    (h5 : (c.maxLocals == mx && c.exceptionTable.isEmpty && decide (c.maxStack ≤ mostOperands) && decide (meth.sig.returnType = rt) && !meth.locks && decide (parseMethodDescriptor y.desc = some meth.sig)) = true) : (Jvm.Cond.code y bytes mx rt).before a s = true := by
  simp only [Bool.and_eq_true, beq_iff_eq, Bool.not_eq_true', decide_eq_true_eq] at h5
  obtain ⟨⟨⟨⟨⟨g1, g2⟩, g3⟩, g4⟩, g5⟩, g6⟩ := h5
  simp [Cond.before, Cond.holds, Cond.value, h1, h2, h3, h4, g1, g2, g3, g4, g5, g6]
def isCode : Jvm.Cond → Bool
  | .code _ _ _ _ => true
  | _ => false
theorem all_split {L : List Jvm.Cond} {P : Jvm.Cond → Bool} (h1 : L.all (fun c => isCode c || P c) = true) (h2 : ∀ c ∈ L.filter isCode, P c = true) : L.all P = true := by
  refine List.all_eq_true.mpr fun c hc => ?_
  have h := List.all_eq_true.mp h1 c hc
  rcases Bool.eq_false_or_eq_true (isCode c) with hi | hi
  · exact h2 c (List.mem_filter.mpr ⟨hc, hi⟩)
  · simpa [hi] using h
set_option maxRecDepth 65536 in
theorem w_c0 : (Jvm.Cond.code x code maxLocals ret).before args0 about1 = true := code_word (m := ⟨1, 5⟩) (meth := k1m5) (c := k1c5) (by decide +kernel) rfl rfl rfl (by decide +kernel)
set_option maxRecDepth 65536 in
theorem w_c1 : (Jvm.Cond.code ({ cls := "java/lang/String", name := "<init>", desc := "([C)V" } : Jvm.MethodName) jdk_42_method_3_code (2 : Nat) (Option.none : Option Jvm.ClassFile.FieldType)).before args0 about1 = true := code_word (m := ⟨7, 1⟩) (meth := k7m1) (c := k7c1) (by decide +kernel) rfl rfl rfl (by decide +kernel)
set_option maxRecDepth 65536 in
theorem w_c2 : (Jvm.Cond.code ({ cls := "java/lang/String", name := "<init>", desc := "([CIILjava/lang/Void;)V" } : Jvm.MethodName) jdk_42_method_149_code (6 : Nat) (Option.none : Option Jvm.ClassFile.FieldType)).before args0 about1 = true := code_word (m := ⟨7, 6⟩) (meth := k7m6) (c := k7c6) (by decide +kernel) rfl rfl rfl (by decide +kernel)
set_option maxRecDepth 65536 in
theorem w_c3 : (Jvm.Cond.code ({ cls := "java/lang/Object", name := "<init>", desc := "()V" } : Jvm.MethodName) object_method_1_code (1 : Nat) (Option.none : Option Jvm.ClassFile.FieldType)).before args0 about1 = true := code_word (m := ⟨0, 0⟩) (meth := k0m0) (c := k0c0) (by decide +kernel) rfl rfl rfl (by decide +kernel)
set_option maxRecDepth 65536 in
theorem w_c4 : (Jvm.Cond.code ({ cls := "com/example/wirecall/wirecall/demo/User", name := "<init>", desc := "(ILjava/lang/String;)V" } : Jvm.MethodName) prog_20_method_2_code (3 : Nat) (Option.none : Option Jvm.ClassFile.FieldType)).before args0 about1 = true := code_word (m := ⟨8, 1⟩) (meth := k8m1) (c := k8c1) (by decide +kernel) rfl rfl rfl (by decide +kernel)
set_option maxRecDepth 65536 in
theorem w_c5 : (Jvm.Cond.code ({ cls := "com/example/wirecall/wirecall/demo/User", name := "toString", desc := "()Ljava/lang/String;" } : Jvm.MethodName) prog_20_method_7_code (1 : Nat) (Option.some (Jvm.ClassFile.FieldType.object "java/lang/String"))).before args0 about1 = true := code_word (m := ⟨8, 2⟩) (meth := k8m2) (c := k8c2) (by decide +kernel) rfl rfl rfl (by decide +kernel)
set_option maxRecDepth 65536 in
theorem w_c6 : (Jvm.Cond.code ({ cls := "java/lang/StringBuilder", name := "<init>", desc := "()V" } : Jvm.MethodName) jdk_67_method_1_code (1 : Nat) (Option.none : Option Jvm.ClassFile.FieldType)).before args0 about1 = true := code_word (m := ⟨11, 0⟩) (meth := k11m0) (c := k11c0) (by decide +kernel) rfl rfl rfl (by decide +kernel)
set_option maxRecDepth 65536 in
theorem w_c7 : (Jvm.Cond.code ({ cls := "java/lang/AbstractStringBuilder", name := "<init>", desc := "(I)V" } : Jvm.MethodName) jdk_68_method_2_code (2 : Nat) (Option.none : Option Jvm.ClassFile.FieldType)).before args0 about1 = true := code_word (m := ⟨10, 1⟩) (meth := k10m1) (c := k10c1) (by decide +kernel) rfl rfl rfl (by decide +kernel)
set_option maxRecDepth 65536 in
theorem w_c8 : (Jvm.Cond.code ({ cls := "java/lang/StringBuilder", name := "append", desc := "(Ljava/lang/String;)Ljava/lang/StringBuilder;" } : Jvm.MethodName) jdk_67_method_7_code (2 : Nat) (Option.some (Jvm.ClassFile.FieldType.object "java/lang/StringBuilder"))).before args0 about1 = true := code_word (m := ⟨11, 1⟩) (meth := k11m1) (c := k11c1) (by decide +kernel) rfl rfl rfl (by decide +kernel)
set_option maxRecDepth 65536 in
theorem w_c9 : (Jvm.Cond.code ({ cls := "java/lang/AbstractStringBuilder", name := "append", desc := "(Ljava/lang/String;)Ljava/lang/AbstractStringBuilder;" } : Jvm.MethodName) jdk_68_method_22_code (3 : Nat) (Option.some (Jvm.ClassFile.FieldType.object "java/lang/AbstractStringBuilder"))).before args0 about1 = true := code_word (m := ⟨10, 5⟩) (meth := k10m5) (c := k10c5) (by decide +kernel) rfl rfl rfl (by decide +kernel)
set_option maxRecDepth 65536 in
theorem w_c10 : (Jvm.Cond.code ({ cls := "java/lang/String", name := "length", desc := "()I" } : Jvm.MethodName) jdk_42_method_54_code (1 : Nat) (Option.some Jvm.ClassFile.FieldType.int)).before args0 about1 = true := code_word (m := ⟨7, 3⟩) (meth := k7m3) (c := k7c3) (by decide +kernel) rfl rfl rfl (by decide +kernel)
set_option maxRecDepth 65536 in
theorem w_c11 : (Jvm.Cond.code ({ cls := "java/lang/String", name := "coder", desc := "()B" } : Jvm.MethodName) jdk_42_method_152_code (1 : Nat) (Option.some Jvm.ClassFile.FieldType.byte)).before args0 about1 = true := code_word (m := ⟨7, 8⟩) (meth := k7m8) (c := k7c8) (by decide +kernel) rfl rfl rfl (by decide +kernel)
set_option maxRecDepth 65536 in
theorem w_c12 : (Jvm.Cond.code ({ cls := "java/lang/AbstractStringBuilder", name := "ensureCapacityInternal", desc := "(I)V" } : Jvm.MethodName) jdk_68_method_9_code (3 : Nat) (Option.none : Option Jvm.ClassFile.FieldType)).before args0 about1 = true := code_word (m := ⟨10, 3⟩) (meth := k10m3) (c := k10c3) (by decide +kernel) rfl rfl rfl (by decide +kernel)
set_option maxRecDepth 65536 in
theorem w_c13 : (Jvm.Cond.code ({ cls := "java/lang/AbstractStringBuilder", name := "putStringAt", desc := "(ILjava/lang/String;)V" } : Jvm.MethodName) jdk_68_method_73_code (3 : Nat) (Option.none : Option Jvm.ClassFile.FieldType)).before args0 about1 = true := code_word (m := ⟨10, 11⟩) (meth := k10m11) (c := k10c11) (by decide +kernel) rfl rfl rfl (by decide +kernel)
set_option maxRecDepth 65536 in
theorem w_c14 : (Jvm.Cond.code ({ cls := "java/lang/AbstractStringBuilder", name := "inflateIfNeededFor", desc := "(Ljava/lang/String;)V" } : Jvm.MethodName) jdk_68_method_71_code (2 : Nat) (Option.none : Option Jvm.ClassFile.FieldType)).before args0 about1 = true := code_word (m := ⟨10, 10⟩) (meth := k10m10) (c := k10c10) (by decide +kernel) rfl rfl rfl (by decide +kernel)
set_option maxRecDepth 65536 in
theorem w_c15 : (Jvm.Cond.code ({ cls := "java/lang/String", name := "getBytes", desc := "([BIB)V" } : Jvm.MethodName) jdk_42_method_147_code (4 : Nat) (Option.none : Option Jvm.ClassFile.FieldType)).before args0 about1 = true := code_word (m := ⟨7, 5⟩) (meth := k7m5) (c := k7c5) (by decide +kernel) rfl rfl rfl (by decide +kernel)
set_option maxRecDepth 65536 in
theorem w_c16 : (Jvm.Cond.code ({ cls := "java/lang/StringBuilder", name := "append", desc := "(I)Ljava/lang/StringBuilder;" } : Jvm.MethodName) jdk_67_method_15_code (2 : Nat) (Option.some (Jvm.ClassFile.FieldType.object "java/lang/StringBuilder"))).before args0 about1 = true := code_word (m := ⟨11, 2⟩) (meth := k11m2) (c := k11c2) (by decide +kernel) rfl rfl rfl (by decide +kernel)
set_option maxRecDepth 65536 in
theorem w_c17 : (Jvm.Cond.code ({ cls := "java/lang/AbstractStringBuilder", name := "append", desc := "(I)Ljava/lang/AbstractStringBuilder;" } : Jvm.MethodName) jdk_68_method_32_code (4 : Nat) (Option.some (Jvm.ClassFile.FieldType.object "java/lang/AbstractStringBuilder"))).before args0 about1 = true := code_word (m := ⟨10, 7⟩) (meth := k10m7) (c := k10c7) (by decide +kernel) rfl rfl rfl (by decide +kernel)
set_option maxRecDepth 65536 in
theorem w_c18 : (Jvm.Cond.code ({ cls := "java/lang/Integer", name := "stringSize", desc := "(I)I" } : Jvm.MethodName) jdk_33_method_13_code (4 : Nat) (Option.some Jvm.ClassFile.FieldType.int)).before args0 about1 = true := code_word (m := ⟨14, 1⟩) (meth := k14m1) (c := k14c1) (by decide +kernel) rfl rfl rfl (by decide +kernel)
set_option maxRecDepth 65536 in
theorem w_c19 : (Jvm.Cond.code ({ cls := "java/lang/AbstractStringBuilder", name := "isLatin1", desc := "()Z" } : Jvm.MethodName) jdk_68_method_68_code (1 : Nat) (Option.some Jvm.ClassFile.FieldType.boolean)).before args0 about1 = true := code_word (m := ⟨10, 9⟩) (meth := k10m9) (c := k10c9) (by decide +kernel) rfl rfl rfl (by decide +kernel)
set_option maxRecDepth 65536 in
theorem w_c20 : (Jvm.Cond.code ({ cls := "java/lang/Integer", name := "getChars", desc := "(II[B)I" } : Jvm.MethodName) jdk_33_method_12_code (7 : Nat) (Option.some Jvm.ClassFile.FieldType.int)).before args0 about1 = true := code_word (m := ⟨14, 0⟩) (meth := k14m0) (c := k14c0) (by decide +kernel) rfl rfl rfl (by decide +kernel)
set_option maxRecDepth 65536 in
theorem w_c21 : (Jvm.Cond.code ({ cls := "java/lang/AbstractStringBuilder", name := "newCapacity", desc := "(I)I" } : Jvm.MethodName) jdk_68_method_10_code (6 : Nat) (Option.some Jvm.ClassFile.FieldType.int)).before args0 about1 = true := code_word (m := ⟨10, 4⟩) (meth := k10m4) (c := k10c4) (by decide +kernel) rfl rfl rfl (by decide +kernel)
set_option maxRecDepth 65536 in
theorem w_c22 : (Jvm.Cond.code ({ cls := "jdk/internal/util/ArraysSupport", name := "newLength", desc := "(III)I" } : Jvm.MethodName) jdk_48_method_27_code (4 : Nat) (Option.some Jvm.ClassFile.FieldType.int)).before args0 about1 = true := code_word (m := ⟨15, 1⟩) (meth := k15m1) (c := k15c1) (by decide +kernel) rfl rfl rfl (by decide +kernel)
set_option maxRecDepth 65536 in
theorem w_c23 : (Jvm.Cond.code ({ cls := "java/lang/Math", name := "max", desc := "(II)I" } : Jvm.MethodName) jdk_29_method_65_code (2 : Nat) (Option.some Jvm.ClassFile.FieldType.int)).before args0 about1 = true := code_word (m := ⟨16, 2⟩) (meth := k16m2) (c := k16c2) (by decide +kernel) rfl rfl rfl (by decide +kernel)
set_option maxRecDepth 65536 in
theorem w_c24 : (Jvm.Cond.code ({ cls := "java/util/Arrays", name := "copyOf", desc := "([BI)[B" } : Jvm.MethodName) jdk_65_method_121_code (3 : Nat) (Option.some (Jvm.ClassFile.FieldType.array Jvm.ClassFile.FieldType.byte))).before args0 about1 = true := code_word (m := ⟨17, 1⟩) (meth := k17m1) (c := k17c1) (by decide +kernel) rfl rfl rfl (by decide +kernel)
set_option maxRecDepth 65536 in
theorem w_c25 : (Jvm.Cond.code ({ cls := "java/lang/Math", name := "min", desc := "(II)I" } : Jvm.MethodName) jdk_29_method_69_code (2 : Nat) (Option.some Jvm.ClassFile.FieldType.int)).before args0 about1 = true := code_word (m := ⟨16, 3⟩) (meth := k16m3) (c := k16c3) (by decide +kernel) rfl rfl rfl (by decide +kernel)
set_option maxRecDepth 65536 in
theorem w_c26 : (Jvm.Cond.code ({ cls := "java/lang/AbstractStringBuilder", name := "appendNull", desc := "()Ljava/lang/AbstractStringBuilder;" } : Jvm.MethodName) jdk_68_method_26_code (3 : Nat) (Option.some (Jvm.ClassFile.FieldType.object "java/lang/AbstractStringBuilder"))).before args0 about1 = true := code_word (m := ⟨10, 6⟩) (meth := k10m6) (c := k10c6) (by decide +kernel) rfl rfl rfl (by decide +kernel)
set_option maxRecDepth 65536 in
theorem w_c27 : (Jvm.Cond.code ({ cls := "java/lang/StringBuilder", name := "toString", desc := "()Ljava/lang/String;" } : Jvm.MethodName) jdk_67_method_42_code (1 : Nat) (Option.some (Jvm.ClassFile.FieldType.object "java/lang/String"))).before args0 about1 = true := code_word (m := ⟨11, 3⟩) (meth := k11m3) (c := k11c3) (by decide +kernel) rfl rfl rfl (by decide +kernel)
set_option maxRecDepth 65536 in
theorem w_c28 : (Jvm.Cond.code ({ cls := "java/lang/String", name := "<init>", desc := "(Ljava/lang/StringBuilder;)V" } : Jvm.MethodName) jdk_42_method_53_code (2 : Nat) (Option.none : Option Jvm.ClassFile.FieldType)).before args0 about1 = true := code_word (m := ⟨7, 2⟩) (meth := k7m2) (c := k7c2) (by decide +kernel) rfl rfl rfl (by decide +kernel)
set_option maxRecDepth 65536 in
theorem w_c29 : (Jvm.Cond.code ({ cls := "java/lang/String", name := "<init>", desc := "(Ljava/lang/AbstractStringBuilder;Ljava/lang/Void;)V" } : Jvm.MethodName) jdk_42_method_150_code (5 : Nat) (Option.none : Option Jvm.ClassFile.FieldType)).before args0 about1 = true := code_word (m := ⟨7, 7⟩) (meth := k7m7) (c := k7c7) (by decide +kernel) rfl rfl rfl (by decide +kernel)
set_option maxRecDepth 65536 in
theorem w_c30 : (Jvm.Cond.code ({ cls := "java/lang/AbstractStringBuilder", name := "getValue", desc := "()[B" } : Jvm.MethodName) jdk_68_method_64_code (1 : Nat) (Option.some (Jvm.ClassFile.FieldType.array Jvm.ClassFile.FieldType.byte))).before args0 about1 = true := code_word (m := ⟨10, 8⟩) (meth := k10m8) (c := k10c8) (by decide +kernel) rfl rfl rfl (by decide +kernel)
set_option maxRecDepth 65536 in
theorem w_c31 : (Jvm.Cond.code ({ cls := "java/lang/StringBuilder", name := "length", desc := "()I" } : Jvm.MethodName) jdk_67_method_93_code (1 : Nat) (Option.some Jvm.ClassFile.FieldType.int)).before args0 about1 = true := code_word (m := ⟨11, 4⟩) (meth := k11m4) (c := k11c4) (by decide +kernel) rfl rfl rfl (by decide +kernel)
set_option maxRecDepth 65536 in
theorem w_c32 : (Jvm.Cond.code ({ cls := "java/lang/AbstractStringBuilder", name := "length", desc := "()I" } : Jvm.MethodName) jdk_68_method_6_code (1 : Nat) (Option.some Jvm.ClassFile.FieldType.int)).before args0 about1 = true := code_word (m := ⟨10, 2⟩) (meth := k10m2) (c := k10c2) (by decide +kernel) rfl rfl rfl (by decide +kernel)
set_option maxRecDepth 65536 in
theorem w_c33 : (Jvm.Cond.code ({ cls := "java/util/Arrays", name := "copyOfRange", desc := "([BII)[B" } : Jvm.MethodName) jdk_65_method_132_code (3 : Nat) (Option.some (Jvm.ClassFile.FieldType.array Jvm.ClassFile.FieldType.byte))).before args0 about1 = true := code_word (m := ⟨17, 3⟩) (meth := k17m3) (c := k17c3) (by decide +kernel) rfl rfl rfl (by decide +kernel)
set_option maxRecDepth 65536 in
theorem w_c34 : (Jvm.Cond.code ({ cls := "java/util/Arrays", name := "copyOfRangeByte", desc := "([BII)[B" } : Jvm.MethodName) jdk_65_method_133_code (5 : Nat) (Option.some (Jvm.ClassFile.FieldType.array Jvm.ClassFile.FieldType.byte))).before args0 about1 = true := code_word (m := ⟨17, 4⟩) (meth := k17m4) (c := k17c4) (by decide +kernel) rfl rfl rfl (by decide +kernel)
set_option maxRecDepth 65536 in
theorem w_c35 : (Jvm.Cond.code ({ cls := "java/util/Arrays", name := "checkLength", desc := "(II)V" } : Jvm.MethodName) jdk_65_method_131_code (2 : Nat) (Option.none : Option Jvm.ClassFile.FieldType)).before args0 about1 = true := code_word (m := ⟨17, 2⟩) (meth := k17m2) (c := k17c2) (by decide +kernel) rfl rfl rfl (by decide +kernel)
set_option maxRecDepth 65536 in
theorem w_c36 : (Jvm.Cond.code ({ cls := "java/lang/Math", name := "abs", desc := "(J)J" } : Jvm.MethodName) jdk_29_method_61_code (2 : Nat) (Option.some Jvm.ClassFile.FieldType.long)).before args0 about1 = true := code_word (m := ⟨16, 1⟩) (meth := k16m1) (c := k16c1) (by decide +kernel) rfl rfl rfl (by decide +kernel)
set_option maxRecDepth 65536 in
theorem w_c37 : (Jvm.Cond.code ({ cls := "com/example/wirecall/wirecall/demo/UserToStringPinLaw", name := "digitCount", desc := "(J)I" } : Jvm.MethodName) method_3_code (2 : Nat) (Option.some Jvm.ClassFile.FieldType.int)).before args0 about1 = true := code_word (m := ⟨1, 2⟩) (meth := k1m2) (c := k1c2) (by decide +kernel) rfl rfl rfl (by decide +kernel)
set_option maxRecDepth 65536 in
theorem w_c38 : (Jvm.Cond.code ({ cls := "com/example/wirecall/wirecall/demo/UserToStringPinLaw", name := "ch", desc := "(Ljava/lang/String;IC)Z" } : Jvm.MethodName) method_2_code (3 : Nat) (Option.some Jvm.ClassFile.FieldType.boolean)).before args0 about1 = true := code_word (m := ⟨1, 1⟩) (meth := k1m1) (c := k1c1) (by decide +kernel) rfl rfl rfl (by decide +kernel)
set_option maxRecDepth 65536 in
theorem w_c39 : (Jvm.Cond.code ({ cls := "java/lang/String", name := "charAt", desc := "(I)C" } : Jvm.MethodName) jdk_42_method_56_code (2 : Nat) (Option.some Jvm.ClassFile.FieldType.char)).before args0 about1 = true := code_word (m := ⟨7, 4⟩) (meth := k7m4) (c := k7c4) (by decide +kernel) rfl rfl rfl (by decide +kernel)
set_option maxRecDepth 65536 in
theorem w_c40 : (Jvm.Cond.code ({ cls := "java/lang/String", name := "isLatin1", desc := "()Z" } : Jvm.MethodName) jdk_42_method_154_code (1 : Nat) (Option.some Jvm.ClassFile.FieldType.boolean)).before args0 about1 = true := code_word (m := ⟨7, 9⟩) (meth := k7m9) (c := k7c9) (by decide +kernel) rfl rfl rfl (by decide +kernel)
set_option maxRecDepth 65536 in
theorem w_c41 : (Jvm.Cond.code ({ cls := "java/lang/StringLatin1", name := "charAt", desc := "([BI)C" } : Jvm.MethodName) jdk_43_method_2_code (2 : Nat) (Option.some Jvm.ClassFile.FieldType.char)).before args0 about1 = true := code_word (m := ⟨18, 1⟩) (meth := k18m1) (c := k18c1) (by decide +kernel) rfl rfl rfl (by decide +kernel)
set_option maxRecDepth 65536 in
theorem w_c42 : (Jvm.Cond.code ({ cls := "java/lang/String", name := "checkIndex", desc := "(II)V" } : Jvm.MethodName) jdk_42_method_155_code (2 : Nat) (Option.none : Option Jvm.ClassFile.FieldType)).before args0 about1 = true := code_word (m := ⟨7, 10⟩) (meth := k7m10) (c := k7c10) (by decide +kernel) rfl rfl rfl (by decide +kernel)
set_option maxRecDepth 65536 in
theorem w_c43 : (Jvm.Cond.code ({ cls := "jdk/internal/util/Preconditions", name := "checkIndex", desc := "(IILjava/util/function/BiFunction;)I" } : Jvm.MethodName) jdk_41_method_11_code (3 : Nat) (Option.some Jvm.ClassFile.FieldType.int)).before args0 about1 = true := code_word (m := ⟨19, 1⟩) (meth := k19m1) (c := k19c1) (by decide +kernel) rfl rfl rfl (by decide +kernel)
set_option maxRecDepth 65536 in
theorem w_c44 : (Jvm.Cond.code ({ cls := "com/example/wirecall/wirecall/demo/UserToStringPinLaw", name := "digitOk", desc := "(Ljava/lang/String;IJII)Z" } : Jvm.MethodName) method_5_code (8 : Nat) (Option.some Jvm.ClassFile.FieldType.boolean)).before args0 about1 = true := code_word (m := ⟨1, 4⟩) (meth := k1m4) (c := k1c4) (by decide +kernel) rfl rfl rfl (by decide +kernel)
set_option maxRecDepth 65536 in
theorem w_c45 : (Jvm.Cond.code ({ cls := "com/example/wirecall/wirecall/demo/UserToStringPinLaw", name := "pow10", desc := "(I)J" } : Jvm.MethodName) method_4_code (1 : Nat) (Option.some Jvm.ClassFile.FieldType.long)).before args0 about1 = true := code_word (m := ⟨1, 3⟩) (meth := k1m3) (c := k1c3) (by decide +kernel) rfl rfl rfl (by decide +kernel)
set_option maxRecDepth 65536 in
theorem w_c46 : (Jvm.Cond.code ({ cls := "java/lang/StringUTF16", name := "compress", desc := "([CII)[B" } : Jvm.MethodName) jdk_52_method_16_code (6 : Nat) (Option.some (Jvm.ClassFile.FieldType.array Jvm.ClassFile.FieldType.byte))).before args0 about1 = true := code_word (m := ⟨20, 2⟩) (meth := k20m2) (c := k20c2) (by decide +kernel) rfl rfl rfl (by decide +kernel)
set_option maxRecDepth 65536 in
theorem w_c47 : (Jvm.Cond.code ({ cls := "java/lang/StringUTF16", name := "compress", desc := "([CI[BII)I" } : Jvm.MethodName) jdk_52_method_21_code (7 : Nat) (Option.some Jvm.ClassFile.FieldType.int)).before args0 about1 = true := code_word (m := ⟨20, 3⟩) (meth := k20m3) (c := k20c3) (by decide +kernel) rfl rfl rfl (by decide +kernel)
set_option maxRecDepth 65536 in
theorem w_c48 : (Jvm.Cond.code ({ cls := "java/lang/StringUTF16", name := "coderFromArrayLen", desc := "([BI)B" } : Jvm.MethodName) jdk_52_method_15_code (2 : Nat) (Option.some Jvm.ClassFile.FieldType.byte)).before args0 about1 = true := code_word (m := ⟨20, 1⟩) (meth := k20m1) (c := k20c1) (by decide +kernel) rfl rfl rfl (by decide +kernel)
set_option maxRecDepth 65536 in
theorem w_c49 : (Jvm.Cond.code ({ cls := "com/example/wirecall/wirecall/demo/User", name := "<init>", desc := "()V" } : Jvm.MethodName) prog_20_method_1_code (1 : Nat) (Option.none : Option Jvm.ClassFile.FieldType)).before args0 about1 = true := code_word (m := ⟨8, 0⟩) (meth := k8m0) (c := k8c0) (by decide +kernel) rfl rfl rfl (by decide +kernel)
def codes1 : List Jvm.Cond := [Jvm.Cond.code x code maxLocals ret, Jvm.Cond.code ({ cls := "java/lang/String", name := "<init>", desc := "([C)V" } : Jvm.MethodName) jdk_42_method_3_code (2 : Nat) (Option.none : Option Jvm.ClassFile.FieldType), Jvm.Cond.code ({ cls := "java/lang/String", name := "<init>", desc := "([CIILjava/lang/Void;)V" } : Jvm.MethodName) jdk_42_method_149_code (6 : Nat) (Option.none : Option Jvm.ClassFile.FieldType), Jvm.Cond.code ({ cls := "java/lang/Object", name := "<init>", desc := "()V" } : Jvm.MethodName) object_method_1_code (1 : Nat) (Option.none : Option Jvm.ClassFile.FieldType), Jvm.Cond.code ({ cls := "com/example/wirecall/wirecall/demo/User", name := "<init>", desc := "(ILjava/lang/String;)V" } : Jvm.MethodName) prog_20_method_2_code (3 : Nat) (Option.none : Option Jvm.ClassFile.FieldType), Jvm.Cond.code ({ cls := "com/example/wirecall/wirecall/demo/User", name := "toString", desc := "()Ljava/lang/String;" } : Jvm.MethodName) prog_20_method_7_code (1 : Nat) (Option.some (Jvm.ClassFile.FieldType.object "java/lang/String")), Jvm.Cond.code ({ cls := "java/lang/StringBuilder", name := "<init>", desc := "()V" } : Jvm.MethodName) jdk_67_method_1_code (1 : Nat) (Option.none : Option Jvm.ClassFile.FieldType), Jvm.Cond.code ({ cls := "java/lang/AbstractStringBuilder", name := "<init>", desc := "(I)V" } : Jvm.MethodName) jdk_68_method_2_code (2 : Nat) (Option.none : Option Jvm.ClassFile.FieldType), Jvm.Cond.code ({ cls := "java/lang/StringBuilder", name := "append", desc := "(Ljava/lang/String;)Ljava/lang/StringBuilder;" } : Jvm.MethodName) jdk_67_method_7_code (2 : Nat) (Option.some (Jvm.ClassFile.FieldType.object "java/lang/StringBuilder")), Jvm.Cond.code ({ cls := "java/lang/AbstractStringBuilder", name := "append", desc := "(Ljava/lang/String;)Ljava/lang/AbstractStringBuilder;" } : Jvm.MethodName) jdk_68_method_22_code (3 : Nat) (Option.some (Jvm.ClassFile.FieldType.object "java/lang/AbstractStringBuilder")), Jvm.Cond.code ({ cls := "java/lang/String", name := "length", desc := "()I" } : Jvm.MethodName) jdk_42_method_54_code (1 : Nat) (Option.some Jvm.ClassFile.FieldType.int), Jvm.Cond.code ({ cls := "java/lang/String", name := "coder", desc := "()B" } : Jvm.MethodName) jdk_42_method_152_code (1 : Nat) (Option.some Jvm.ClassFile.FieldType.byte), Jvm.Cond.code ({ cls := "java/lang/AbstractStringBuilder", name := "ensureCapacityInternal", desc := "(I)V" } : Jvm.MethodName) jdk_68_method_9_code (3 : Nat) (Option.none : Option Jvm.ClassFile.FieldType), Jvm.Cond.code ({ cls := "java/lang/AbstractStringBuilder", name := "putStringAt", desc := "(ILjava/lang/String;)V" } : Jvm.MethodName) jdk_68_method_73_code (3 : Nat) (Option.none : Option Jvm.ClassFile.FieldType), Jvm.Cond.code ({ cls := "java/lang/AbstractStringBuilder", name := "inflateIfNeededFor", desc := "(Ljava/lang/String;)V" } : Jvm.MethodName) jdk_68_method_71_code (2 : Nat) (Option.none : Option Jvm.ClassFile.FieldType), Jvm.Cond.code ({ cls := "java/lang/String", name := "getBytes", desc := "([BIB)V" } : Jvm.MethodName) jdk_42_method_147_code (4 : Nat) (Option.none : Option Jvm.ClassFile.FieldType), Jvm.Cond.code ({ cls := "java/lang/StringBuilder", name := "append", desc := "(I)Ljava/lang/StringBuilder;" } : Jvm.MethodName) jdk_67_method_15_code (2 : Nat) (Option.some (Jvm.ClassFile.FieldType.object "java/lang/StringBuilder")), Jvm.Cond.code ({ cls := "java/lang/AbstractStringBuilder", name := "append", desc := "(I)Ljava/lang/AbstractStringBuilder;" } : Jvm.MethodName) jdk_68_method_32_code (4 : Nat) (Option.some (Jvm.ClassFile.FieldType.object "java/lang/AbstractStringBuilder")), Jvm.Cond.code ({ cls := "java/lang/Integer", name := "stringSize", desc := "(I)I" } : Jvm.MethodName) jdk_33_method_13_code (4 : Nat) (Option.some Jvm.ClassFile.FieldType.int), Jvm.Cond.code ({ cls := "java/lang/AbstractStringBuilder", name := "isLatin1", desc := "()Z" } : Jvm.MethodName) jdk_68_method_68_code (1 : Nat) (Option.some Jvm.ClassFile.FieldType.boolean), Jvm.Cond.code ({ cls := "java/lang/Integer", name := "getChars", desc := "(II[B)I" } : Jvm.MethodName) jdk_33_method_12_code (7 : Nat) (Option.some Jvm.ClassFile.FieldType.int), Jvm.Cond.code ({ cls := "java/lang/AbstractStringBuilder", name := "newCapacity", desc := "(I)I" } : Jvm.MethodName) jdk_68_method_10_code (6 : Nat) (Option.some Jvm.ClassFile.FieldType.int), Jvm.Cond.code ({ cls := "jdk/internal/util/ArraysSupport", name := "newLength", desc := "(III)I" } : Jvm.MethodName) jdk_48_method_27_code (4 : Nat) (Option.some Jvm.ClassFile.FieldType.int), Jvm.Cond.code ({ cls := "java/lang/Math", name := "max", desc := "(II)I" } : Jvm.MethodName) jdk_29_method_65_code (2 : Nat) (Option.some Jvm.ClassFile.FieldType.int), Jvm.Cond.code ({ cls := "java/util/Arrays", name := "copyOf", desc := "([BI)[B" } : Jvm.MethodName) jdk_65_method_121_code (3 : Nat) (Option.some (Jvm.ClassFile.FieldType.array Jvm.ClassFile.FieldType.byte)), Jvm.Cond.code ({ cls := "java/lang/Math", name := "min", desc := "(II)I" } : Jvm.MethodName) jdk_29_method_69_code (2 : Nat) (Option.some Jvm.ClassFile.FieldType.int), Jvm.Cond.code ({ cls := "java/lang/AbstractStringBuilder", name := "appendNull", desc := "()Ljava/lang/AbstractStringBuilder;" } : Jvm.MethodName) jdk_68_method_26_code (3 : Nat) (Option.some (Jvm.ClassFile.FieldType.object "java/lang/AbstractStringBuilder")), Jvm.Cond.code ({ cls := "java/lang/StringBuilder", name := "toString", desc := "()Ljava/lang/String;" } : Jvm.MethodName) jdk_67_method_42_code (1 : Nat) (Option.some (Jvm.ClassFile.FieldType.object "java/lang/String")), Jvm.Cond.code ({ cls := "java/lang/String", name := "<init>", desc := "(Ljava/lang/StringBuilder;)V" } : Jvm.MethodName) jdk_42_method_53_code (2 : Nat) (Option.none : Option Jvm.ClassFile.FieldType), Jvm.Cond.code ({ cls := "java/lang/String", name := "<init>", desc := "(Ljava/lang/AbstractStringBuilder;Ljava/lang/Void;)V" } : Jvm.MethodName) jdk_42_method_150_code (5 : Nat) (Option.none : Option Jvm.ClassFile.FieldType), Jvm.Cond.code ({ cls := "java/lang/AbstractStringBuilder", name := "getValue", desc := "()[B" } : Jvm.MethodName) jdk_68_method_64_code (1 : Nat) (Option.some (Jvm.ClassFile.FieldType.array Jvm.ClassFile.FieldType.byte)), Jvm.Cond.code ({ cls := "java/lang/StringBuilder", name := "length", desc := "()I" } : Jvm.MethodName) jdk_67_method_93_code (1 : Nat) (Option.some Jvm.ClassFile.FieldType.int), Jvm.Cond.code ({ cls := "java/lang/AbstractStringBuilder", name := "length", desc := "()I" } : Jvm.MethodName) jdk_68_method_6_code (1 : Nat) (Option.some Jvm.ClassFile.FieldType.int), Jvm.Cond.code ({ cls := "java/util/Arrays", name := "copyOfRange", desc := "([BII)[B" } : Jvm.MethodName) jdk_65_method_132_code (3 : Nat) (Option.some (Jvm.ClassFile.FieldType.array Jvm.ClassFile.FieldType.byte)), Jvm.Cond.code ({ cls := "java/util/Arrays", name := "copyOfRangeByte", desc := "([BII)[B" } : Jvm.MethodName) jdk_65_method_133_code (5 : Nat) (Option.some (Jvm.ClassFile.FieldType.array Jvm.ClassFile.FieldType.byte)), Jvm.Cond.code ({ cls := "java/util/Arrays", name := "checkLength", desc := "(II)V" } : Jvm.MethodName) jdk_65_method_131_code (2 : Nat) (Option.none : Option Jvm.ClassFile.FieldType), Jvm.Cond.code ({ cls := "java/lang/Math", name := "abs", desc := "(J)J" } : Jvm.MethodName) jdk_29_method_61_code (2 : Nat) (Option.some Jvm.ClassFile.FieldType.long), Jvm.Cond.code ({ cls := "com/example/wirecall/wirecall/demo/UserToStringPinLaw", name := "digitCount", desc := "(J)I" } : Jvm.MethodName) method_3_code (2 : Nat) (Option.some Jvm.ClassFile.FieldType.int), Jvm.Cond.code ({ cls := "com/example/wirecall/wirecall/demo/UserToStringPinLaw", name := "ch", desc := "(Ljava/lang/String;IC)Z" } : Jvm.MethodName) method_2_code (3 : Nat) (Option.some Jvm.ClassFile.FieldType.boolean), Jvm.Cond.code ({ cls := "java/lang/String", name := "charAt", desc := "(I)C" } : Jvm.MethodName) jdk_42_method_56_code (2 : Nat) (Option.some Jvm.ClassFile.FieldType.char), Jvm.Cond.code ({ cls := "java/lang/String", name := "isLatin1", desc := "()Z" } : Jvm.MethodName) jdk_42_method_154_code (1 : Nat) (Option.some Jvm.ClassFile.FieldType.boolean), Jvm.Cond.code ({ cls := "java/lang/StringLatin1", name := "charAt", desc := "([BI)C" } : Jvm.MethodName) jdk_43_method_2_code (2 : Nat) (Option.some Jvm.ClassFile.FieldType.char), Jvm.Cond.code ({ cls := "java/lang/String", name := "checkIndex", desc := "(II)V" } : Jvm.MethodName) jdk_42_method_155_code (2 : Nat) (Option.none : Option Jvm.ClassFile.FieldType), Jvm.Cond.code ({ cls := "jdk/internal/util/Preconditions", name := "checkIndex", desc := "(IILjava/util/function/BiFunction;)I" } : Jvm.MethodName) jdk_41_method_11_code (3 : Nat) (Option.some Jvm.ClassFile.FieldType.int), Jvm.Cond.code ({ cls := "com/example/wirecall/wirecall/demo/UserToStringPinLaw", name := "digitOk", desc := "(Ljava/lang/String;IJII)Z" } : Jvm.MethodName) method_5_code (8 : Nat) (Option.some Jvm.ClassFile.FieldType.boolean), Jvm.Cond.code ({ cls := "com/example/wirecall/wirecall/demo/UserToStringPinLaw", name := "pow10", desc := "(I)J" } : Jvm.MethodName) method_4_code (1 : Nat) (Option.some Jvm.ClassFile.FieldType.long), Jvm.Cond.code ({ cls := "java/lang/StringUTF16", name := "compress", desc := "([CII)[B" } : Jvm.MethodName) jdk_52_method_16_code (6 : Nat) (Option.some (Jvm.ClassFile.FieldType.array Jvm.ClassFile.FieldType.byte)), Jvm.Cond.code ({ cls := "java/lang/StringUTF16", name := "compress", desc := "([CI[BII)I" } : Jvm.MethodName) jdk_52_method_21_code (7 : Nat) (Option.some Jvm.ClassFile.FieldType.int), Jvm.Cond.code ({ cls := "java/lang/StringUTF16", name := "coderFromArrayLen", desc := "([BI)B" } : Jvm.MethodName) jdk_52_method_15_code (2 : Nat) (Option.some Jvm.ClassFile.FieldType.byte), Jvm.Cond.code ({ cls := "com/example/wirecall/wirecall/demo/User", name := "<init>", desc := "()V" } : Jvm.MethodName) prog_20_method_1_code (1 : Nat) (Option.none : Option Jvm.ClassFile.FieldType)]
set_option maxRecDepth 65536 in
theorem codes_eq : words1.filter isCode = codes1 := rfl
theorem w_codes : ∀ c ∈ words1.filter isCode, c.before args0 about1 = true := by
  rw [codes_eq]
  intro c hc
  simp only [codes1, List.mem_cons, List.not_mem_nil, or_false] at hc
  rcases hc with rfl | rfl | rfl | rfl | rfl | rfl | rfl | rfl | rfl | rfl | rfl | rfl | rfl | rfl | rfl | rfl | rfl | rfl | rfl | rfl | rfl | rfl | rfl | rfl | rfl | rfl | rfl | rfl | rfl | rfl | rfl | rfl | rfl | rfl | rfl | rfl | rfl | rfl | rfl | rfl | rfl | rfl | rfl | rfl | rfl | rfl | rfl | rfl | rfl | rfl
  · exact w_c0
  · exact w_c1
  · exact w_c2
  · exact w_c3
  · exact w_c4
  · exact w_c5
  · exact w_c6
  · exact w_c7
  · exact w_c8
  · exact w_c9
  · exact w_c10
  · exact w_c11
  · exact w_c12
  · exact w_c13
  · exact w_c14
  · exact w_c15
  · exact w_c16
  · exact w_c17
  · exact w_c18
  · exact w_c19
  · exact w_c20
  · exact w_c21
  · exact w_c22
  · exact w_c23
  · exact w_c24
  · exact w_c25
  · exact w_c26
  · exact w_c27
  · exact w_c28
  · exact w_c29
  · exact w_c30
  · exact w_c31
  · exact w_c32
  · exact w_c33
  · exact w_c34
  · exact w_c35
  · exact w_c36
  · exact w_c37
  · exact w_c38
  · exact w_c39
  · exact w_c40
  · exact w_c41
  · exact w_c42
  · exact w_c43
  · exact w_c44
  · exact w_c45
  · exact w_c46
  · exact w_c47
  · exact w_c48
  · exact w_c49
set_option maxRecDepth 65536 in
theorem w_t1 : (words1.take 24).all (fun c => isCode c || c.before args0 about1) = true := by decide +kernel
set_option maxRecDepth 65536 in
theorem w_t2 : ((words1.drop 24).take 24).all (fun c => isCode c || c.before args0 about1) = true := by decide +kernel
set_option maxRecDepth 65536 in
theorem w_t3 : (((words1.drop 24).drop 24).take 24).all (fun c => isCode c || c.before args0 about1) = true := by decide +kernel
set_option maxRecDepth 65536 in
theorem w_t4 : ((((words1.drop 24).drop 24).drop 24).take 24).all (fun c => isCode c || c.before args0 about1) = true := by decide +kernel
set_option maxRecDepth 65536 in
theorem w_t5 : (((((words1.drop 24).drop 24).drop 24).drop 24).take 24).all (fun c => isCode c || c.before args0 about1) = true := by decide +kernel
set_option maxRecDepth 65536 in
theorem w_t6 : ((((((words1.drop 24).drop 24).drop 24).drop 24).drop 24).take 24).all (fun c => isCode c || c.before args0 about1) = true := by decide +kernel
set_option maxRecDepth 65536 in
theorem w_t7 : (((((((words1.drop 24).drop 24).drop 24).drop 24).drop 24).drop 24).take 24).all (fun c => isCode c || c.before args0 about1) = true := by decide +kernel
set_option maxRecDepth 65536 in
theorem w_t8 : ((((((((words1.drop 24).drop 24).drop 24).drop 24).drop 24).drop 24).drop 24).take 24).all (fun c => isCode c || c.before args0 about1) = true := by decide +kernel
set_option maxRecDepth 65536 in
theorem w_t9 : (((((((((words1.drop 24).drop 24).drop 24).drop 24).drop 24).drop 24).drop 24).drop 24).take 24).all (fun c => isCode c || c.before args0 about1) = true := by decide +kernel
set_option maxRecDepth 65536 in
theorem w_t10 : ((((((((((words1.drop 24).drop 24).drop 24).drop 24).drop 24).drop 24).drop 24).drop 24).drop 24).take 24).all (fun c => isCode c || c.before args0 about1) = true := by decide +kernel
set_option maxRecDepth 65536 in
theorem w_t11 : ((((((((((words1.drop 24).drop 24).drop 24).drop 24).drop 24).drop 24).drop 24).drop 24).drop 24).drop 24).all (fun c => isCode c || c.before args0 about1) = true := by decide +kernel
theorem w_tables : (allAtoms (Jvm.Cond.code x code maxLocals ret :: tables_1)).before args0 about1 = true := by
  rw [allAtoms_all]
  show words1.all (fun c => c.before args0 about1) = true
  refine all_split ?_ w_codes
  rw [← List.take_append_drop 24 words1, List.all_append, w_t1, ← List.take_append_drop 24 (words1.drop 24), List.all_append, w_t2, ← List.take_append_drop 24 ((words1.drop 24).drop 24), List.all_append, w_t3, ← List.take_append_drop 24 (((words1.drop 24).drop 24).drop 24), List.all_append, w_t4, ← List.take_append_drop 24 ((((words1.drop 24).drop 24).drop 24).drop 24), List.all_append, w_t5, ← List.take_append_drop 24 (((((words1.drop 24).drop 24).drop 24).drop 24).drop 24), List.all_append, w_t6, ← List.take_append_drop 24 ((((((words1.drop 24).drop 24).drop 24).drop 24).drop 24).drop 24), List.all_append, w_t7, ← List.take_append_drop 24 (((((((words1.drop 24).drop 24).drop 24).drop 24).drop 24).drop 24).drop 24), List.all_append, w_t8, ← List.take_append_drop 24 ((((((((words1.drop 24).drop 24).drop 24).drop 24).drop 24).drop 24).drop 24).drop 24), List.all_append, w_t9, ← List.take_append_drop 24 (((((((((words1.drop 24).drop 24).drop 24).drop 24).drop 24).drop 24).drop 24).drop 24).drop 24), List.all_append, w_t10, w_t11]
  rfl
set_option maxRecDepth 65536 in
theorem w_rest : rest_1_c.before args0 about1 = true := by decide +kernel
set_option maxRecDepth 65536 in
theorem w_case : (Jvm.Cond.and given_1 narrow_1).before args0 about1 = true := by decide +kernel
set_option maxRecDepth 65536 in
theorem w_consts : constsHeld consts_1 about1 := Jvm.Lit.constsHeldB_iff.mp (by decide +kernel)
theorem w_applies : (headSpec (Jvm.Cond.code x code maxLocals ret :: tables_1) room_1).applies x e0.platform about1 = true :=
  (Spec.applies_iff w_frames).mpr ⟨w_running, w_runnable, w_alone, w_named, w_hears, w_ripe, w_room, w_tables⟩
theorem atStart : AtStart classFile x code maxLocals ret World_1 tables_1 room_1 Calls_1 rest_1 Pre_1 launch0 p0 e0 about1 theMethod args0 below0 :=
  ⟨lists_1, trivial, launch0.admits_env _ _ _, launch0.least_env, fairChoices_fair.cas, fairChoices_fair.clock, w_frames, w_args, w_heap, w_applies, ⟨w_consts, trivial⟩, w_rest, w_case⟩
end start1
theorem witness_1 : WitnessClaimed_1 := ⟨start1.p0, start1.e0, start1.about1, start1.theMethod, start1.args0, start1.below0, start1.atStart⟩
end Jvm.Pilot.@@N@@
