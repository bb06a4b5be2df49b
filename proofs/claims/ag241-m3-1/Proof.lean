import JvmDerived
import JvmDerived.Pilot.@@N@@Statement
import JvmDerived.Pilot.@@N@@Code
set_option linter.unusedVariables false
set_option linter.unusedSimpArgs false
@@BLOCK:LamKit.lean.txt@@
namespace Jvm.Pilot.@@N@@
open Jvm Jvm.ClassFile Sem Op Lib Jvm.Free Jvm.Stand Jvm.LawKit Jvm.RoadKit Bundle Jvm.Pilot.@@N@@.Jvm.D

/-- the run that stands at T with the top frame f ends, and its end is as P says -/
def Go (p : Program) (e : Env) (below : List Frame) (P : Outcome → State → Prop) (T : State) (f : JFrame) : Prop :=
  ∃ s₂ o, Steps p.tables e below (T.setTop f) s₂ ∧ s₂.status = .running ∧ Ended s₂ below o ∧ P o s₂
theorem Go.st {p : Program} {e : Env} {below : List Frame} {P : Outcome → State → Prop} {T T' : State} {f f' : JFrame}
    (h : ∀ t, Steps p.tables e below (T'.setTop f') t → Steps p.tables e below (T.setTop f) t) (k : Go p e below P T' f') : Go p e below P T f := by
  obtain ⟨s₂, o, a, b⟩ := k
  exact ⟨s₂, o, h _ a, b⟩
theorem Go.tr {p : Program} {e : Env} {below : List Frame} {P : Outcome → State → Prop} {T T' : State} {f f' : JFrame}
    (h : Steps p.tables e below (T.setTop f) (T'.setTop f')) (k : Go p e below P T' f') : Go p e below P T f := by
  obtain ⟨s₂, o, a, b⟩ := k
  exact ⟨s₂, o, h.trans a, b⟩
/-- what a contract says of the end -/
abbrev Done (s : State) (Q : Option Value → Heap → List Loc → Prop) (C S : Nat) (o : Outcome) (U' : State) : Prop :=
  ∃ v L, o = .returned v ∧ Q v U'.heap L ∧ FrameEnd s o U' L C S
theorem Go.ret {p : Program} {l : Launch} {e : Env} {R : Room} {s : State} {m : MethodId} {args : Array Value} {below : List Frame} {meth : Method} {c : Code} {T : State} {locs : List Loc} {cells slots : Nat} {h : Heap}
    {Q : Option Value → Heap → List Loc → Prop} {C S : Nat} {v : Option Value} {f : JFrame}
    (X : Stand p l e R s m args below meth c T locs cells slots) (hlk : meth.locks = false) (hv : meth.sig.returnType = none → v = none)
    (hs : ∀ fs, (∀ (f : JFrame) (acts : List Action), f.method = m → f.locked = none → f.entered = [] → (doReturn e (T.setTop f) acts v).1 = T.setFrames fs) → Steps p.tables e below (T.setTop f) (T.setFrames fs))
    (eT : T.heap = h) (hQ : Q v h locs) (hc : cells ≤ C) (hl : slots ≤ S) : Go p e below (Done s Q C S) T f := by
  obtain ⟨fs, hr, hrun, hended, hW, hsame⟩ := X.leave (v := v) hv hlk
  refine ⟨_, _, hs fs hr, hrun, hended, v, locs, rfl, ?_, ⟨_, rfl⟩, hW, hsame.mono hc hl⟩
  show Q v T.heap locs
  rw [eT]; exact hQ
theorem Go.retB {p : Program} {l : Launch} {e : Env} {R : Room} {s : State} {m : MethodId} {args : Array Value} {below : List Frame} {meth : Method} {c : Code} {T : State} {locs : List Loc} {cells slots : Nat} {h : Heap}
    {Q : Option Value → Heap → List Loc → Prop} {C S : Nat} {pc : Nat} {Ls : Array Slot} {z : Int32} {rest : List Value} {t : FieldType}
    (X : Stand p l e R s m args below meth c T locs cells slots) (hlk : meth.locks = false) (hx : p.tables.exec = Jvm.exec) (hret : meth.sig.returnType = some t) (ht : t = .boolean ∨ t = .byte ∨ t = .char ∨ t = .short)
    (hd : decode c.code pc = .ok (.ireturn, 1)) (eT : T.heap = h) (hQ : Q (some (.int (nar t z))) h locs) (hc : cells ≤ C) (hl : slots ≤ S) : Go p e below (Done s Q C S) T (mkF m pc Ls (.int z :: rest)) :=
  Go.ret X hlk (fun h => by rw [hret] at h; cases h) (fun _ hr => retN X hx hret ht hd hr) eT hQ hc hl
theorem Go.retV {p : Program} {l : Launch} {e : Env} {R : Room} {s : State} {m : MethodId} {args : Array Value} {below : List Frame} {meth : Method} {c : Code} {T : State} {locs : List Loc} {cells slots : Nat} {h : Heap}
    {Q : Option Value → Heap → List Loc → Prop} {C S : Nat} {pc : Nat} {Ls : Array Slot} {w : Value} {rest : List Value} {t : FieldType} {i : Instr}
    (X : Stand p l e R s m args below meth c T locs cells slots) (hlk : meth.locks = false) (hx : p.tables.exec = Jvm.exec) (hret : meth.sig.returnType = some t) (hn : narrow t w = w)
    (hi : (i = .ireturn ∧ (t = .int ∨ t = .boolean ∨ t = .byte ∨ t = .char ∨ t = .short) ∧ ∃ z, w = .int z) ∨ (i = .lreturn ∧ t = .long ∧ ∃ z, w = .long z) ∨ (i = .dreturn ∧ t = .double ∧ ∃ z, w = .double z) ∨ (i = .freturn ∧ t = .float ∧ ∃ z, w = .float z) ∨ (i = .areturn ∧ t.isReference = true ∧ w.isRef = true))
    (hd : decode c.code pc = .ok (i, 1)) (eT : T.heap = h) (hQ : Q (some w) h locs) (hc : cells ≤ C) (hl : slots ≤ S) : Go p e below (Done s Q C S) T (mkF m pc Ls (w :: rest)) :=
  Go.ret X hlk (fun h => by rw [hret] at h; cases h) (fun _ hr => retOut X hx hret hn hi hd hr) eT hQ hc hl
theorem Go.ret0 {p : Program} {l : Launch} {e : Env} {R : Room} {s : State} {m : MethodId} {args : Array Value} {below : List Frame} {meth : Method} {c : Code} {T : State} {locs : List Loc} {cells slots : Nat} {h : Heap}
    {Q : Option Value → Heap → List Loc → Prop} {C S : Nat} {pc : Nat} {Ls : Array Slot}
    (X : Stand p l e R s m args below meth c T locs cells slots) (hlk : meth.locks = false) (hx : p.tables.exec = Jvm.exec) (hret : meth.sig.returnType = none)
    (hd : decode c.code pc = .ok (.return_, 1)) (eT : T.heap = h) (hQ : Q none h locs) (hc : cells ≤ C) (hl : slots ≤ S) : Go p e below (Done s Q C S) T (mkF m pc Ls []) :=
  Go.ret X hlk (fun _ => rfl) (fun _ hr => X.returnOut hx hret hd hr) eT hQ hc hl
/-- an entry that stands resolved stays so, also where String constants are loaded -/
theorem own_fieldRef {Z : State} {vm1 : Vm} {a0 : Array Value} {own O n d : String} {index : Nat} (hW : Z.Warmed39 vm1) (w : (Cond.fieldRef own index O n d).before a0 Z = true) : (Cond.fieldRef own index O n d).before a0 (Z.setVm vm1) = true := by
  simp only [Cond.before, Cond.holds, Cond.value, State.vm_setVm, hW.alike.findClass, State.names_setVm hW.alike] at w ⊢
  cases q1 : Z.vm.findClass own with
  | none => rw [q1] at w; simp at w
  | some cO =>
    cases q2 : Z.fieldFound? O n d with
    | none => rw [q1, q2] at w; simp at w
    | some z =>
      obtain ⟨c1, k1, i1, f1⟩ := z
      obtain ⟨k2, q3, -⟩ := State.fieldFound?_setVm hW.alike q2
      rw [q1, q2] at w
      rw [q3]
      cases q4 : Z.resolvedAt? own index with
      | none => rw [q4] at w; simp at w
      | some r => rw [State.resolvedAt?_warmed39 hW q4]; rw [q4] at w; exact w
/-- getfield through an entry that stands resolved at the start (the word fieldRef) -/
theorem own_getR {p : Program} {l : Launch} {e : Env} {R : Room} {s : State} {m : MethodId} {args : Array Value} {below : List Frame} {meth : Method} {c : Code} {T : State} {locs : List Loc} {cells slots : Nat} {Z : State} {a0 : Array Value} {h : Heap}
    (X : Stand p l e R s m args below meth c T locs cells slots) (hx : p.tables.exec = Jvm.exec) (hZ : Z.Warmed39 s.vm) {own O n d : String} {index : Nat} (hown : s.vm.findClass own = some m.cls) (w : (Cond.fieldRef own index O n d).before a0 Z = true)
    (eT : T.heap = h) {a : Addr} {v : Value} (F : Fld Z h a O n d v) {g : JFrame} (hg : g.method = m) {rest : List Value} (hs : g.stack = .ref a :: rest) (hd : decode c.code g.pc = .ok (.getfield index, 3)) :
    ∃ T', Stand p l e R s m args below meth c T' locs cells slots ∧ T'.heap = h ∧ ∀ target, Steps p.tables e below (T'.setTop { g with pc := g.pc + 3, stack := v :: rest }) target → Steps p.tables e below (T.setTop g) target := by
  obtain ⟨cell, cf, k, i, f, h1, h2, h3, h4, -, -, h7⟩ := F
  have w1 : (Cond.fieldRef own index O n d).before args s = true := (own_fieldRef hZ w : (Cond.fieldRef own index O n d).before a0 (Z.setVm s.vm) = true)
  have w2 := Cond.fieldRef_warmed X.warmed w1
  obtain ⟨k1, r1, -⟩ := State.fieldFound?_setVm (s := Z) hZ.alike h2
  obtain ⟨k2, r2, -⟩ := State.fieldFound?_setVm (s := s) X.warmed.alike (show s.fieldFound? O n d = _ from r1)
  obtain ⟨c', k', i', f', q1, q2⟩ := Cond.fieldRef_spec (s := s.setVm T.vm) (cur := m.cls) (by rw [State.vm_setVm, X.warmed.alike.findClass]; exact hown) w2
  cases q1.symm.trans r2
  exact ⟨T, X, eT, fun target k => (X.getfieldR hx hg q2 h3 hs (by rw [eT]; exact h1) h4 h7 hd (Steps.refl _)).trans k⟩
/-- the form of every contract here -/
def Con (l : Launch) (Z : State) (y : MethodName) (bytes : ByteArray) (ml : Nat) (ret : Option FieldType) (ws : List Jvm.Cond) (room : Room) (A : Array Value) (h0 : Heap) (Q : Option Value → Heap → List Loc → Prop) : Prop :=
  MetFree l y (head1 (Jvm.Cond.code y bytes ml ret :: ws) room) (fun a U => a = A ∧ Z.Warmed39 U.vm ∧ U.heap = h0) (fun _ _ _ _ _ => True) (fun _ U o U' => ∃ v L, o = .returned v ∧ Q v U'.heap L ∧ FrameEnd U o U' L room.cells room.slots)
theorem own_body {l : Launch} {Z : State} {y : MethodName} {bytes : ByteArray} {ml : Nat} {ret : Option FieldType} {ws : List Jvm.Cond} {room : Room} {A : Array Value} {h0 : Heap} {Q : Option Value → Heap → List Loc → Prop} (hpn : plainFor y = true)
    (body : ∀ (p : Program) (e : Env) (s : State) (m : MethodId) (below : List Frame) (meth : Method) (c : Code) (s₁ : State), p.tables.exec = Jvm.exec → c.code = bytes → c.maxLocals = ml → Z.Warmed39 s.vm → s.vm.findClass y.cls = some m.cls → meth.name = y.name → meth.locks = false → meth.sig.returnType = ret →
      Stand p l e room s m A below meth c s₁ [] 0 0 → s₁.heap = h0 → Go p e below (Done s Q room.cells room.slots) s₁ (entryFrame m A ml)) : Con l Z y bytes ml ret ws room A h0 Q := by
  refine MetFree.of_bodySF hpn hisR ?_
  intro p e s m args below meth c s₁ Bd hml0 hP hK
  obtain ⟨rfl, hZ, hh⟩ := hP
  exact body p e s m below meth c s₁ Bd.exec Bd.bytes hml0 hZ (findClass_of_methodNamed Bd.named) (name_of_methodNamed Bd.named Bd.method).1 Bd.notSynchronized Bd.returns (Stand.of_body Bd) (by rw [← hh, Bd.state]; rfl)
theorem own_back {l : Launch} {R : Room} {p : Program} {e : Env} {below : List Frame} {s Z : State} {args a0 : Array Value} {h : Heap} {y : MethodName} {bytes : ByteArray} {maxL : Nat} {ret : Option FieldType} {rm : Room} {len W : Nat} {as' : Array Value} {Q : Option Value → Heap → List Loc → Prop}
    (hM : Con l Z y bytes maxL ret [] rm as' h Q) (hZ : Z.Warmed39 s.vm) (wc : (Cond.code y bytes maxL ret).before a0 Z = true) (wz : (Cond.initialized y.cls).before a0 Z = true) (hf : rm.frames + 1 ≤ R.frames) (hl : W + (maxL + 11) + rm.locals ≤ R.locals) :
    Back l R p e below s args y len W (fun A a => a = as' ∧ A.U.heap = h ∧ A.cells + rm.cells ≤ R.cells ∧ A.slots + rm.slots ≤ R.slots)
      (fun A _ v B => ∃ L, Q v B.U.heap L ∧ B.locs = A.locs ++ L ∧ B.cells = A.cells + rm.cells ∧ B.slots = A.slots + rm.slots) := backOf (Q := Q) hM hZ wc wz hf hl
theorem Con.weaken {l : Launch} {Z : State} {y : MethodName} {bytes : ByteArray} {ml : Nat} {ret : Option FieldType} {ws : List Jvm.Cond} {room : Room} {A : Array Value} {h0 : Heap} {Q Q' : Option Value → Heap → List Loc → Prop} (h : Con l Z y bytes ml ret ws room A h0 Q) (hq : ∀ v h L, Q v h L → Q' v h L) : Con l Z y bytes ml ret ws room A h0 Q' := fun p e h1 h2 h3 s m args below hf happ hP hK => by
  obtain ⟨n, o, a, b, c, v, L, d, e, f⟩ := h p e h1 h2 h3 s m args below hf happ hP hK
  exact ⟨n, o, a, b, c, v, L, d, hq _ _ _ e, f⟩
theorem own_cat {v : Value} (h : v.isRef = true) : v.category = 1 := by cases v <;> first | rfl | (simp [Value.isRef] at h)
theorem acYes {c : ClassFile.ACond} {x y : Value} (h : x = y) : acV c (decide (x = y)) = acV c true := by rw [decide_eq_true h]

theorem own_weaken {l : Launch} {x : MethodName} {S : Spec} {P : Array Value → State → Prop} {K : Program → Env → List Frame → State → Array Value → Prop} {Q Q' : Array Value → State → Outcome → State → Prop} (h : MetFree l x S P K Q) (hq : ∀ a s o t, Q a s o t → Q' a s o t) : MetFree l x S P K Q' := fun p e h1 h2 h3 s m args below hf happ hP hK => by
  obtain ⟨n, o, a, b, c, d⟩ := h p e h1 h2 h3 s m args below hf happ hP hK
  exact ⟨n, o, a, b, c, hq _ _ _ _ d⟩
section Start
variable {args : Array Value} {first s : State} {o : Option Outcome} {idx : List Nat} {t u : Term}
theorem own_eq_int {k : Int32} (h : (Jvm.Cond.eq t (.int k)).value args first o s idx = some true) : t.eval args first o idx s = some (.int k) := by
  simp only [Cond.value, Term.eval] at h
  cases ht : t.eval args first o idx s with
  | none => simp [ht] at h
  | some x => cases x <;> simp [ht] at h ⊢ <;> exact h
theorem own_eq_ref {a : Addr} (h : (Jvm.Cond.eq t u).value args first o s idx = some true) (hu : u.eval args first o idx s = some (.ref a)) : t.eval args first o idx s = some (.ref a) := by
  simp only [Cond.value] at h
  rw [hu] at h
  cases ht : t.eval args first o idx s with
  | none => simp [ht] at h
  | some x => cases x <;> simp [ht] at h ⊢ <;> exact h
theorem own_len {a : Addr} {cl : Cell} {z : Int32} (h : (Term.length t).eval args first o idx s = some (.int z)) (ht : t.eval args first o idx s = some (.ref a)) (hc : s.heap[a]? = some cl) : cl.slots.size < 2 ^ 31 ∧ cl.slots.size.toInt32 = z := by
  obtain ⟨a', cell, e1, e2, e3⟩ := Term.length_spec h
  cases ht.symm.trans e1
  have e4 := (State.arrayAt?_spec e2).1
  cases hc.symm.trans e4
  refine ⟨?_, (Value.int.inj e3).symm⟩
  by_cases hn : cl.slots.size < 2147483648
  · exact hn
  · simp only [Term.eval, Option.bind_eq_bind, ht, Option.bind_some, e2] at h
    rw [if_neg hn] at h; cases h
theorem own_ne_int {z : Int32} (h : (Jvm.Cond.not (Jvm.Cond.eq t (.int 0))).value args first o s idx = some true) (ht : t.eval args first o idx s = some (.int z)) : ¬ z = 0 := by
  have h1 := not_v h
  intro e
  subst e
  simp [Cond.value, Term.eval, ht] at h1
theorem own_fld {a : Addr} {C n d : String} {k : Int32} (h : (Jvm.Cond.eq (Term.field t C n d) (.int k)).value args s none s [] = some true) (ht : t.eval args s none [] s = some (.ref a)) : Fld s s.heap a C n d (.int k) :=
  Fld.start (by rw [← fld_at ht]; exact own_eq_int h)
theorem own_elem {a : Addr} {cl : Cell} {w : Addr} {j : Int32} {i : Nat} (h : (Jvm.Cond.eq (Term.elem t (.int j)) u).value args s none s [] = some true) (hu : u.eval args s none [] s = some (.ref w)) (ht : t.eval args s none [] s = some (.ref a)) (hc : s.heap[a]? = some cl) (hj : j.toNatClampNeg = i) : cl.slots[i]? = some (.ref w) := by
  subst hj
  exact (elem_in (own_eq_ref h hu) ht rfl hc).2
theorem own_eleI {a : Addr} {cl : Cell} {k j : Int32} {i : Nat} (h : (Jvm.Cond.eq (Term.elem t (.int j)) (.int k)).value args s none s [] = some true) (ht : t.eval args s none [] s = some (.ref a)) (hc : s.heap[a]? = some cl) (hj : j.toNatClampNeg = i) : cl.slots[i]? = some (.int k) := by
  subst hj
  exact (elem_in (own_eq_int h) ht rfl hc).2
end Start

/-- what a contract says of the end, where String constants may have been loaded -/
abbrev DoneW (s Z : State) (EL : List (String × Nat)) (Q : Option Value → Heap → List Loc → Prop) (C S : Nat) (o : Outcome) (U' : State) : Prop :=
  ∃ v L, o = .returned v ∧ Q v U'.heap L ∧ CHr Z EL s.vm s.heap U'.vm U'.heap ∧ ReturnedEndW s o U' L C S
theorem GoW.ret {p : Program} {l : Launch} {e : Env} {R : Room} {s Z : State} {a0 : Array Value} {EL : List (String × Nat)} {vm1 : Vm} {m : MethodId} {args : Array Value} {below : List Frame} {meth : Method} {c : Code} {T : State} {locs : List Loc} {cells slots : Nat} {h h0 : Heap} {k0 : Nat}
    {Q : Option Value → Heap → List Loc → Prop} {C S : Nat} {v : Option Value} {f : JFrame}
    (X : Stand p l e R (s.setVm vm1) m args below meth c T locs cells slots) (hlk : meth.locks = false) (hv : meth.sig.returnType = none → v = none)
    (hs : ∀ fs, (∀ (f : JFrame) (acts : List Action), f.method = m → f.locked = none → f.entered = [] → (doReturn e (T.setTop f) acts v).1 = T.setFrames fs) → Steps p.tables e below (T.setTop f) (T.setFrames fs))
    (eT : T.heap = h) (hS : s.Since vm1 k0) (hk : k0 ≤ h.size) (hZ : Z.Warmed39 vm1) (hEL : EW Z a0 EL) (cr : CHr Z EL s.vm h0 vm1 h) (hh : s.heap = h0) (hQ : Q v h locs) (hc : cells ≤ C) (hl : slots ≤ S) : Go p e below (DoneW s Z EL Q C S) T f := by
  obtain ⟨fs, hr, hrun, hended, hW⟩ := X.leaveW hS (by rw [eT]; exact hk) (v := v) hv hlk
  have cr2 := cr.trans (CHv.at X hZ hEL cr.1)
  subst eT hh
  exact ⟨_, _, hs fs hr, hrun, hended, v, locs, rfl, hQ, cr2, hW.1, hW.2.1, hW.2.2.1, hW.2.2.2.mono hc hl⟩
theorem GoW.retB {p : Program} {l : Launch} {e : Env} {R : Room} {s Z : State} {a0 : Array Value} {EL : List (String × Nat)} {vm1 : Vm} {m : MethodId} {args : Array Value} {below : List Frame} {meth : Method} {c : Code} {T : State} {locs : List Loc} {cells slots : Nat} {h h0 : Heap} {k0 : Nat}
    {Q : Option Value → Heap → List Loc → Prop} {C S : Nat} {pc : Nat} {Ls : Array Slot} {z : Int32} {rest : List Value} {t : FieldType}
    (X : Stand p l e R (s.setVm vm1) m args below meth c T locs cells slots) (hlk : meth.locks = false) (hx : p.tables.exec = Jvm.exec) (hret : meth.sig.returnType = some t) (ht : t = .boolean ∨ t = .byte ∨ t = .char ∨ t = .short)
    (hd : decode c.code pc = .ok (.ireturn, 1)) (eT : T.heap = h) (hS : s.Since vm1 k0) (hk : k0 ≤ h.size) (hZ : Z.Warmed39 vm1) (hEL : EW Z a0 EL) (cr : CHr Z EL s.vm h0 vm1 h) (hh : s.heap = h0) (hQ : Q (some (.int (nar t z))) h locs) (hc : cells ≤ C) (hl : slots ≤ S) : Go p e below (DoneW s Z EL Q C S) T (mkF m pc Ls (.int z :: rest)) :=
  GoW.ret X hlk (fun h => by rw [hret] at h; cases h) (fun _ hr => retN X hx hret ht hd hr) eT hS hk hZ hEL cr hh hQ hc hl
theorem GoW.retV {p : Program} {l : Launch} {e : Env} {R : Room} {s Z : State} {a0 : Array Value} {EL : List (String × Nat)} {vm1 : Vm} {m : MethodId} {args : Array Value} {below : List Frame} {meth : Method} {c : Code} {T : State} {locs : List Loc} {cells slots : Nat} {h h0 : Heap} {k0 : Nat}
    {Q : Option Value → Heap → List Loc → Prop} {C S : Nat} {pc : Nat} {Ls : Array Slot} {w : Value} {rest : List Value} {t : FieldType} {i : Instr}
    (X : Stand p l e R (s.setVm vm1) m args below meth c T locs cells slots) (hlk : meth.locks = false) (hx : p.tables.exec = Jvm.exec) (hret : meth.sig.returnType = some t) (hn : narrow t w = w)
    (hi : (i = .ireturn ∧ (t = .int ∨ t = .boolean ∨ t = .byte ∨ t = .char ∨ t = .short) ∧ ∃ z, w = .int z) ∨ (i = .lreturn ∧ t = .long ∧ ∃ z, w = .long z) ∨ (i = .dreturn ∧ t = .double ∧ ∃ z, w = .double z) ∨ (i = .freturn ∧ t = .float ∧ ∃ z, w = .float z) ∨ (i = .areturn ∧ t.isReference = true ∧ w.isRef = true))
    (hd : decode c.code pc = .ok (i, 1)) (eT : T.heap = h) (hS : s.Since vm1 k0) (hk : k0 ≤ h.size) (hZ : Z.Warmed39 vm1) (hEL : EW Z a0 EL) (cr : CHr Z EL s.vm h0 vm1 h) (hh : s.heap = h0) (hQ : Q (some w) h locs) (hc : cells ≤ C) (hl : slots ≤ S) : Go p e below (DoneW s Z EL Q C S) T (mkF m pc Ls (w :: rest)) :=
  GoW.ret X hlk (fun h => by rw [hret] at h; cases h) (fun _ hr => retOut X hx hret hn hi hd hr) eT hS hk hZ hEL cr hh hQ hc hl
theorem GoW.ret0 {p : Program} {l : Launch} {e : Env} {R : Room} {s Z : State} {a0 : Array Value} {EL : List (String × Nat)} {vm1 : Vm} {m : MethodId} {args : Array Value} {below : List Frame} {meth : Method} {c : Code} {T : State} {locs : List Loc} {cells slots : Nat} {h h0 : Heap} {k0 : Nat}
    {Q : Option Value → Heap → List Loc → Prop} {C S : Nat} {pc : Nat} {Ls : Array Slot}
    (X : Stand p l e R (s.setVm vm1) m args below meth c T locs cells slots) (hlk : meth.locks = false) (hx : p.tables.exec = Jvm.exec) (hret : meth.sig.returnType = none)
    (hd : decode c.code pc = .ok (.return_, 1)) (eT : T.heap = h) (hS : s.Since vm1 k0) (hk : k0 ≤ h.size) (hZ : Z.Warmed39 vm1) (hEL : EW Z a0 EL) (cr : CHr Z EL s.vm h0 vm1 h) (hh : s.heap = h0) (hQ : Q none h locs) (hc : cells ≤ C) (hl : slots ≤ S) : Go p e below (DoneW s Z EL Q C S) T (mkF m pc Ls []) :=
  GoW.ret X hlk (fun _ => rfl) (fun _ hr => X.returnOut hx hret hd hr) eT hS hk hZ hEL cr hh hQ hc hl
/-- the form of a contract of a body that may load String constants -/
def ConW (l : Launch) (Z : State) (EL : List (String × Nat)) (y : MethodName) (bytes : ByteArray) (ml : Nat) (ret : Option FieldType) (ws : List Jvm.Cond) (room : Room) (A : Array Value) (h0 : Heap) (Q : Option Value → Heap → List Loc → Prop) : Prop :=
  MetFree l y (head1 (Jvm.Cond.code y bytes ml ret :: ws) room) (fun a U => a = A ∧ Z.Warmed39 U.vm ∧ U.heap = h0 ∧ CHv Z EL U.vm h0) (fun _ _ _ _ _ => True) (fun _ U o U' => ∃ v L, o = .returned v ∧ Q v U'.heap L ∧ CHr Z EL U.vm U.heap U'.vm U'.heap ∧ ReturnedEndW U o U' L room.cells room.slots)
theorem own_bodyW {l : Launch} {Z : State} {EL : List (String × Nat)} {y : MethodName} {bytes : ByteArray} {ml : Nat} {ret : Option FieldType} {ws : List Jvm.Cond} {room : Room} {A : Array Value} {h0 : Heap} {Q : Option Value → Heap → List Loc → Prop} (hpn : plainFor y = true)
    (body : ∀ (p : Program) (e : Env) (s : State) (m : MethodId) (below : List Frame) (meth : Method) (c : Code) (s₁ : State), p.tables.exec = Jvm.exec → c.code = bytes → c.maxLocals = ml → Z.Warmed39 s.vm → s.vm.findClass y.cls = some m.cls → meth.name = y.name → meth.locks = false → meth.sig.returnType = ret →
      Stand p l e room (s.setVm s.vm) m A below meth c s₁ [] 0 0 → s₁.heap = h0 → s.heap = h0 → s.Since s.vm 0 → CHr Z EL s.vm h0 s.vm h0 → Go p e below (DoneW s Z EL Q room.cells room.slots) s₁ (entryFrame m A ml)) : ConW l Z EL y bytes ml ret ws room A h0 Q := by
  refine MetFree.of_bodySF hpn hisR ?_
  intro p e s m args below meth c s₁ Bd hml0 hP hK
  obtain ⟨rfl, hZ, hh, hC⟩ := hP
  exact body p e s m below meth c s₁ Bd.exec Bd.bytes hml0 hZ (findClass_of_methodNamed Bd.named) (name_of_methodNamed Bd.named Bd.method).1 Bd.notSynchronized Bd.returns (Stand.of_body Bd) (by rw [← hh, Bd.state]; rfl) hh ((State.WarmedH.refl s).since 0) (CHr.refl hC)
theorem own_backW {l : Launch} {R : Room} {p : Program} {e : Env} {below : List Frame} {s Z : State} {args a0 : Array Value} {EL : List (String × Nat)} {vm0 : Vm} {h : Heap} {y : MethodName} {bytes : ByteArray} {maxL : Nat} {ret : Option FieldType} {rm : Room} {len W : Nat} {as' : Array Value} {Q : Option Value → Heap → List Loc → Prop}
    (hM : ConW l Z EL y bytes maxL ret [] rm as' h Q) (hZ : Z.Warmed39 vm0) (wc : (Cond.code y bytes maxL ret).before a0 Z = true) (wz : (Cond.initialized y.cls).before a0 Z = true) (hf : rm.frames + 1 ≤ R.frames) (hl : W + (maxL + 11) + rm.locals ≤ R.locals) (hEL : EW Z a0 EL) (H : CHv Z EL vm0 h) :
    BackS l R p e below (s.setVm vm0) args y len W (fun A a => a = as' ∧ A.U.heap = h ∧ A.cells + rm.cells ≤ R.cells ∧ A.slots + rm.slots ≤ R.slots)
      (fun A _ v B => ∃ L, Q v B.U.heap L ∧ B.locs = A.locs ++ L ∧ B.cells = A.cells + rm.cells ∧ B.slots = A.slots + rm.slots ∧ CHr Z EL vm0 h B.U.vm B.U.heap) := backOfSH (Q := Q) hM hZ wc wz hf hl hEL H
/-- a String whose value is not yet written is no literal's -/
theorem own_safe0 {Z : State} {EL : List (String × Nat)} {vm : Vm} {h : Heap} {x : Addr} (hal : Z.vm.Alike vm) (E : Exa Z h x "java/lang/String") (F : Fld Z h x "java/lang/String" "value" "[B" .null) : Safe Z EL vm h x := fun B => by
  obtain ⟨cell, k, e1, e2, e3, -, -⟩ := E
  obtain ⟨cell', cf, kf, i, f, f1, f2, f3, -, -, -, f7⟩ := F
  cases e1.symm.trans f1
  obtain ⟨p, -, u, a, -, q, -, G, rfl | rfl⟩ := B
  · cases (show h[q.sa]? = some q.sC from G.ha).symm.trans e1
    obtain ⟨cS, ⟨⟨s1, s2, s3, ⟨cv, kv, iv, s4, s4'⟩, r5, s6, s7, s8, -⟩, -, -⟩, -⟩ := G
    obtain ⟨kv', z4⟩ := ff_back (Z := Z) (U := Wst Z vm h) hal s4
    cases f2.symm.trans z4
    have := s8.symm.trans f7
    cases this
  · cases (show h[q.sd]? = some q.SA from G.hd).symm.trans e1
    obtain ⟨cS, -, -, fB, -⟩ := G
    have fB' : Z.vm.findClass "[B" = some q.SA.cls := by rw [← hal.findClass]; exact fB
    exact ids_ne e2 fB' (by decide) rfl

theorem own_bodyN {l : Launch} {Z : State} {y : MethodName} {bytes : ByteArray} {ml : Nat} {ret : Option FieldType} {ws : List Jvm.Cond} {room : Room} {A : Array Value} {h0 : Heap} {Q : Option Value → Heap → List Loc → Prop} (hpn : plainFor y = true)
    (body : ∀ (p : Program) (e : Env) (s : State) (m : MethodId) (below : List Frame) (meth : Method) (c : Code) (s₁ : State), p.tables.exec = Jvm.exec → c.code = bytes → c.maxLocals = ml → Z.Warmed39 s.vm → s.vm.findClass y.cls = some m.cls → meth.name = y.name → meth.locks = false → meth.sig.returnType = ret →
      Stand p l e room s m A below meth c s₁ [] 0 0 → s₁.heap = h0 → s.methodNamed? y = some m → Go p e below (Done s Q room.cells room.slots) s₁ (entryFrame m A ml)) : Con l Z y bytes ml ret ws room A h0 Q := by
  refine MetFree.of_bodySF hpn hisR ?_
  intro p e s m args below meth c s₁ Bd hml0 hP hK
  obtain ⟨rfl, hZ, hh⟩ := hP
  exact body p e s m below meth c s₁ Bd.exec Bd.bytes hml0 hZ (findClass_of_methodNamed Bd.named) (name_of_methodNamed Bd.named Bd.method).1 Bd.notSynchronized Bd.returns (Stand.of_body Bd) (by rw [← hh, Bd.state]; rfl) Bd.named

abbrev mq0 : MethodName := ⟨"java/lang/StringUTF16", "compress", "([CI[BII)I"⟩
abbrev mq1 : MethodName := ⟨"java/lang/StringUTF16", "compress", "([CII)[B"⟩
abbrev mq2 : MethodName := ⟨"java/lang/StringUTF16", "coderFromArrayLen", "([BI)B"⟩
abbrev mq3 : MethodName := ⟨"java/lang/String", "<init>", "([CIILjava/lang/Void;)V"⟩
abbrev mq4 : MethodName := ⟨"java/lang/String", "<init>", "([C)V"⟩
abbrev mq5 : MethodName := ⟨"java/lang/StringLatin1", "equals", "([B[B)Z"⟩
abbrev mq6 : MethodName := ⟨"java/lang/String", "equals", "(Ljava/lang/Object;)Z"⟩
abbrev mq7 : MethodName := ⟨"com/example/naysay/naysay/access/Role", "values", "()[Lcom/example/naysay/naysay/access/Role;"⟩
abbrev mq8 : MethodName := ⟨"com/example/naysay/naysay/access/Role", "label", "()Ljava/lang/String;"⟩
abbrev mq9 : MethodName := ⟨"com/example/naysay/naysay/rules/Names", "find", "([Ljava/lang/Object;Ljava/util/function/Function;Ljava/lang/String;)Ljava/lang/Object;"⟩
abbrev mq10 : MethodName := ⟨"com/example/naysay/naysay/access/Role", "named", "(Ljava/lang/String;)Lcom/example/naysay/naysay/access/Role;"⟩
abbrev mq11 : MethodName := ⟨"com/example/naysay/naysay/access/RoleNamedPinLaw", "expected", "(Ljava/lang/String;)Lcom/example/naysay/naysay/access/Role;"⟩
abbrev mq12 : MethodName := ⟨"com/example/naysay/naysay/access/RoleNamedPinLaw", "base", "(IIII)[C"⟩
theorem ww {a0 : Array Value} {Z : State} (hw : ∀ d ∈ tables_1, d.before a0 Z = true) (i : Nat) {d : Jvm.Cond} (h : tables_1[i]? = some d) : d.before a0 Z = true := hw d (List.mem_of_getElem? h)

section Cps
variable {p : Program} {l : Launch} {e : Env} {R : Room} {s : State} {m : MethodId} {args : Array Value} {below : List Frame} {meth : Method} {c : Code} {T T' : State} {locs : List Loc} {cells slots : Nat} {Z : State} {a0 : Array Value} {h : Heap} {P : Outcome → State → Prop} {pc : Nat} {Ls : Array Slot} {Ss rest : List Value}
theorem zst (q : Nat) (L' : Array Slot) (S' : List Value) (st : ∀ t, Steps p.tables e below (T'.setTop (mkF m q L' S')) t → Steps p.tables e below (T.setTop (mkF m pc Ls Ss)) t) (g : Go p e below P T' (mkF m q L' S')) : Go p e below P T (mkF m pc Ls Ss) := Go.st st g
theorem zan (q : Nat) (X : Stand p l e R s m args below meth c T locs cells slots) (hx : p.tables.exec = Jvm.exec) {k : Fin 4} {v : Value} (hd : decode c.code pc = .ok (.aload_n k, 1)) (hl : Ls[k.val]? = some (.val v)) (hv : v.isRef = true) (g : Go p e below P T (mkF m q Ls (v :: Ss))) (hq : pc + 1 = q := by rfl) : Go p e below P T (mkF m pc Ls Ss) := by
  subst hq; exact Go.st (fun _ => XS.aloadN X.here hx rfl hd hl hv) g
theorem zal (q : Nat) (X : Stand p l e R s m args below meth c T locs cells slots) (hx : p.tables.exec = Jvm.exec) {k : Nat} {v : Value} (hd : decode c.code pc = .ok (.aload k, 2)) (hl : Ls[k]? = some (.val v)) (hv : v.isRef = true) (g : Go p e below P T (mkF m q Ls (v :: Ss))) (hq : pc + 2 = q := by rfl) : Go p e below P T (mkF m pc Ls Ss) := by
  subst hq; exact Go.st (fun _ => XS.aload X.here hx rfl hd hl hv) g
theorem zin (q : Nat) (X : Stand p l e R s m args below meth c T locs cells slots) (hx : p.tables.exec = Jvm.exec) {k : Fin 4} {v : Int32} (hd : decode c.code pc = .ok (.iload_n k, 1)) (hl : Ls[k.val]? = some (.val (.int v))) (g : Go p e below P T (mkF m q Ls (.int v :: Ss))) (hq : pc + 1 = q := by rfl) : Go p e below P T (mkF m pc Ls Ss) := by
  subst hq; exact Go.st (fun _ => XS.iloadN X.here hx rfl hd hl) g
theorem zil (q : Nat) (X : Stand p l e R s m args below meth c T locs cells slots) (hx : p.tables.exec = Jvm.exec) {k : Nat} {v : Int32} (hd : decode c.code pc = .ok (.iload k, 2)) (hl : Ls[k]? = some (.val (.int v))) (g : Go p e below P T (mkF m q Ls (.int v :: Ss))) (hq : pc + 2 = q := by rfl) : Go p e below P T (mkF m pc Ls Ss) := by
  subst hq; exact Go.st (fun _ => XS.iload X.here hx rfl hd hl) g
theorem zic (q : Nat) (z : Int32) (X : Stand p l e R s m args below meth c T locs cells slots) (hx : p.tables.exec = Jvm.exec) {i : Int} (hd : decode c.code pc = .ok (.iconst i, 1)) (g : Go p e below P T (mkF m q Ls (.int z :: Ss))) (hz : Int32.ofInt i = z := by decide) (hq : pc + 1 = q := by rfl) : Go p e below P T (mkF m pc Ls Ss) := by
  subst hq hz; exact Go.st (fun _ => XS.iconst X.here hx rfl hd) g
theorem zbp (q : Nat) (z : Int32) (X : Stand p l e R s m args below meth c T locs cells slots) (hx : p.tables.exec = Jvm.exec) {i : Int} (hd : decode c.code pc = .ok (.bipush i, 2)) (g : Go p e below P T (mkF m q Ls (.int z :: Ss))) (hz : (Int8.ofInt i).toInt32 = z := by decide) (hq : pc + 2 = q := by rfl) : Go p e below P T (mkF m pc Ls Ss) := by
  subst hq hz; exact Go.st (fun _ => XS.bipush X.here hx rfl hd) g
theorem zad (q : Nat) (X : Stand p l e R s m args below meth c T locs cells slots) (hx : p.tables.exec = Jvm.exec) {x y : Int32} (hd : decode c.code pc = .ok (.iadd, 1)) (g : Go p e below P T (mkF m q Ls (.int (x + y) :: rest))) (hq : pc + 1 = q := by rfl) : Go p e below P T (mkF m pc Ls (.int y :: .int x :: rest)) := by
  subst hq; exact Go.st (fun _ => XS.iadd X.here hx rfl hd rfl) g
theorem zsb (q : Nat) (X : Stand p l e R s m args below meth c T locs cells slots) (hx : p.tables.exec = Jvm.exec) {x y : Int32} (hd : decode c.code pc = .ok (.isub, 1)) (g : Go p e below P T (mkF m q Ls (.int (x - y) :: rest))) (hq : pc + 1 = q := by rfl) : Go p e below P T (mkF m pc Ls (.int y :: .int x :: rest)) := by
  subst hq; exact Go.st (fun _ => XS.isub X.here hx rfl hd rfl) g
theorem zsn (q : Nat) (L' : Array Slot) (X : Stand p l e R s m args below meth c T locs cells slots) (hx : p.tables.exec = Jvm.exec) {k : Fin 4} {x : Int32} (hd : decode c.code pc = .ok (.istore_n k, 1)) (g : Go p e below P T (mkF m q L' rest)) (hl : storeLocals Ls k.val (.int x) = some L' := by rfl) (hq : pc + 1 = q := by rfl) : Go p e below P T (mkF m pc Ls (.int x :: rest)) := by
  subst hq; exact Go.st (fun _ => XS.istoreN X.here hx rfl hd rfl hl) g
theorem zsl (q : Nat) (L' : Array Slot) (X : Stand p l e R s m args below meth c T locs cells slots) (hx : p.tables.exec = Jvm.exec) {k : Nat} {x : Int32} (hd : decode c.code pc = .ok (.istore k, 2)) (g : Go p e below P T (mkF m q L' rest)) (hl : storeLocals Ls k (.int x) = some L' := by rfl) (hq : pc + 2 = q := by rfl) : Go p e below P T (mkF m pc Ls (.int x :: rest)) := by
  subst hq; exact Go.st (fun _ => XS.istore X.here hx rfl hd rfl hl) g
theorem zrn (q : Nat) (L' : Array Slot) (X : Stand p l e R s m args below meth c T locs cells slots) (hx : p.tables.exec = Jvm.exec) {k : Fin 4} {x : Value} (hd : decode c.code pc = .ok (.astore_n k, 1)) (hv : x.isRef = true) (g : Go p e below P T (mkF m q L' rest)) (hl : storeLocals Ls k.val x = some L' := by rfl) (hq : pc + 1 = q := by rfl) : Go p e below P T (mkF m pc Ls (x :: rest)) := by
  subst hq; exact Go.st (fun _ => XS.astoreN X.here hx rfl hd rfl hv hl) g
theorem zrl (q : Nat) (L' : Array Slot) (X : Stand p l e R s m args below meth c T locs cells slots) (hx : p.tables.exec = Jvm.exec) {k : Nat} {x : Value} (hd : decode c.code pc = .ok (.astore k, 2)) (hv : x.isRef = true) (g : Go p e below P T (mkF m q L' rest)) (hl : storeLocals Ls k x = some L' := by rfl) (hq : pc + 2 = q := by rfl) : Go p e below P T (mkF m pc Ls (x :: rest)) := by
  subst hq; exact Go.st (fun _ => XS.astore X.here hx rfl hd rfl hv hl) g
theorem zii (q : Nat) (L' : Array Slot) (X : Stand p l e R s m args below meth c T locs cells slots) (hx : p.tables.exec = Jvm.exec) {k : Nat} {cst : Int} {x : Int32} (hd : decode c.code pc = .ok (.iinc k cst, 3)) (hl : Ls[k]? = some (.val (.int x))) (g : Go p e below P T (mkF m q L' Ss)) (hl' : storeLocals Ls k (.int (x + Int32.ofInt cst)) = some L' := by rfl) (hq : pc + 3 = q := by rfl) : Go p e below P T (mkF m pc Ls Ss) := by
  subst hq; exact Go.st (fun _ => XS.iinc X.here hx rfl hd hl hl') g
theorem zgo (q : Nat) (X : Stand p l e R s m args below meth c T locs cells slots) (hx : p.tables.exec = Jvm.exec) {o : Int} (hd : decode c.code pc = .ok (.goto o, 3)) (g : Go p e below P T (mkF m q Ls Ss)) (ho : 0 ≤ (pc : Int) + o := by decide) (hq : ((pc : Int) + o).toNat = q := by decide) : Go p e below P T (mkF m pc Ls Ss) :=
  Go.st (fun _ => XS.goto X.here hx rfl (pc0 := pc) (pc' := q) rfl hd ho hq) g
theorem zcy (q : Nat) (X : Stand p l e R s m args below meth c T locs cells slots) (hx : p.tables.exec = Jvm.exec) {cd : ClassFile.Cond} {x y : Int32} {o : Int} (hd : decode c.code pc = .ok (.if_icmp cd o, 3)) (hc : if_icmp.holds cd x y = true) (g : Go p e below P T (mkF m q Ls rest)) (ho : 0 ≤ (pc : Int) + o := by decide) (hq : ((pc : Int) + o).toNat = q := by decide) : Go p e below P T (mkF m pc Ls (.int y :: .int x :: rest)) :=
  Go.st (fun _ => XS.icmpYes X.here hx rfl (pc0 := pc) (pc' := q) rfl hd rfl hc ho hq) g
theorem zcn (q : Nat) (X : Stand p l e R s m args below meth c T locs cells slots) (hx : p.tables.exec = Jvm.exec) {cd : ClassFile.Cond} {x y : Int32} {o : Int} (hd : decode c.code pc = .ok (.if_icmp cd o, 3)) (hc : if_icmp.holds cd x y = false) (g : Go p e below P T (mkF m q Ls rest)) (hq : pc + 3 = q := by rfl) : Go p e below P T (mkF m pc Ls (.int y :: .int x :: rest)) := by
  subst hq; exact Go.st (fun _ => XS.icmpNo X.here hx rfl hd rfl hc) g
theorem zfy (q : Nat) (X : Stand p l e R s m args below meth c T locs cells slots) (hx : p.tables.exec = Jvm.exec) {cd : ClassFile.Cond} {x : Int32} {o : Int} (hd : decode c.code pc = .ok (.ifCond cd o, 3)) (hc : ifCond.holds cd x = true) (g : Go p e below P T (mkF m q Ls rest)) (ho : 0 ≤ (pc : Int) + o := by decide) (hq : ((pc : Int) + o).toNat = q := by decide) : Go p e below P T (mkF m pc Ls (.int x :: rest)) :=
  Go.st (fun _ => XS.ifYes X.here hx rfl (pc0 := pc) (pc' := q) rfl hd rfl hc ho hq) g
theorem zfn (q : Nat) (X : Stand p l e R s m args below meth c T locs cells slots) (hx : p.tables.exec = Jvm.exec) {cd : ClassFile.Cond} {x : Int32} {o : Int} (hd : decode c.code pc = .ok (.ifCond cd o, 3)) (hc : ifCond.holds cd x = false) (g : Go p e below P T (mkF m q Ls rest)) (hq : pc + 3 = q := by rfl) : Go p e below P T (mkF m pc Ls (.int x :: rest)) := by
  subst hq; exact Go.st (fun _ => XS.ifNo X.here hx rfl hd rfl hc) g
theorem zgf (q : Nat) (X : Stand p l e R s m args below meth c T locs cells slots) (hx : p.tables.exec = Jvm.exec) (hZ : Z.Warmed39 s.vm) {own R0 O n d host : String} {index : Nat} (hown : s.vm.findClass own = some m.cls) (w : (Cond.fieldLink own index R0 n d).before a0 Z = true ∨ (Cond.fieldLinkNest own index R0 n d host).before a0 Z = true) (via : Via Z R0 O n d)
    (eT : T.heap = h) {a : Addr} {v : Value} (F : Fld Z h a O n d v) (hd : decode c.code pc = .ok (.getfield index, 3)) (g : ∀ T', Stand p l e R s m args below meth c T' locs cells slots → T'.heap = h → Go p e below P T' (mkF m q Ls (v :: rest))) (hq : pc + 3 = q := by rfl) : Go p e below P T (mkF m pc Ls (.ref a :: rest)) := by
  obtain ⟨T', X', e', st⟩ := getF X hx hZ hown w via eT F (g := mkF m pc Ls (.ref a :: rest)) rfl rfl hd
  subst hq; exact Go.st st (g T' X' e')
theorem gV (q W c' s' : Nat) (X : Stand p l e R s m args below meth c T locs cells slots) {n0 : Nat} (N : Fr n0 locs) (hx : p.tables.exec = Jvm.exec) (hZ : Z.Warmed39 s.vm) {own C : String} {index k : Nat} {y : MethodName} (hown : s.vm.findClass own = some m.cls) (hml : c.maxLocals = k)
    (w1 : (Cond.methodLink own index y).before a0 Z = true) (w2 : (Cond.declares y).before a0 Z = true) (w3 : (Cond.selects C y y).before a0 Z = true) (w4 : (Cond.instanceMethod y).before a0 Z = true)
    {bytes : ByteArray} {maxL : Nat} {ret : Option FieldType} {rm : Room} {as' : Array Value} {Q : Option Value → Heap → List Loc → Prop}
    (hM : Con l Z y bytes maxL ret [] rm as' h Q) (wc : (Cond.code y bytes maxL ret).before a0 Z = true) (wz : (Cond.initialized y.cls).before a0 Z = true)
    (eT : T.heap = h) {a : Addr} (E : Exa Z h a C) (argsL rest : List Value)
    (hlen : ∀ sig, parseMethodDescriptor y.desc = some sig → argsL.length = sig.parameters.length)
    (hd : decode c.code pc = .ok (.invokevirtual index, 3))
    (hk : ∀ (T' : State) (L L' : List Loc) (v : Option Value), Stand p l e R s m args below meth c T' L' c' s' → (Fr n0 L → Fr n0 L') → Q v T'.heap L → Go p e below P T' (mkF m q Ls (v.toList ++ rest)))
    (hq : pc + 3 = q := by rfl) (hy : y.cls ≠ "java/lang/invoke/MethodHandle" ∧ y.cls ≠ "java/lang/invoke/VarHandle" := by decide)
    (hsz : Ls.size = k := by rfl) (hst : Ss = argsL.reverse ++ .ref a :: rest := by rfl) (has : (.ref a :: argsL).toArray = as' := by rfl)
    (hf : rm.frames + 1 ≤ R.frames := by decide) (hW : (rest.map fun v => v.category).sum = W := by rfl) (hl : W + (maxL + 11) + rm.locals ≤ R.locals := by decide) (hc1 : cells + rm.cells = c' := by rfl) (hs1 : slots + rm.slots = s' := by rfl) (hc : c' ≤ R.cells := by decide) (hs : s' ≤ R.slots := by decide) :
    Go p e below P T (mkF m pc Ls Ss) := by
  obtain ⟨cq, kq, qa, qb, qc⟩ := isOf hZ eT E
  obtain ⟨v, _, ⟨T1, L1, kk1, nn1⟩, -, X1, ⟨Lc1, hQ1, lq1, yq1, zz1⟩, st1⟩ := X.virtualBack hx hown (mvT hZ w1) (mvT hZ w2) (notFace_of_selects (args := #[]) (mvT hZ w3)) (mvT hZ w3) (mvT hZ w4) hy (own_back (W := W) hM hZ wc wz hf hl) qa qc (g := mkF m pc Ls Ss) rfl (by rw [hml]; exact hsz) (Steps.refl _) (argsL := argsL) (rest := rest) hlen hst (by show 2 * 0 + _ ≤ _; omega) hd (fun _ _ => ⟨has, eT, by rw [hc1]; exact hc, by rw [hs1]; exact hs⟩)
  dsimp only [Pt.U, Pt.locs, Pt.cells, Pt.slots] at X1 lq1 yq1 zz1 st1 hQ1
  subst lq1 yq1 zz1 hq hc1 hs1
  exact Go.tr st1 (hk _ _ _ _ X1 (Fr.app N) hQ1)
theorem zmvI (hZ : Z.Warmed39 s.vm) {r o n d : String} (w : (Cond.interfaceMethod r o n d).before a0 Z = true) : (Cond.interfaceMethod r o n d).before args s = true := by
  have h1 : (Cond.interfaceMethod r o n d).before a0 (Z.setVm s.vm) = (Cond.interfaceMethod r o n d).before a0 Z := by
    simp only [Cond.before, Cond.holds, Cond.value, State.vm_setVm, hZ.alike.findClass, State.methodFound?_setVm hZ.alike, State.methodNamed?_setVm hZ.alike, arm_isInterface_setVm hZ.alike]
  have h2 := Cond.onTables_vm (A := a0) (A' := args) (U := Z) (U' := s) s.vm (Cond.interfaceMethod r o n d) rfl
  rw [h1, w] at h2
  exact h2.symm
theorem gI (q W c' s' : Nat) (X : Stand p l e R s m args below meth c T locs cells slots) {n0 : Nat} (N : Fr n0 locs) (hx : p.tables.exec = Jvm.exec) (hZ : Z.Warmed39 s.vm) {own C : String} {index count k : Nat} {xi y : MethodName} (hown : s.vm.findClass own = some m.cls) (hml : c.maxLocals = k)
    (w1 : (Cond.methodLink own index xi).before a0 Z = true) (w2 : (Cond.declares xi).before a0 Z = true) (w5 : (Cond.interfaceMethod xi.cls xi.cls xi.name xi.desc).before a0 Z = true) (w3 : (Cond.selects C xi y).before a0 Z = true) (w4 : (Cond.instanceMethod y).before a0 Z = true)
    (w6 : (Cond.publicMethod y).before a0 Z = true) (w7 : (Cond.unhidden C xi.name xi.desc).before a0 Z = true) (w8 : (Cond.castable C xi.cls).before a0 Z = true)
    {bytes : ByteArray} {maxL : Nat} {ret : Option FieldType} {rm : Room} {as' : Array Value} {Q : Option Value → Heap → List Loc → Prop}
    (hM : Con l Z y bytes maxL ret [] rm as' h Q) (wc : (Cond.code y bytes maxL ret).before a0 Z = true) (wz : (Cond.initialized y.cls).before a0 Z = true)
    (eT : T.heap = h) {a : Addr} (E : Exa Z h a C) (argsL rest : List Value)
    (hlen : ∀ sig, parseMethodDescriptor xi.desc = some sig → argsL.length = sig.parameters.length)
    (hd : decode c.code pc = .ok (.invokeinterface index count, 5))
    (hk : ∀ (T' : State) (L L' : List Loc) (v : Option Value), Stand p l e R s m args below meth c T' L' c' s' → (Fr n0 L → Fr n0 L') → Q v T'.heap L → Go p e below P T' (mkF m q Ls (v.toList ++ rest)))
    (hq : pc + 5 = q := by rfl) (hy : xi.cls ≠ "java/lang/invoke/MethodHandle" ∧ xi.cls ≠ "java/lang/invoke/VarHandle" := by decide)
    (hsz : Ls.size = k := by rfl) (hst : Ss = argsL.reverse ++ .ref a :: rest := by rfl) (has : (.ref a :: argsL).toArray = as' := by rfl)
    (hf : rm.frames + 1 ≤ R.frames := by decide) (hW : (rest.map fun v => v.category).sum = W := by rfl) (hl : W + (maxL + 11) + rm.locals ≤ R.locals := by decide) (hc1 : cells + rm.cells = c' := by rfl) (hs1 : slots + rm.slots = s' := by rfl) (hc : c' ≤ R.cells := by decide) (hs : s' ≤ R.slots := by decide) :
    Go p e below P T (mkF m pc Ls Ss) := by
  obtain ⟨cq, kq, qa, qb, qc⟩ := isOf hZ eT E
  obtain ⟨v, _, ⟨T1, L1, kk1, nn1⟩, -, X1, ⟨Lc1, hQ1, lq1, yq1, zz1⟩, st1⟩ := X.interfaceBack hx hown (mvT hZ w1) (mvT hZ w2) (zmvI hZ w5) (mvT hZ w3) (mvT hZ w4) (mvT hZ w6) (mvT hZ w7) (mvT hZ w8) hy (own_back (W := W) hM hZ wc wz hf hl) qa qb qc (g := mkF m pc Ls Ss) rfl (by rw [hml]; exact hsz) (Steps.refl _) (argsL := argsL) (rest := rest) hlen hst (by show 2 * 0 + _ ≤ _; omega) hd (fun _ _ => ⟨has, eT, by rw [hc1]; exact hc, by rw [hs1]; exact hs⟩)
  dsimp only [Pt.U, Pt.locs, Pt.cells, Pt.slots] at X1 lq1 yq1 zz1 st1 hQ1
  subst lq1 yq1 zz1 hq hc1 hs1
  exact Go.tr st1 (hk _ _ _ _ X1 (Fr.app N) hQ1)
theorem zsk (S' : List Value) (g : Go p e below P T (mkF m pc Ls S')) (hq : Ss = S' := by rfl) : Go p e below P T (mkF m pc Ls Ss) := by
  subst hq; exact g
theorem zln (q : Nat) (X : Stand p l e R s m args below meth c T locs cells slots) (hx : p.tables.exec = Jvm.exec) {k : Fin 4} {v : Int64} (hd : decode c.code pc = .ok (.lload_n k, 1)) (hl : Ls[k.val]? = some (.val (.long v))) (g : Go p e below P T (mkF m q Ls (.long v :: Ss))) (hq : pc + 1 = q := by rfl) : Go p e below P T (mkF m pc Ls Ss) := by
  subst hq; exact Go.st (fun _ => XS.lloadN X.here hx rfl hd hl) g
theorem zll (q : Nat) (X : Stand p l e R s m args below meth c T locs cells slots) (hx : p.tables.exec = Jvm.exec) {k : Nat} {v : Int64} (hd : decode c.code pc = .ok (.lload k, 2)) (hl : Ls[k]? = some (.val (.long v))) (g : Go p e below P T (mkF m q Ls (.long v :: Ss))) (hq : pc + 2 = q := by rfl) : Go p e below P T (mkF m pc Ls Ss) := by
  subst hq; exact Go.st (fun _ => XS.lload X.here hx rfl hd hl) g
theorem gS (q W c' s' : Nat) (X : Stand p l e R s m args below meth c T locs cells slots) {n0 : Nat} (N : Fr n0 locs) (hx : p.tables.exec = Jvm.exec) (hZ : Z.Warmed39 s.vm) {own : String} {index k : Nat} {y : MethodName} (hown : s.vm.findClass own = some m.cls) (hml : c.maxLocals = k)
    (w1 : (Cond.methodLink own index y).before a0 Z = true) (w2 : (Cond.static y).before a0 Z = true) (wz : (Cond.initialized y.cls).before a0 Z = true)
    {bytes : ByteArray} {maxL : Nat} {ret : Option FieldType} {rm : Room} {as' : Array Value} {Q : Option Value → Heap → List Loc → Prop}
    (hM : Con l Z y bytes maxL ret [] rm as' h Q) (wc : (Cond.code y bytes maxL ret).before a0 Z = true)
    (eT : T.heap = h) (argsL rest : List Value)
    (hlen : ∀ sig, parseMethodDescriptor y.desc = some sig → argsL.length = sig.parameters.length)
    (hd : decode c.code pc = .ok (.invokestatic index, 3))
    (hk : ∀ (T' : State) (L L' : List Loc) (v : Option Value), Stand p l e R s m args below meth c T' L' c' s' → (Fr n0 L → Fr n0 L') → Q v T'.heap L → Go p e below P T' (mkF m q Ls (v.toList ++ rest)))
    (hq : pc + 3 = q := by rfl) (hy : y.cls ≠ "java/lang/invoke/MethodHandle" ∧ y.cls ≠ "java/lang/invoke/VarHandle" := by decide)
    (hsz : Ls.size = k := by rfl) (hst : Ss = argsL.reverse ++ rest := by rfl) (has : argsL.toArray = as' := by rfl)
    (hf : rm.frames + 1 ≤ R.frames := by decide) (hW : (rest.map fun v => v.category).sum = W := by rfl) (hl : W + (maxL + 11) + rm.locals ≤ R.locals := by decide) (hc1 : cells + rm.cells = c' := by rfl) (hs1 : slots + rm.slots = s' := by rfl) (hc : c' ≤ R.cells := by decide) (hs : s' ≤ R.slots := by decide) :
    Go p e below P T (mkF m pc Ls Ss) := by
  obtain ⟨v, _, ⟨T1, L1, kk1, nn1⟩, -, X1, ⟨Lc1, hQ1, lq1, yq1, zz1⟩, st1⟩ := Jvm.LawKit.callS X hx hown (mvT hZ w1) (mvT hZ w2) (mvT hZ wz) (mvT hZ wc) hy (own_back (W := W) hM hZ wc wz hf hl) (g := mkF m pc Ls Ss) rfl (by rw [hml]; exact hsz) (argsL := argsL) (rest := rest) hlen hst (by show 2 * 0 + _ ≤ _; omega) hd (fun _ _ => ⟨has, eT, by rw [hc1]; exact hc, by rw [hs1]; exact hs⟩)
  dsimp only [Pt.U, Pt.locs, Pt.cells, Pt.slots] at X1 lq1 yq1 zz1 st1 hQ1
  subst lq1 yq1 zz1 hq hc1 hs1
  exact Go.st st1 (hk _ _ _ _ X1 (Fr.app N) hQ1)
end Cps

def World1 (Z : State) (wV : Addr) (w1_ : Addr) (w2_ : Addr) (w3_ : Addr) (kV : ClassId) (iC : Int32) (vF : Value) (lS1 : Addr) (lT1 : Addr) (lK1 : ClassId) (lS2 : Addr) (lT2 : Addr) (lK2 : ClassId) (lS3 : Addr) (lT3 : Addr) (lK3 : ClassId) : Prop :=
  Sta Z Z.heap "java/lang/String" "COMPACT_STRINGS" "Z" (.int iC) ∧
  ¬ iC = (0 : Int32) ∧
  Sta Z Z.heap "jdk/internal/util/Preconditions" "SIOOBE_FORMATTER" "Ljava/util/function/BiFunction;" vF ∧
  vF.isRef = true ∧
  Sta Z Z.heap "com/example/naysay/naysay/access/Role" "$VALUES" "[Lcom/example/naysay/naysay/access/Role;" (.ref wV) ∧
  Exa Z Z.heap wV "[Lcom/example/naysay/naysay/access/Role;" ∧
  Sta Z Z.heap "com/example/naysay/naysay/access/Role" "PAYMENT_SYSTEM" "Lcom/example/naysay/naysay/access/Role;" (.ref w1_) ∧
  Exa Z Z.heap w1_ "com/example/naysay/naysay/access/Role" ∧
  Sta Z Z.heap "com/example/naysay/naysay/access/Role" "ANALYST" "Lcom/example/naysay/naysay/access/Role;" (.ref w2_) ∧
  Exa Z Z.heap w2_ "com/example/naysay/naysay/access/Role" ∧
  Sta Z Z.heap "com/example/naysay/naysay/access/Role" "ADMIN" "Lcom/example/naysay/naysay/access/Role;" (.ref w3_) ∧
  Exa Z Z.heap w3_ "com/example/naysay/naysay/access/Role" ∧
  Arv Z Z.heap wV kV (Jvm.ClassFile.FieldType.object "com/example/naysay/naysay/access/Role") (3 : Int32) [(.ref w1_), (.ref w2_), (.ref w3_)] .null ∧
  Fld Z Z.heap w1_ "com/example/naysay/naysay/access/Role" "label" "Ljava/lang/String;" (.ref lS1) ∧
  Exa Z Z.heap lS1 "java/lang/String" ∧
  Fld Z Z.heap lS1 "java/lang/String" "coder" "B" (.int (0 : Int32)) ∧
  Fld Z Z.heap lS1 "java/lang/String" "value" "[B" (.ref lT1) ∧
  Arv Z Z.heap lT1 lK1 .byte (14 : Int32) [(.int (112 : Int32)), (.int (97 : Int32)), (.int (121 : Int32)), (.int (109 : Int32)), (.int (101 : Int32)), (.int (110 : Int32)), (.int (116 : Int32)), (.int (32 : Int32)), (.int (115 : Int32)), (.int (121 : Int32)), (.int (115 : Int32)), (.int (116 : Int32)), (.int (101 : Int32)), (.int (109 : Int32))] (.int (0 : Int32)) ∧
  Fld Z Z.heap w2_ "com/example/naysay/naysay/access/Role" "label" "Ljava/lang/String;" (.ref lS2) ∧
  Exa Z Z.heap lS2 "java/lang/String" ∧
  Fld Z Z.heap lS2 "java/lang/String" "coder" "B" (.int (0 : Int32)) ∧
  Fld Z Z.heap lS2 "java/lang/String" "value" "[B" (.ref lT2) ∧
  Arv Z Z.heap lT2 lK2 .byte (7 : Int32) [(.int (97 : Int32)), (.int (110 : Int32)), (.int (97 : Int32)), (.int (108 : Int32)), (.int (121 : Int32)), (.int (115 : Int32)), (.int (116 : Int32))] (.int (0 : Int32)) ∧
  Fld Z Z.heap w3_ "com/example/naysay/naysay/access/Role" "label" "Ljava/lang/String;" (.ref lS3) ∧
  Exa Z Z.heap lS3 "java/lang/String" ∧
  Fld Z Z.heap lS3 "java/lang/String" "coder" "B" (.int (0 : Int32)) ∧
  Fld Z Z.heap lS3 "java/lang/String" "value" "[B" (.ref lT3) ∧
  Arv Z Z.heap lT3 lK3 .byte (5 : Int32) [(.int (97 : Int32)), (.int (100 : Int32)), (.int (109 : Int32)), (.int (105 : Int32)), (.int (110 : Int32))] (.int (0 : Int32))
abbrev EL : List (String × Nat) := consts_1
theorem own_EL {Z : State} {a0 : Array Value} (hw : ∀ d ∈ tables_1, d.before a0 Z = true) : EW Z a0 EL := (EW.cons (hw _ (List.mem_of_getElem? (i := 88) rfl)) (by decide) (EW.cons (hw _ (List.mem_of_getElem? (i := 93) rfl)) (by decide) (EW.cons (hw _ (List.mem_of_getElem? (i := 94) rfl)) (by decide) EW.nil)))
theorem own_wS {Z : State} {a0 : Array Value} (hw : ∀ d ∈ tables_1, d.before a0 Z = true) : ∀ a ∈ Bundle.stringAtoms, a.before a0 Z = true := by
  intro a ha
  simp only [Bundle.stringAtoms, Bundle.sN, List.mem_cons, List.not_mem_nil, or_false] at ha
  rcases ha with rfl | rfl | rfl | rfl | rfl | rfl | rfl
  · exact (ww hw 8 rfl)
  · exact (ww hw 7 rfl)
  · exact (ww hw 24 rfl)
  · exact (ww hw 34 rfl)
  · exact (ww hw 32 rfl)
  · exact (ww hw 89 rfl)
  · exact (ww hw 90 rfl)
theorem own_nf {s : State} {args : Array Value} {C : String} {yp y : MethodName} (hs : (Cond.selects C yp yp).before args s = true) (he : yp.cls = y.cls) : NotFace s y := fun r0 h0 => by
  obtain ⟨c, r, m, -, -, h3, -, mk, h4, h5⟩ := Cond.selects_spec hs
  have f1 := findClass_of_methodNamed h3
  have f2 := findClass_of_methodNamed h0
  rw [he] at f1
  have e := Option.some.inj (f1.symm.trans f2)
  rw [e] at h4
  exact ⟨mk, h4, h5⟩
theorem own_same {Z : State} {a0 : Array Value} {C : String} {yp y : MethodName} (hs : (Cond.selects C yp yp).before a0 Z = true) (hi : (Cond.instanceMethod y).before a0 Z = true) (he : yp.cls = y.cls) (hy : y.cls ≠ "java/lang/invoke/MethodHandle" ∧ y.cls ≠ "java/lang/invoke/VarHandle") : (Cond.sameMethod y.cls y.cls y.name y.desc).before a0 Z = true := by
  obtain ⟨c, r, m, -, -, h3, -, mk, h4, h5⟩ := Cond.selects_spec hs
  obtain ⟨m2, methM, hn, -, -, -⟩ := Cond.instanceMethod_spec hi
  have f1 := findClass_of_methodNamed h3
  have f2 := findClass_of_methodNamed hn
  rw [he] at f1
  have e := Option.some.inj (f1.symm.trans f2)
  rw [e] at h4
  have f3 := State.methodFound?_of_named hn hy
  simp [Cond.before, Cond.holds, Cond.value, f2, f3, show Z.methodNamed? ⟨y.cls, y.name, y.desc⟩ = some m2 from hn, h4, h5]
theorem own_selp {s : State} {args : Array Value} {C : String} {y : MethodName} (h : (Cond.selects C y y).before args s = true) (hp : s.PrivateAt y) (hi : (Cond.instanceMethod y).before args s = true) (hy : y.cls ≠ "java/lang/invoke/MethodHandle" ∧ y.cls ≠ "java/lang/invoke/VarHandle") : (Cond.selects y.cls y y).before args s = true := by
  obtain ⟨c, r, m, -, -, h3, -, mk, h4, h5⟩ := Cond.selects_spec h
  exact Jvm.Stand.selects_self_of_private (findClass_of_methodNamed h3) h4 h5 hp hi hy
theorem own_ishl0 (c : Int32) : c <<< ((0 : Int32) &&& 31) = c := by
  have a := c_ishl c 0 0 (by decide)
  have r := rng32 (c <<< ((0 : Int32) &&& 31))
  have r2 := rng32 c
  rw [← Int32.toInt_inj]; omega
theorem own_ishr0 (c : Int32) : c >>> ((0 : Int32) &&& 31) = c := by
  have a : (c >>> ((0 : Int32) &&& 31)).toInt = c.toInt / (2 ^ 0 : Nat) := c_ishr c 0 0 (by decide)
  rw [← Int32.toInt_inj]; omega
/-- c is the list's length -/
def Ln (c : Int32) (xs : List Value) : Prop := 0 ≤ c.toInt ∧ c.toInt = (xs.length : Int)
theorem ln0 : Ln (0 : Int32) [] := ⟨by decide, by decide⟩
theorem Ln.nn {c : Int32} {xs : List Value} (h : Ln c xs) : ¬ c < (0 : Int32) := by
  rw [Int32.lt_iff_toInt_lt]; have e : (0 : Int32).toInt = 0 := by decide
  have := h.1; omega
theorem Ln.nat {c : Int32} {xs : List Value} (h : Ln c xs) : c.toNatClampNeg = xs.length := by
  simp only [Int32.toNatClampNeg]; have := h.2; omega
theorem Ln.app {c n : Int32} {xs fs : List Value} (a : Ln c xs) (b : Ln n fs) (h : xs.length + fs.length ≤ 1000000) : Ln (c + n) (xs ++ fs) := by
  have q := c_iadd c n
  have r := rng32 (c + n)
  have := a.1; have := a.2; have := b.1; have := b.2
  constructor
  · omega
  · rw [List.length_append]; omega
theorem Ln.eq {c n : Int32} {xs ys : List Value} (a : Ln c xs) (b : Ln n ys) (e : xs.length = ys.length) : c = n := by
  rw [← Int32.toInt_inj, a.2, b.2, e]
theorem Ln.le {c : Int32} {xs : List Value} {m : Nat} (a : Ln c xs) (h : xs.length ≤ m) : c.toNatClampNeg ≤ m := by rw [a.nat]; exact h
def Ints (es : List Value) : Prop := ∀ v ∈ es, ∃ x : Int32, v = .int x
theorem own_at {es : List Value} {n i : Int32} {d : Value} (I : Ints es) (l : Ln n es) (h0 : ¬ i < (0 : Int32)) (h1 : i < n) : ∃ x : Int32, es.getD i.toNatClampNeg d = .int x := by
  rw [Int32.lt_iff_toInt_lt] at h0 h1
  have e0 : (0 : Int32).toInt = 0 := by decide
  have hk : i.toNatClampNeg < es.length := by have := l.2; simp only [Int32.toNatClampNeg]; omega
  have hg : es.getD i.toNatClampNeg d = es[i.toNatClampNeg] := by simp [List.getD, hk]
  obtain ⟨x, hx⟩ := I _ (List.getElem_mem hk)
  exact ⟨x, hg.trans hx⟩
theorem own_mapr {n : Int32} {fs : List Value} {d : Value} (h : n.toNatClampNeg = fs.length) : fs = (List.range n.toNatClampNeg).map fun i => fs.getD ((0 : Int32).toNatClampNeg + i) d := by
  rw [h]
  apply List.ext_getElem
  · simp
  · intro i h1 h2
    have e : (0 : Int32).toNatClampNeg + i = i := by show 0 + i = i; omega
    simp [e, List.getD, h1]
theorem own_padl {c n : Int32} {xs fs : List Value} {d : Value} (a : Ln c xs) (b : Ln n fs) : c.toNatClampNeg + n.toNatClampNeg ≤ (xs ++ List.replicate fs.length d).length := by
  rw [a.nat, b.nat]; simp
theorem own_join {c n : Int32} {xs fs : List Value} {d : Value} (a : c.toNatClampNeg = xs.length) (b : n.toNatClampNeg = fs.length) : (xs ++ List.replicate fs.length d).take c.toNatClampNeg ++ fs ++ (xs ++ List.replicate fs.length d).drop (c.toNatClampNeg + n.toNatClampNeg) = xs ++ fs := by
  rw [a, b]; simp


def lput (es : List Value) (k : Nat) (v d : Value) : List Value := (es ++ List.replicate (k + 1) d).set k v
theorem lput_len (es : List Value) (k : Nat) (d : Value) : k < (es ++ List.replicate (k + 1) d).length := by rw [List.length_append, List.length_replicate]; omega
theorem lput_getD (es : List Value) (k : Nat) (v d : Value) (i : Nat) : (lput es k v d).getD i d = if i = k then v else es.getD i d := by
  unfold lput
  rw [List.getD_eq_getElem?_getD]
  by_cases q : i = k
  · subst q
    rw [if_pos rfl, List.getElem?_set_self (lput_len es i d)]; rfl
  · rw [if_neg q, List.getElem?_set_ne (fun e => q e.symm), ← List.getD_eq_getElem?_getD]; exact pad_rep es d (k + 1) i


theorem own_sub0 (x : Int32) : x - x = 0 := by
  have a := c_isub x x
  have r := rng32 (x - x)
  have e0 : (0 : Int32).toInt = 0 := by decide
  rw [← Int32.toInt_inj]; omega
theorem i_lt {a b : Int32} (h : a.toInt < b.toInt) : a < b := by rw [Int32.lt_iff_toInt_lt]; exact h
theorem i_nlt {a b : Int32} (h : b.toInt ≤ a.toInt) : ¬ a < b := by rw [Int32.lt_iff_toInt_lt]; omega
theorem i_ge0 {a : Int32} (h : 0 ≤ a.toInt) : ¬ a < (0 : Int32) := by
  rw [Int32.lt_iff_toInt_lt]
  have e : (0 : Int32).toInt = 0 := by decide
  omega
theorem i_inc {i n : Int32} (h : 0 ≤ i.toInt) (h1 : i.toInt < n.toInt) : (i + (1 : Int32)).toInt = i.toInt + 1 := by
  have a := c_iadd i 1
  have e : (1 : Int32).toInt = 1 := by decide
  have r := rng32 n
  have r2 := rng32 (i + 1)
  omega
theorem lpZ {i n : Int32} (h : i.toInt + ((0 : Nat) : Int) = n.toInt) : ¬ i < n := i_nlt (by omega)
theorem lpS {i n : Int32} {f : Nat} (h : i.toInt + ((f + 1 : Nat) : Int) = n.toInt) : i < n := i_lt (by omega)
theorem lpI {i n : Int32} {f : Nat} (h : 0 ≤ i.toInt) (h1 : i.toInt + ((f + 1 : Nat) : Int) = n.toInt) : 0 ≤ (i + (1 : Int32)).toInt ∧ (i + (1 : Int32)).toInt + (f : Int) = n.toInt ∧ (i + (1 : Int32)).toNatClampNeg = i.toNatClampNeg + 1 := by
  have q := i_inc (i := i) (n := n) (by omega) (by omega)
  refine ⟨by omega, by omega, ?_⟩
  simp only [Int32.toNatClampNeg]; omega
theorem lpN {i n : Int32} {xs : List Value} {f : Nat} (l : Ln n xs) (h : 0 ≤ i.toInt) (h1 : i.toInt + ((f + 1 : Nat) : Int) = n.toInt) : i.toNatClampNeg < xs.length := by
  have := l.2
  simp only [Int32.toNatClampNeg]; omega
theorem lpE {n : Int32} {xs : List Value} (l : Ln n xs) : (0 : Int32).toInt + ((n.toInt.toNat : Nat) : Int) = n.toInt := by
  have e : (0 : Int32).toInt = 0 := by decide
  have := l.1
  omega
theorem lpL {i n : Int32} {xs : List Value} (l : Ln n xs) (h1 : i.toInt + ((0 : Nat) : Int) = n.toInt) : i.toNatClampNeg = xs.length := by
  have := l.2
  simp only [Int32.toNatClampNeg]; omega
/-- ints at every place -/
def Iv (xs : List Value) : Prop := ∀ j, j < xs.length → ∃ x : Int32, xs.getD j (.int (0 : Int32)) = .int x
/-- chars below 256 at every place -/
def Ch (cs : List Value) : Prop := ∀ j, j < cs.length → ∃ x : Int32, cs.getD j (.int (0 : Int32)) = .int x ∧ ¬ (255 : Int32) < x
def byt (v : Value) : Value := match v with | .int c => .int (nar .byte (c.toInt8.toInt32)) | _ => .int (0 : Int32)
theorem byt_len (cs : List Value) : (cs.map byt).length = cs.length := List.length_map ..
theorem byt_at (cs : List Value) (j : Nat) (h : j < cs.length) (d : Value) : (cs.map byt).getD j d = byt (cs.getD j d) := by
  simp only [List.getD_eq_getElem?_getD, List.getElem?_map]
  rw [List.getElem?_eq_getElem h]; rfl
theorem byt_iv {cs : List Value} (H : Ch cs) : Iv (cs.map byt) := fun j h => by
  rw [byt_len] at h
  obtain ⟨x, e, -⟩ := H j h
  exact ⟨_, by rw [byt_at cs j h, e]; rfl⟩
/-- the first k bytes are written -/
def Cv (cs es : List Value) (k : Nat) : Prop := ∀ j, es.getD j (.int (0 : Int32)) = if j < k then byt (cs.getD j (.int (0 : Int32))) else .int (0 : Int32)
theorem Cv.zero (cs : List Value) : Cv cs [] (0 : Int32).toNatClampNeg := fun j => by
  rw [if_neg (by show ¬ j < 0; omega)]; rfl
theorem Cv.step {cs es : List Value} {k : Nat} {x : Int32} (J : Cv cs es k) (e : cs.getD k (.int (0 : Int32)) = .int x) : Cv cs (lput es k (.int (nar .byte (x.toInt8.toInt32))) (.int (0 : Int32))) (k + 1) := fun j => by
  rw [lput_getD]
  by_cases q : j = k
  · subst q; rw [if_pos rfl, if_pos (by omega), e]; rfl
  · rw [if_neg q, J j]
    by_cases r : j < k
    · rw [if_pos r, if_pos (by omega)]
    · rw [if_neg r, if_neg (by omega)]
theorem Cv.fin {cs es : List Value} {k : Nat} (J : Cv cs es k) (hk : k = cs.length) (j : Nat) : (cs.map byt).getD j (.int (0 : Int32)) = es.getD j (.int (0 : Int32)) := by
  rw [J j, hk]
  by_cases r : j < cs.length
  · rw [if_pos r, byt_at cs j r]
  · rw [if_neg r, List.getD_eq_getElem?_getD, List.getElem?_eq_none (by rw [byt_len]; omega)]; rfl
theorem cv_nx {cs es : List Value} {i n x : Int32} {f : Nat} (h : 0 ≤ i.toInt) (h1 : i.toInt + ((f + 1 : Nat) : Int) = n.toInt) (J : Cv cs es i.toNatClampNeg) (e : cs.getD i.toNatClampNeg (.int (0 : Int32)) = .int x) : Cv cs (lput es i.toNatClampNeg (.int (nar .byte (x.toInt8.toInt32))) (.int (0 : Int32))) (i + (1 : Int32)).toNatClampNeg := by
  rw [(lpI h h1).2.2]; exact J.step e
/-- the first k places agree -/
def Eqv (xs ys : List Value) (k : Nat) : Prop := ∀ j, j < k → xs.getD j (.int (0 : Int32)) = ys.getD j (.int (0 : Int32))
theorem eqv_fin {xs ys : List Value} {n1 n2 i : Int32} (l1 : Ln n1 xs) (l2 : Ln n2 ys) (e : n1 = n2) (h1 : i.toInt + ((0 : Nat) : Int) = n1.toInt) (J : Eqv xs ys i.toNatClampNeg) : xs = ys := by
  have hl : xs.length = ys.length := by have a := l1.2; have b := l2.2; rw [e] at a; omega
  rw [lpL l1 h1] at J
  refine List.ext_getElem hl fun j q1 q2 => ?_
  have := J j q1
  rw [List.getD_eq_getElem?_getD, List.getD_eq_getElem?_getD, List.getElem?_eq_getElem q1, List.getElem?_eq_getElem q2] at this
  exact this
theorem eqv_nx {xs ys : List Value} {i n x : Int32} {f : Nat} (h : 0 ≤ i.toInt) (h1 : i.toInt + ((f + 1 : Nat) : Int) = n.toInt) (J : Eqv xs ys i.toNatClampNeg) {y : Int32} (e1 : xs.getD i.toNatClampNeg (.int (0 : Int32)) = .int x) (e2 : ys.getD i.toNatClampNeg (.int (0 : Int32)) = .int y) (q : x = y) : Eqv xs ys (i + (1 : Int32)).toNatClampNeg := fun j hj => by
  rw [(lpI h h1).2.2] at hj
  by_cases r : j = i.toNatClampNeg
  · rw [r, e1, e2, q]
  · exact J j (by omega)
theorem eqv_no {xs ys : List Value} {i x y : Int32} (e1 : xs.getD i.toNatClampNeg (.int (0 : Int32)) = .int x) (e2 : ys.getD i.toNatClampNeg (.int (0 : Int32)) = .int y) (q : ¬ x = y) : xs ≠ ys := fun e => by
  subst e; exact q (Value.int.inj (e1.symm.trans e2))
theorem own_al {Z : State} {h : Heap} {a b t1 t2 : Addr} {k1 k2 : ClassId} {n1 n2 : Int32} {xs ys : List Value} {C n d : String} (e : a = b) (F : Fld Z h a C n d (.ref t1)) (G : Fld Z h b C n d (.ref t2)) (V : Arv Z h t1 k1 .byte n1 xs (.int (0 : Int32))) (W : Arv Z h t2 k2 .byte n2 ys (.int (0 : Int32))) (l1 : Ln n1 xs) (l2 : Ln n2 ys) : xs = ys := by
  subst e
  obtain ⟨c1, _, _, _, f1, p1, p2, -, -, -, -, p3⟩ := F
  obtain ⟨c2, _, _, _, f2, q1, q2, -, -, -, -, q3⟩ := G
  cases p1.symm.trans q1
  cases p2.symm.trans q2
  cases Option.some.inj (p3.symm.trans q3)
  obtain ⟨c3, r1, -, r2, -, r3, -⟩ := V
  obtain ⟨c4, s1, -, s2, -, s3, -⟩ := W
  cases r1.1.symm.trans s1.1
  have hl : xs.length = ys.length := by
    have a := l1.2
    have b := l2.2
    have a1 := l1.1
    have b1 := l2.1
    rw [r2] at s2
    simp only [Int32.toNatClampNeg] at s2
    omega
  refine List.ext_getElem hl fun j q1 q2 => ?_
  have hj : j < c3.slots.size := by rw [r2]; have := l1.2; simp only [Int32.toNatClampNeg]; omega
  have := Option.some.inj ((r3 j hj).symm.trans (s3 j hj))
  rw [List.getD_eq_getElem?_getD, List.getD_eq_getElem?_getD, List.getElem?_eq_getElem q1, List.getElem?_eq_getElem q2] at this
  exact this
theorem eqv_ln {xs ys : List Value} {n1 n2 : Int32} (l1 : Ln n1 xs) (l2 : Ln n2 ys) (q : ¬ n1 = n2) : xs ≠ ys := fun e => by
  subst e; exact q (by rw [← Int32.toInt_inj, l1.2, l2.2])

theorem pn_java_lang_StringUTF16 : plainName "java/lang/StringUTF16" = true := by first | (simp [plainName, overriddenIn]; done) | decide +kernel
theorem d6_0 : decode jdk_52_method_21_code 0 = .ok (.iconst 0, 1) := by decide +kernel
theorem d6_1 : decode jdk_52_method_21_code 1 = .ok (.istore 5, 2) := by decide +kernel
theorem d6_3 : decode jdk_52_method_21_code 3 = .ok (.iload 5, 2) := by decide +kernel
theorem d6_5 : decode jdk_52_method_21_code 5 = .ok (.iload 4, 2) := by decide +kernel
theorem d6_7 : decode jdk_52_method_21_code 7 = .ok (.if_icmp .ge 37, 3) := by decide +kernel
theorem d6_44 : decode jdk_52_method_21_code 44 = .ok (.iload 4, 2) := by decide +kernel
theorem d6_46 : decode jdk_52_method_21_code 46 = .ok (.ireturn, 1) := by decide +kernel
theorem d6_10 : decode jdk_52_method_21_code 10 = .ok (.aload_n 0, 1) := by decide +kernel
theorem d6_11 : decode jdk_52_method_21_code 11 = .ok (.iload_n 1, 1) := by decide +kernel
theorem d6_12 : decode jdk_52_method_21_code 12 = .ok (.caload, 1) := by decide +kernel
theorem d6_13 : decode jdk_52_method_21_code 13 = .ok (.istore 6, 2) := by decide +kernel
theorem d6_15 : decode jdk_52_method_21_code 15 = .ok (.iload 6, 2) := by decide +kernel
theorem d6_17 : decode jdk_52_method_21_code 17 = .ok (.sipush 255, 3) := by decide +kernel
theorem d6_20 : decode jdk_52_method_21_code 20 = .ok (.if_icmp .le 6, 3) := by decide +kernel
theorem d6_26 : decode jdk_52_method_21_code 26 = .ok (.aload_n 2, 1) := by decide +kernel
theorem d6_27 : decode jdk_52_method_21_code 27 = .ok (.iload_n 3, 1) := by decide +kernel
theorem d6_28 : decode jdk_52_method_21_code 28 = .ok (.iload 6, 2) := by decide +kernel
theorem d6_30 : decode jdk_52_method_21_code 30 = .ok (.i2b, 1) := by decide +kernel
theorem d6_31 : decode jdk_52_method_21_code 31 = .ok (.bastore, 1) := by decide +kernel
theorem d6_32 : decode jdk_52_method_21_code 32 = .ok (.iinc 1 1, 3) := by decide +kernel
theorem d6_35 : decode jdk_52_method_21_code 35 = .ok (.iinc 3 1, 3) := by decide +kernel
theorem d6_38 : decode jdk_52_method_21_code 38 = .ok (.iinc 5 1, 3) := by decide +kernel
theorem d6_41 : decode jdk_52_method_21_code 41 = .ok (.goto (-38), 3) := by decide +kernel
set_option maxRecDepth 65536 in
set_option maxHeartbeats 40000000 in
theorem nc5 (l : Launch) (Z : State) (a0 : Array Value) (hw : ∀ d ∈ tables_1, d.before a0 Z = true) (ws : List Jvm.Cond) (a2 : Addr) (k2 : ClassId) (a1 : Addr) (k1 : ClassId) (n : Int32) (cs : List Value) (h0 : Heap) (n0 : Nat) (O0 : Old Z n0 h0) (lc : Ln n cs) (H : Ch cs) (ne12 : a1 ≠ a2) (g_a2 : n0 ≤ a2) (V_a1 : Arv Z h0 a1 k1 .char n cs (.int 0)) (V_a2 : Arv Z h0 a2 k2 .byte n [] (.int 0)) :
    Con l Z mq0 jdk_52_method_21_code 7 (some .int) ws ({ frames := 0, cells := 0, slots := 0, locals := 0 } : Room) #[(.ref a1), (.int 0), (.ref a2), (.int 0), (.int n)] h0 (fun v h L => v = some (.int n) ∧ Fr n0 L ∧ Keep h0 h [a2] ∧ Arv Z h a2 k2 .byte n (cs.map byt) (.int 0)) := by
  refine own_body (plainFor_of_name pn_java_lang_StringUTF16) ?_
  intro p e s m below meth c s₁ hx hby hml hZ hown hnm hlk hret X0 e0
  have N0 := Fr.nil n0
  have D := @hb _ _ hby
  have K0 : Keep h0 h0 [a2] := Keep.refl _ _
  refine Go.st (T' := s₁) (f' := (mkF m 0 #[rv a1, iv 0, rv a2, iv 0, iv n, .unset, .unset] [])) (fun _ k => castTop (by first | (simp [entryFrame, mkF, argsToLocals, Value.category]; done) | rfl) k) ?_
  have lt_a1 := V_a1.lt
  have lt_a2 := V_a2.lt
  refine zic 1 0 X0 hx (D d6_0) ?_
  refine zsl 3 #[rv a1, iv 0, rv a2, iv 0, iv n, iv 0, .unset] X0 hx (D d6_1) ?_
  have LC : ∀ (fuel : Nat) (TJ1 : State) (hJ1 : Heap) (LJ1 : List Loc) (i : Int32) (u6 : Slot) (es : List Value), (Stand p l e ({ frames := 0, cells := 0, slots := 0, locals := 0 } : Room) s m #[(.ref a1), (.int 0), (.ref a2), (.int 0), (.int n)] below meth c TJ1 LJ1 0 0) → (TJ1.heap = hJ1) → (Old Z n0 hJ1) → (Fr n0 LJ1) → (Keep h0 hJ1 [a2]) → (Arv Z hJ1 a1 k1 .char n cs (.int (0 : Int32))) → (0 ≤ i.toInt) → (i.toInt + (fuel : Int) = n.toInt) → (Arv Z hJ1 a2 k2 .byte n es (.int (0 : Int32))) → (Cv cs es i.toNatClampNeg) → (u6 = .unset ∨ ∃ y : Int32, u6 = iv y) → Go p e below (Done s (fun v h L => v = some (.int n) ∧ Fr n0 L ∧ Keep h0 h [a2] ∧ Arv Z h a2 k2 .byte n (cs.map byt) (.int (0 : Int32))) ({ frames := 0, cells := 0, slots := 0, locals := 0 } : Room).cells ({ frames := 0, cells := 0, slots := 0, locals := 0 } : Room).slots) TJ1 (mkF m 3 #[rv a1, iv i, rv a2, iv i, iv n, iv i, (u6)] []) := by
   intro fuel
   induction fuel with
   | zero =>
    intro TJ1 hJ1 LJ1 i u6 es XJ1 eJ1 OJ1 NJ1 KJ1 cyJ1_0 hi0 hi1 hv J hu6
    have lt_a2J := hv.lt
    refine zil 5 XJ1 hx (D d6_3) rfl ?_
    refine zil 7 XJ1 hx (D d6_5) rfl ?_
    refine zcy 44 XJ1 hx (D d6_7) (flt (lpZ hi1)).2.1 ?_
    refine zil 46 XJ1 hx (D d6_44) rfl ?_
    refine Go.retV XJ1 hlk hx (t := .int) hret rfl (Or.inl ⟨rfl, Or.inl rfl, _, rfl⟩) (D d6_46) eJ1 ?_ (by decide) (by decide)
    exact ⟨rfl, NJ1, KJ1, (hv.pad (J.fin (lpL lc hi1)))⟩
   | succ fuel ih =>
    intro TJ1 hJ1 LJ1 i u6 es XJ1 eJ1 OJ1 NJ1 KJ1 cyJ1_0 hi0 hi1 hv J hu6
    have lt_a2J := hv.lt
    obtain ⟨x, ex, hxc⟩ := H _ (lpN lc hi0 hi1)
    refine zil 5 XJ1 hx (D d6_3) rfl ?_
    refine zil 7 XJ1 hx (D d6_5) rfl ?_
    refine zcn 10 XJ1 hx (D d6_7) (tlt (lpS hi1)).2.1 ?_
    refine zan 11 XJ1 hx (D d6_10) rfl rfl ?_
    refine zin 12 XJ1 hx (D d6_11) rfl ?_
    obtain ⟨cl2, Ar2, -, S2, -, H2, -⟩ := id cyJ1_0
    have hin2 : ¬ (i < 0 ∨ cl2.slots.size ≤ (i).toNatClampNeg) := inb_of S2 ⟨(i_ge0 hi0), (lpS hi1)⟩
    have hat2 : cl2.slots[(i).toNatClampNeg]? = some (.int x) := H2.at hin2 ex
    refine Go.st (f' := (mkF m 13 #[rv a1, iv i, rv a2, iv i, iv n, iv i, (u6)] [(.int x)])) (fun _ k => XJ1.caload hx (j := i) (v := (.int x)) (by rw [eJ1]; exact Ar2.1) (State.isArrayOf_alike hZ.alike Ar2.2.1) Ar2.2.2 hin2 hat2 (g := (mkF m 12 #[rv a1, iv i, rv a2, iv i, iv n, iv i, (u6)] [(.int i), (.ref a1)])) rfl rfl (D d6_12) _ k) ?_
    refine zsl 15 #[rv a1, iv i, rv a2, iv i, iv n, iv i, iv x] XJ1 hx (D d6_13) ?_ (hl := by rcases hu6 with rfl | ⟨_, rfl⟩ <;> rfl)
    refine zil 17 XJ1 hx (D d6_15) rfl ?_
    refine Go.st (f' := (mkF m 20 #[rv a1, iv i, rv a2, iv i, iv n, iv i, iv x] [(.int 255), (.int x)])) (fun _ k => XS.sipush XJ1.here hx rfl (D d6_17) k) ?_
    refine zcy 26 XJ1 hx (D d6_20) (flt hxc).2.2.2 ?_
    refine zan 27 XJ1 hx (D d6_26) rfl rfl ?_
    refine zin 28 XJ1 hx (D d6_27) rfl ?_
    refine zil 30 XJ1 hx (D d6_28) rfl ?_
    refine Go.st (f' := (mkF m 31 #[rv a1, iv i, rv a2, iv i, iv n, iv i, iv x] [(.int (x.toInt8.toInt32)), (.int i), (.ref a2)])) (fun _ k => XS.i2b XJ1.here hx rfl (D d6_30) rfl k) ?_
    obtain ⟨cl3, Ar3, q3, S3, Nx3, H3, G3⟩ := Arv.pad hv (pad_rep es (.int (0 : Int32)) ((i).toNatClampNeg + 1))
    have hin3 : ¬ (i < 0 ∨ cl3.slots.size ≤ (i).toNatClampNeg) := inb_of S3 ⟨(i_ge0 hi0), (lpS hi1)⟩
    obtain ⟨T4, h4, X4, e4, W4, st4⟩ := stB XJ1 hx hZ eJ1 Ar3 (j := i) hin3 (g := (mkF m 31 #[rv a1, iv i, rv a2, iv i, iv n, iv i, iv x] [(.int (x.toInt8.toInt32)), (.int i), (.ref a2)])) rfl rfl (D d6_31)
    have V_a2_4 : Arv Z h4 a2 k2 .byte n (lput es (i).toNatClampNeg (.int (nar .byte (x.toInt8.toInt32))) (.int (0 : Int32))) (.int (0 : Int32)) := Arv.set Ar3 q3 S3 Nx3 H3 G3 (fits_nar_byte _) W4 _ rfl (lput_len _ _ _)
    have N4 := Fr.snoc X4 NJ1 g_a2
    have O4 : Old Z n0 h4 := OJ1.wr W4 g_a2
    have K4 : Keep h0 h4 [a2] := KJ1.wr W4 (Or.inl (List.mem_of_getElem? (i := 0) rfl))
    refine zst 32 #[rv a1, iv i, rv a2, iv i, iv n, iv i, iv x] [] st4 ?_
    refine zii 35 #[rv a1, .val (.int (i + (1 : Int32))), rv a2, iv i, iv n, iv i, iv x] X4 hx (D d6_32) rfl ?_
    refine zii 38 #[rv a1, .val (.int (i + (1 : Int32))), rv a2, .val (.int (i + (1 : Int32))), iv n, iv i, iv x] X4 hx (D d6_35) rfl ?_
    refine zii 41 #[rv a1, .val (.int (i + (1 : Int32))), rv a2, .val (.int (i + (1 : Int32))), iv n, .val (.int (i + (1 : Int32))), iv x] X4 hx (D d6_38) rfl ?_
    refine zgo 3 X4 hx (D d6_41) ?_
    have ft5 := (cyJ1_0.other W4 ne12)
    exact ih _ h4 _ (i + (1 : Int32)) (.val (.int x)) (lput es (i).toNatClampNeg (.int (nar .byte (x.toInt8.toInt32))) (.int (0 : Int32))) X4 e4 O4 N4 K4 ft5 (lpI hi0 hi1).1 (lpI hi0 hi1).2.1 V_a2_4 (cv_nx hi0 hi1 J ex) (Or.inr ⟨_, rfl⟩)
  exact LC n.toInt.toNat _ h0 _ (0 : Int32) .unset [] X0 e0 O0 N0 K0 V_a1 (by decide) (lpE lc) V_a2 (Cv.zero cs) (Or.inl rfl)
theorem d5_0 : decode jdk_52_method_16_code 0 = .ok (.iload_n 2, 1) := by decide +kernel
theorem d5_1 : decode jdk_52_method_16_code 1 = .ok (.newarray .byte, 2) := by decide +kernel
theorem d5_3 : decode jdk_52_method_16_code 3 = .ok (.astore_n 3, 1) := by decide +kernel
theorem d5_4 : decode jdk_52_method_16_code 4 = .ok (.aload_n 0, 1) := by decide +kernel
theorem d5_5 : decode jdk_52_method_16_code 5 = .ok (.iload_n 1, 1) := by decide +kernel
theorem d5_6 : decode jdk_52_method_16_code 6 = .ok (.aload_n 3, 1) := by decide +kernel
theorem d5_7 : decode jdk_52_method_16_code 7 = .ok (.iconst 0, 1) := by decide +kernel
theorem d5_8 : decode jdk_52_method_16_code 8 = .ok (.iload_n 2, 1) := by decide +kernel
theorem d5_9 : decode jdk_52_method_16_code 9 = .ok (.invokestatic 115, 3) := by decide +kernel
theorem pd___CI_BII_I : parseMethodDescriptor "([CI[BII)I" = some ⟨[(.array .char), .int, (.array .byte), .int, .int], some .int⟩ := by decide +kernel
theorem d5_12 : decode jdk_52_method_16_code 12 = .ok (.istore 4, 2) := by decide +kernel
theorem d5_14 : decode jdk_52_method_16_code 14 = .ok (.iload 4, 2) := by decide +kernel
theorem d5_16 : decode jdk_52_method_16_code 16 = .ok (.iload_n 2, 1) := by decide +kernel
theorem d5_17 : decode jdk_52_method_16_code 17 = .ok (.if_icmp .eq 40, 3) := by decide +kernel
theorem d5_57 : decode jdk_52_method_16_code 57 = .ok (.aload_n 3, 1) := by decide +kernel
theorem d5_58 : decode jdk_52_method_16_code 58 = .ok (.areturn, 1) := by decide +kernel
set_option maxRecDepth 65536 in
set_option maxHeartbeats 40000000 in
theorem nc3 (l : Launch) (Z : State) (a0 : Array Value) (hw : ∀ d ∈ tables_1, d.before a0 Z = true) (ws : List Jvm.Cond) (a1 : Addr) (k1 : ClassId) (n : Int32) (cs : List Value) (h0 : Heap) (n0 : Nat) (O0 : Old Z n0 h0) (lc : Ln n cs) (H : Ch cs) (h0n : ¬ n = (0 : Int32)) (hcap : n.toNatClampNeg ≤ 14) (V_a1 : Arv Z h0 a1 k1 .char n cs (.int 0)) :
    Con l Z mq1 jdk_52_method_16_code 6 (some (.array .byte)) ws ({ frames := 1, cells := 1, slots := 14, locals := 18 } : Room) #[(.ref a1), (.int 0), (.int n)] h0 (fun v h L => ∃ (b : Addr) (kb : ClassId), v = some (.ref b) ∧ Fr n0 L ∧ h0.size ≤ b ∧ Keep h0 h [] ∧ Arv Z h b kb .byte n (cs.map byt) (.int 0)) := by
  refine own_body (plainFor_of_name pn_java_lang_StringUTF16) ?_
  intro p e s m below meth c s₁ hx hby hml hZ hown hnm hlk hret X0 e0
  have N0 := Fr.nil n0
  have D := @hb _ _ hby
  have K0 : Keep h0 h0 [] := Keep.refl _ _
  refine Go.st (T' := s₁) (f' := (mkF m 0 #[rv a1, iv 0, iv n, .unset, .unset, .unset] [])) (fun _ k => castTop (by first | (simp [entryFrame, mkF, argsToLocals, Value.category]; done) | rfl) k) ?_
  have lt_a1 := V_a1.lt
  refine zin 1 X0 hx (D d5_0) rfl ?_
  obtain ⟨T1, h1, kc1, X1, e1, E1, A1, st1⟩ := newP X0 hx hZ (ww hw 24 rfl) e0 (g := (mkF m 1 #[rv a1, iv 0, iv n, .unset, .unset, .unset] [(.int n)])) rfl (D d5_1) rfl (i_ge0 lc.1) (cap := 14) hcap (by decide) (by decide) (by decide)
  obtain ⟨b1, g1⟩ : ∃ z, z = h0.size := ⟨_, rfl⟩
  rw [← g1] at A1 st1
  have ne_a1_b1 : a1 ≠ b1 := Nat.ne_of_lt (Nat.lt_of_lt_of_eq lt_a1 g1.symm)
  have g_b1 : n0 ≤ b1 := Nat.le_trans (O0.1 ▸ O0.2.1) (Nat.le_of_eq g1.symm)
  have O1 : Old Z n0 h1 := O0.ext E1
  have sz_b1 : h0.size ≤ b1 := Nat.le_trans K0.1 (Nat.le_of_eq g1.symm)
  have K1 : Keep h0 h1 [] := K0.ext E1
  have V_b1 : Arv Z h1 b1 kc1 .byte n [] (.int (0 : Int32)) := Arv.new A1 (i_ge0 lc.1)
  have lt_b1 := A1.lt
  refine zst 3 #[rv a1, iv 0, iv n, .unset, .unset, .unset] [(.ref b1)] st1 ?_
  refine zrn 4 #[rv a1, iv 0, iv n, rv b1, .unset, .unset] X1 hx (D d5_3) rfl ?_
  refine zan 5 X1 hx (D d5_4) rfl rfl ?_
  refine zin 6 X1 hx (D d5_5) rfl ?_
  refine zan 7 X1 hx (D d5_6) rfl rfl ?_
  refine zic 8 0 X1 hx (D d5_7) ?_
  refine zin 9 X1 hx (D d5_8) rfl ?_
  have ft3 := (V_a1.ext E1)
  refine gS 12 0 1 14 X1 N0 hx hZ (y := mq0) hown hml (ww hw 25 rfl) (ww hw 26 rfl) (ww hw 22 rfl) (nc5 l Z a0 hw [] b1 kc1 a1 k1 n cs h1 n0 O1 lc H ne_a1_b1 g_b1 ft3 V_b1) (ww hw 27 rfl) e1 [(.ref a1), (.int 0), (.ref b1), (.int 0), (.int n)] [] (lenOf pd___CI_BII_I rfl) (D d5_9) ?_
  rintro T2 L2 M2 _ X2 uu2 ⟨rfl, Nq2, kq2, vq2⟩
  have N2 := uu2 Nq2
  have O2 : Old Z n0 T2.heap := O1.keep kq2 (allS g_b1 all0)
  have K2 : Keep h0 T2.heap [] := K1.trans kq2 (allS (Or.inr sz_b1) all0)
  refine zsk [(.int n)] ?_
  refine zsl 14 #[rv a1, iv 0, iv n, rv b1, iv n, .unset] X2 hx (D d5_12) ?_
  refine zil 16 X2 hx (D d5_14) rfl ?_
  refine zin 17 X2 hx (D d5_16) rfl ?_
  refine zcy 57 X2 hx (D d5_17) (teq (rfl : n = n)).1 ?_
  refine zan 58 X2 hx (D d5_57) rfl rfl ?_
  refine Go.retV X2 hlk hx (t := (.array .byte)) hret rfl (Or.inr (Or.inr (Or.inr (Or.inr ⟨rfl, rfl, rfl⟩)))) (D d5_58) rfl ?_ (by decide) (by decide)
  exact ⟨b1, kc1, rfl, N2, sz_b1, K2, vq2⟩
theorem d7_0 : decode jdk_52_method_15_code 0 = .ok (.iload_n 1, 1) := by decide +kernel
theorem d7_1 : decode jdk_52_method_15_code 1 = .ok (.aload_n 0, 1) := by decide +kernel
theorem d7_2 : decode jdk_52_method_15_code 2 = .ok (.arraylength, 1) := by decide +kernel
theorem d7_3 : decode jdk_52_method_15_code 3 = .ok (.isub, 1) := by decide +kernel
theorem d7_4 : decode jdk_52_method_15_code 4 = .ok (.bipush 31, 2) := by decide +kernel
theorem d7_6 : decode jdk_52_method_15_code 6 = .ok (.iushr, 1) := by decide +kernel
theorem d7_7 : decode jdk_52_method_15_code 7 = .ok (.i2b, 1) := by decide +kernel
theorem d7_8 : decode jdk_52_method_15_code 8 = .ok (.ireturn, 1) := by decide +kernel
set_option maxRecDepth 65536 in
set_option maxHeartbeats 40000000 in
theorem ncc (l : Launch) (Z : State) (a0 : Array Value) (hw : ∀ d ∈ tables_1, d.before a0 Z = true) (ws : List Jvm.Cond) (a1 : Addr) (k1 : ClassId) (n : Int32) (es : List Value) (h0 : Heap) (n0 : Nat) (O0 : Old Z n0 h0) (V_a1 : Arv Z h0 a1 k1 .byte n es (.int 0)) :
    Con l Z mq2 jdk_52_method_15_code 2 (some .byte) ws ({ frames := 0, cells := 0, slots := 0, locals := 0 } : Room) #[(.ref a1), (.int n)] h0 (fun v h L => v = some (.int 0) ∧ Fr n0 L ∧ h = h0) := by
  refine own_body (plainFor_of_name pn_java_lang_StringUTF16) ?_
  intro p e s m below meth c s₁ hx hby hml hZ hown hnm hlk hret X0 e0
  have N0 := Fr.nil n0
  have D := @hb _ _ hby
  refine Go.st (T' := s₁) (f' := (mkF m 0 #[rv a1, iv n] [])) (fun _ k => castTop (by first | (simp [entryFrame, mkF, argsToLocals, Value.category]; done) | rfl) k) ?_
  have lt_a1 := V_a1.lt
  refine zin 1 X0 hx (D d7_0) rfl ?_
  refine zan 2 X0 hx (D d7_1) rfl rfl ?_
  obtain ⟨cl1, Ar1, -, S1, Nx1, -, -⟩ := id V_a1
  refine Go.st (T' := s₁) (f' := (mkF m 3 #[rv a1, iv n] [(.int n), (.int n)])) (fun _ k => X0.arraylength hx (by rw [e0]; exact Ar1.1) (State.isArrayOf_alike hZ.alike Ar1.2.1) (g := (mkF m 2 #[rv a1, iv n] [(.ref a1), (.int n)])) rfl rfl (D d7_2) _ (by rw [len_of S1 Nx1]; exact k)) ?_
  refine zsb 4 X0 hx (D d7_3) ?_
  rw [own_sub0 n]
  refine zbp 6 31 X0 hx (D d7_4) ?_
  refine Go.st (f' := (mkF m 7 #[rv a1, iv n] [(.int 0)])) (fun _ k => XS.iushr X0.here hx rfl (D d7_6) rfl k) ?_
  refine Go.st (f' := (mkF m 8 #[rv a1, iv n] [(.int 0)])) (fun _ k => XS.i2b X0.here hx rfl (D d7_7) rfl k) ?_
  refine Go.retB X0 hlk hx (t := .byte) hret (by simp) (D d7_8) e0 ?_ (by decide) (by decide)
  exact ⟨rfl, N0, rfl⟩
theorem pn_java_lang_String : plainName "java/lang/String" = true := by first | (simp [plainName, overriddenIn]; done) | decide +kernel
theorem d3_0 : decode jdk_42_method_149_code 0 = .ok (.aload_n 0, 1) := by decide +kernel
theorem d3_1 : decode jdk_42_method_149_code 1 = .ok (.invokespecial 1, 3) := by decide +kernel
theorem d3_4 : decode jdk_42_method_149_code 4 = .ok (.iload_n 3, 1) := by decide +kernel
theorem d3_5 : decode jdk_42_method_149_code 5 = .ok (.ifCond .ne 22, 3) := by decide +kernel
theorem d3_27 : decode jdk_42_method_149_code 27 = .ok (.getstatic 38, 3) := by decide +kernel
theorem d3_30 : decode jdk_42_method_149_code 30 = .ok (.ifCond .eq 28, 3) := by decide +kernel
theorem d3_33 : decode jdk_42_method_149_code 33 = .ok (.aload_n 1, 1) := by decide +kernel
theorem d3_34 : decode jdk_42_method_149_code 34 = .ok (.iload_n 2, 1) := by decide +kernel
theorem d3_35 : decode jdk_42_method_149_code 35 = .ok (.iload_n 3, 1) := by decide +kernel
theorem d3_36 : decode jdk_42_method_149_code 36 = .ok (.invokestatic 177, 3) := by decide +kernel
theorem pd___CII__B : parseMethodDescriptor "([CII)[B" = some ⟨[(.array .char), .int, .int], some (.array .byte)⟩ := by decide +kernel
theorem d3_39 : decode jdk_42_method_149_code 39 = .ok (.astore 5, 2) := by decide +kernel
theorem d3_41 : decode jdk_42_method_149_code 41 = .ok (.aload_n 0, 1) := by decide +kernel
theorem d3_42 : decode jdk_42_method_149_code 42 = .ok (.aload 5, 2) := by decide +kernel
theorem d3_44 : decode jdk_42_method_149_code 44 = .ok (.iload_n 3, 1) := by decide +kernel
theorem d3_45 : decode jdk_42_method_149_code 45 = .ok (.invokestatic 47, 3) := by decide +kernel
theorem pd___BI_B : parseMethodDescriptor "([BI)B" = some ⟨[(.array .byte), .int], some .byte⟩ := by decide +kernel
theorem d3_48 : decode jdk_42_method_149_code 48 = .ok (.putfield 15, 3) := by decide +kernel
theorem d3_51 : decode jdk_42_method_149_code 51 = .ok (.aload_n 0, 1) := by decide +kernel
theorem d3_52 : decode jdk_42_method_149_code 52 = .ok (.aload 5, 2) := by decide +kernel
theorem d3_54 : decode jdk_42_method_149_code 54 = .ok (.putfield 9, 3) := by decide +kernel
theorem d3_57 : decode jdk_42_method_149_code 57 = .ok (.return_, 1) := by decide +kernel
set_option maxRecDepth 65536 in
set_option maxHeartbeats 40000000 in
theorem ncv (l : Launch) (Z : State) (a0 : Array Value) (hw : ∀ d ∈ tables_1, d.before a0 Z = true) (ws : List Jvm.Cond) (a0b : Addr) (a1 : Addr) (k1 : ClassId) (n : Int32) (cs : List Value) (wV : Addr) (w1_ : Addr) (w2_ : Addr) (w3_ : Addr) (kV : ClassId) (iC : Int32) (vF : Value) (lS1 : Addr) (lT1 : Addr) (lK1 : ClassId) (lS2 : Addr) (lT2 : Addr) (lK2 : ClassId) (lS3 : Addr) (lT3 : Addr) (lK3 : ClassId) (h0 : Heap) (n0 : Nat) (O0 : Old Z n0 h0) (lc : Ln n cs) (H : Ch cs) (h0n : ¬ n = (0 : Int32)) (hcap : n.toNatClampNeg ≤ 14) (g_a0b : n0 ≤ a0b) (nb1 : a0b ≠ a1) (E_a0b : Exa Z h0 a0b "java/lang/String") (F_a0b_coder : Fld Z h0 a0b "java/lang/String" "coder" "B" (.int 0)) (F_a0b_value : Fld Z h0 a0b "java/lang/String" "value" "[B" .null) (V_a1 : Arv Z h0 a1 k1 .char n cs (.int 0)) (WW : World1 Z wV w1_ w2_ w3_ kV iC vF lS1 lT1 lK1 lS2 lT2 lK2 lS3 lT3 lK3) :
    Con l Z mq3 jdk_42_method_149_code 6 none ws ({ frames := 2, cells := 1, slots := 14, locals := 35 } : Room) #[(.ref a0b), (.ref a1), (.int 0), (.int n), .null] h0 (fun v h L => v = none ∧ Fr n0 L ∧ Keep h0 h [a0b] ∧ Exa Z h a0b "java/lang/String" ∧ Fld Z h a0b "java/lang/String" "coder" "B" (.int 0) ∧ ∃ (t : Addr) (kt : ClassId), h0.size ≤ t ∧ Fld Z h a0b "java/lang/String" "value" "[B" (.ref t) ∧ Arv Z h t kt .byte n (cs.map byt) (.int 0)) := by
  refine own_body (plainFor_of_name pn_java_lang_String) ?_
  intro p e s m below meth c s₁ hx hby hml hZ hown hnm hlk hret X0 e0
  have N0 := Fr.nil n0
  have D := @hb _ _ hby
  have K0 : Keep h0 h0 [a0b] := Keep.refl _ _
  refine Go.st (T' := s₁) (f' := (mkF m 0 #[rv a0b, rv a1, iv 0, iv n, .val .null, .unset] [])) (fun _ k => castTop (by first | (simp [entryFrame, mkF, argsToLocals, Value.category]; done) | rfl) k) ?_
  have ⟨S_iC, nz_iC, S_vF, r_vF, S_wV, E_wV, S_w1_, E_w1_, S_w2_, E_w2_, S_w3_, E_w3_, V_wV, F_w1__label, E_lS1, F_lS1_coder, F_lS1_value, V_lT1, F_w2__label, E_lS2, F_lS2_coder, F_lS2_value, V_lT2, F_w3__label, E_lS3, F_lS3_coder, F_lS3_value, V_lT3⟩ := WW
  have lt_wV := E_wV.lt
  have lt_w1_ := E_w1_.lt
  have lt_w2_ := E_w2_.lt
  have lt_w3_ := E_w3_.lt
  have lt_lS1 := E_lS1.lt
  have lt_lT1 := V_lT1.lt
  have lt_lS2 := E_lS2.lt
  have lt_lT2 := V_lT2.lt
  have lt_lS3 := E_lS3.lt
  have lt_lT3 := V_lT3.lt
  have lt_a0b := E_a0b.lt
  have ne_wV_a0b : wV ≠ a0b := O0.ne lt_wV g_a0b
  have ne_w1__a0b : w1_ ≠ a0b := O0.ne lt_w1_ g_a0b
  have ne_w2__a0b : w2_ ≠ a0b := O0.ne lt_w2_ g_a0b
  have ne_w3__a0b : w3_ ≠ a0b := O0.ne lt_w3_ g_a0b
  have ne_lS1_a0b : lS1 ≠ a0b := O0.ne lt_lS1 g_a0b
  have ne_lT1_a0b : lT1 ≠ a0b := O0.ne lt_lT1 g_a0b
  have ne_lS2_a0b : lS2 ≠ a0b := O0.ne lt_lS2 g_a0b
  have ne_lT2_a0b : lT2 ≠ a0b := O0.ne lt_lT2 g_a0b
  have ne_lS3_a0b : lS3 ≠ a0b := O0.ne lt_lS3 g_a0b
  have ne_lT3_a0b : lT3 ≠ a0b := O0.ne lt_lT3 g_a0b
  have lt_a1 := V_a1.lt
  refine zan 1 X0 hx (D d3_0) rfl rfl ?_
  obtain ⟨T1, X1, e1, st1⟩ := initO X0 hx hZ hown (ww hw 16 rfl) (ww hw 17 rfl) (ww hw 18 rfl) e0 (g := (mkF m 1 #[rv a0b, rv a1, iv 0, iv n, .val .null, .unset] [(.ref a0b)])) rfl (by rw [hml]; rfl) rfl (D d3_1) (by decide) (W := 0) (by show 2 * 0 + _ ≤ _; exact Nat.le_of_eq rfl) (by decide)
  refine zst 4 #[rv a0b, rv a1, iv 0, iv n, .val .null, .unset] [] st1 ?_
  refine zin 5 X1 hx (D d3_4) rfl ?_
  refine zfy 27 X1 hx (D d3_5) ((if0 _ _).trans (feq h0n).2) ?_
  obtain ⟨T2, X2, e2, st2⟩ := getS2 X1 hx hZ hown (host := "") (Or.inl (ww hw 19 rfl)) Via.refl e1 (S_iC.ext O0.2) (g := (mkF m 27 #[rv a0b, rv a1, iv 0, iv n, .val .null, .unset] [])) rfl (D d3_27)
  refine zst 30 #[rv a0b, rv a1, iv 0, iv n, .val .null, .unset] [(.int iC)] st2 ?_
  refine zfn 33 X2 hx (D d3_30) ((if0 _ _).trans (feq nz_iC).1) ?_
  refine zan 34 X2 hx (D d3_33) rfl rfl ?_
  refine zin 35 X2 hx (D d3_34) rfl ?_
  refine zin 36 X2 hx (D d3_35) rfl ?_
  refine gS 39 0 1 14 X2 N0 hx hZ (y := mq1) hown hml (ww hw 20 rfl) (ww hw 21 rfl) (ww hw 22 rfl) (nc3 l Z a0 hw [] a1 k1 n cs h0 n0 O0 lc H h0n hcap V_a1) (ww hw 23 rfl) e2 [(.ref a1), (.int 0), (.int n)] [] (lenOf pd___CII__B rfl) (D d3_36) ?_
  rintro T3 L3 M3 _ X3 uu3 ⟨b3, kb3, rfl, Nq3, zq3, kq3, vq3⟩
  have N3 := uu3 Nq3
  have ne_a0b_b3 : a0b ≠ b3 := Nat.ne_of_lt (Nat.lt_of_lt_of_le lt_a0b zq3)
  have ne_a1_b3 : a1 ≠ b3 := Nat.ne_of_lt (Nat.lt_of_lt_of_le lt_a1 zq3)
  have ne_wV_b3 : wV ≠ b3 := Nat.ne_of_lt (Nat.lt_of_lt_of_le lt_wV (Nat.le_trans O0.2.1 zq3))
  have ne_w1__b3 : w1_ ≠ b3 := Nat.ne_of_lt (Nat.lt_of_lt_of_le lt_w1_ (Nat.le_trans O0.2.1 zq3))
  have ne_w2__b3 : w2_ ≠ b3 := Nat.ne_of_lt (Nat.lt_of_lt_of_le lt_w2_ (Nat.le_trans O0.2.1 zq3))
  have ne_w3__b3 : w3_ ≠ b3 := Nat.ne_of_lt (Nat.lt_of_lt_of_le lt_w3_ (Nat.le_trans O0.2.1 zq3))
  have ne_lS1_b3 : lS1 ≠ b3 := Nat.ne_of_lt (Nat.lt_of_lt_of_le lt_lS1 (Nat.le_trans O0.2.1 zq3))
  have ne_lT1_b3 : lT1 ≠ b3 := Nat.ne_of_lt (Nat.lt_of_lt_of_le lt_lT1 (Nat.le_trans O0.2.1 zq3))
  have ne_lS2_b3 : lS2 ≠ b3 := Nat.ne_of_lt (Nat.lt_of_lt_of_le lt_lS2 (Nat.le_trans O0.2.1 zq3))
  have ne_lT2_b3 : lT2 ≠ b3 := Nat.ne_of_lt (Nat.lt_of_lt_of_le lt_lT2 (Nat.le_trans O0.2.1 zq3))
  have ne_lS3_b3 : lS3 ≠ b3 := Nat.ne_of_lt (Nat.lt_of_lt_of_le lt_lS3 (Nat.le_trans O0.2.1 zq3))
  have ne_lT3_b3 : lT3 ≠ b3 := Nat.ne_of_lt (Nat.lt_of_lt_of_le lt_lT3 (Nat.le_trans O0.2.1 zq3))
  have g_b3 : n0 ≤ b3 := Nat.le_trans (O0.1 ▸ O0.2.1) zq3
  have sz_b3 : h0.size ≤ b3 := Nat.le_trans K0.1 zq3
  have O3 : Old Z n0 T3.heap := O0.keep kq3 all0
  have K3 : Keep h0 T3.heap [a0b] := K0.trans kq3 all0
  have lt_b3 := vq3.lt
  refine zsk [(.ref b3)] ?_
  refine zrl 41 #[rv a0b, rv a1, iv 0, iv n, .val .null, rv b3] X3 hx (D d3_39) rfl ?_
  refine zan 42 X3 hx (D d3_41) rfl rfl ?_
  refine zal 44 X3 hx (D d3_42) rfl rfl ?_
  refine zin 45 X3 hx (D d3_44) rfl ?_
  refine gS 48 1 1 14 X3 N3 hx hZ (y := mq2) hown hml (ww hw 28 rfl) (ww hw 29 rfl) (ww hw 22 rfl) (ncc l Z a0 hw [] b3 kb3 n (cs.map byt) T3.heap n0 O3 vq3) (ww hw 30 rfl) rfl [(.ref b3), (.int n)] [(.ref a0b)] (lenOf pd___BI_B rfl) (D d3_45) ?_
  rintro T4 L4 M4 _ X4 uu4 ⟨rfl, Nq4, kq4⟩
  have N4 := uu4 Nq4
  refine zsk [(.int 0), (.ref a0b)] ?_
  have ft5 := (E_a0b.keep kq3)
  have ft6 := (F_a0b_coder.keep kq3 nin0)
  obtain ⟨T7, h7, X7, e7, W7, st7⟩ := putFN X4 hx hZ hown (ww hw 31 rfl) Via.refl kq4 ft6 ft5 (Or.inr ⟨(ww hw 32 rfl), rfl, hnm⟩) (ww hw 7 rfl) (ty := .byte) (v' := (.int (0 : Int32))) (by decide) rfl (by decide) (g := (mkF m 48 #[rv a0b, rv a1, iv 0, iv n, .val .null, rv b3] [(.int 0), (.ref a0b)])) rfl rfl (D d3_48)
  have N7 := Fr.snoc X7 N4 g_a0b
  have O7 : Old Z n0 h7 := O3.wr W7 g_a0b
  have K7 : Keep h0 h7 [a0b] := K3.wr W7 (Or.inl (List.mem_of_getElem? (i := 0) rfl))
  have Fw7 := ft6.same W7
  refine zst 51 #[rv a0b, rv a1, iv 0, iv n, .val .null, rv b3] [] st7 ?_
  refine zan 52 X7 hx (D d3_51) rfl rfl ?_
  refine zal 54 X7 hx (D d3_52) rfl rfl ?_
  have ft8 := (ft5.wr W7)
  have ft9 := ((F_a0b_value.keep kq3 nin0).other W7 (Or.inr (slot_ne (Or.inr (ww hw 34 rfl)) (Or.inr (ww hw 32 rfl)) (by decide) (t := (.array .byte)) (t' := .byte) (by decide) (by decide))))
  obtain ⟨T10, h10, X10, e10, W10, st10⟩ := putF X7 hx hZ hown (host := "") (Or.inl (ww hw 33 rfl)) Via.refl e7 ft9 ft8 (Or.inr ⟨(ww hw 34 rfl), rfl, hnm⟩) (ww hw 7 rfl) (ty := (.array .byte)) (by decide) rfl rfl (g := (mkF m 54 #[rv a0b, rv a1, iv 0, iv n, .val .null, rv b3] [(.ref b3), (.ref a0b)])) rfl rfl (D d3_54)
  have N10 := Fr.snoc X10 N7 g_a0b
  have O10 : Old Z n0 h10 := O7.wr W10 g_a0b
  have K10 : Keep h0 h10 [a0b] := K7.wr W10 (Or.inl (List.mem_of_getElem? (i := 0) rfl))
  have Fw10 := ft9.same W10
  refine zst 57 #[rv a0b, rv a1, iv 0, iv n, .val .null, rv b3] [] st10 ?_
  refine Go.ret0 X10 hlk hx hret (D d3_57) e10 ?_ (by decide) (by decide)
  have ft11 := (ft8.wr W10)
  have ft12 := (Fw7.other W10 (Or.inr (slot_ne (Or.inr (ww hw 32 rfl)) (Or.inr (ww hw 34 rfl)) (by decide) (t := .byte) (t' := (.array .byte)) (by decide) (by decide))))
  have ft13 := ((vq3.other W7 (Ne.symm ne_a0b_b3)).other W10 (Ne.symm ne_a0b_b3))
  exact ⟨rfl, N10, K10, ft11, ft12, b3, kb3, sz_b3, Fw10, ft13⟩
theorem d2_0 : decode jdk_42_method_3_code 0 = .ok (.aload_n 0, 1) := by decide +kernel
theorem d2_1 : decode jdk_42_method_3_code 1 = .ok (.aload_n 1, 1) := by decide +kernel
theorem d2_2 : decode jdk_42_method_3_code 2 = .ok (.iconst 0, 1) := by decide +kernel
theorem d2_3 : decode jdk_42_method_3_code 3 = .ok (.aload_n 1, 1) := by decide +kernel
theorem d2_4 : decode jdk_42_method_3_code 4 = .ok (.arraylength, 1) := by decide +kernel
theorem d2_5 : decode jdk_42_method_3_code 5 = .ok (.aconst_null, 1) := by decide +kernel
theorem d2_6 : decode jdk_42_method_3_code 6 = .ok (.invokespecial 27, 3) := by decide +kernel
theorem pd___CIILjava_lang_Void__V : parseMethodDescriptor "([CIILjava/lang/Void;)V" = some ⟨[(.array .char), .int, .int, (.object "java/lang/Void")], none⟩ := by decide +kernel
theorem d2_9 : decode jdk_42_method_3_code 9 = .ok (.return_, 1) := by decide +kernel
set_option maxRecDepth 65536 in
set_option maxHeartbeats 40000000 in
theorem nc1 (l : Launch) (Z : State) (a0 : Array Value) (hw : ∀ d ∈ tables_1, d.before a0 Z = true) (ws : List Jvm.Cond) (a0b : Addr) (a1 : Addr) (k1 : ClassId) (n : Int32) (cs : List Value) (wV : Addr) (w1_ : Addr) (w2_ : Addr) (w3_ : Addr) (kV : ClassId) (iC : Int32) (vF : Value) (lS1 : Addr) (lT1 : Addr) (lK1 : ClassId) (lS2 : Addr) (lT2 : Addr) (lK2 : ClassId) (lS3 : Addr) (lT3 : Addr) (lK3 : ClassId) (h0 : Heap) (n0 : Nat) (O0 : Old Z n0 h0) (lc : Ln n cs) (H : Ch cs) (h0n : ¬ n = (0 : Int32)) (hcap : n.toNatClampNeg ≤ 14) (g_a0b : n0 ≤ a0b) (nb1 : a0b ≠ a1) (E_a0b : Exa Z h0 a0b "java/lang/String") (F_a0b_coder : Fld Z h0 a0b "java/lang/String" "coder" "B" (.int 0)) (F_a0b_value : Fld Z h0 a0b "java/lang/String" "value" "[B" .null) (V_a1 : Arv Z h0 a1 k1 .char n cs (.int 0)) (WW : World1 Z wV w1_ w2_ w3_ kV iC vF lS1 lT1 lK1 lS2 lT2 lK2 lS3 lT3 lK3) :
    Con l Z mq4 jdk_42_method_3_code 2 none ws ({ frames := 3, cells := 1, slots := 14, locals := 52 } : Room) #[(.ref a0b), (.ref a1)] h0 (fun v h L => v = none ∧ Fr n0 L ∧ Keep h0 h [a0b] ∧ Exa Z h a0b "java/lang/String" ∧ Fld Z h a0b "java/lang/String" "coder" "B" (.int 0) ∧ ∃ (t : Addr) (kt : ClassId), h0.size ≤ t ∧ Fld Z h a0b "java/lang/String" "value" "[B" (.ref t) ∧ Arv Z h t kt .byte n (cs.map byt) (.int 0)) := by
  refine own_body (plainFor_of_name pn_java_lang_String) ?_
  intro p e s m below meth c s₁ hx hby hml hZ hown hnm hlk hret X0 e0
  have N0 := Fr.nil n0
  have D := @hb _ _ hby
  have K0 : Keep h0 h0 [a0b] := Keep.refl _ _
  refine Go.st (T' := s₁) (f' := (mkF m 0 #[rv a0b, rv a1] [])) (fun _ k => castTop (by first | (simp [entryFrame, mkF, argsToLocals, Value.category]; done) | rfl) k) ?_
  have ⟨S_iC, nz_iC, S_vF, r_vF, S_wV, E_wV, S_w1_, E_w1_, S_w2_, E_w2_, S_w3_, E_w3_, V_wV, F_w1__label, E_lS1, F_lS1_coder, F_lS1_value, V_lT1, F_w2__label, E_lS2, F_lS2_coder, F_lS2_value, V_lT2, F_w3__label, E_lS3, F_lS3_coder, F_lS3_value, V_lT3⟩ := WW
  have lt_wV := E_wV.lt
  have lt_w1_ := E_w1_.lt
  have lt_w2_ := E_w2_.lt
  have lt_w3_ := E_w3_.lt
  have lt_lS1 := E_lS1.lt
  have lt_lT1 := V_lT1.lt
  have lt_lS2 := E_lS2.lt
  have lt_lT2 := V_lT2.lt
  have lt_lS3 := E_lS3.lt
  have lt_lT3 := V_lT3.lt
  have lt_a0b := E_a0b.lt
  have ne_wV_a0b : wV ≠ a0b := O0.ne lt_wV g_a0b
  have ne_w1__a0b : w1_ ≠ a0b := O0.ne lt_w1_ g_a0b
  have ne_w2__a0b : w2_ ≠ a0b := O0.ne lt_w2_ g_a0b
  have ne_w3__a0b : w3_ ≠ a0b := O0.ne lt_w3_ g_a0b
  have ne_lS1_a0b : lS1 ≠ a0b := O0.ne lt_lS1 g_a0b
  have ne_lT1_a0b : lT1 ≠ a0b := O0.ne lt_lT1 g_a0b
  have ne_lS2_a0b : lS2 ≠ a0b := O0.ne lt_lS2 g_a0b
  have ne_lT2_a0b : lT2 ≠ a0b := O0.ne lt_lT2 g_a0b
  have ne_lS3_a0b : lS3 ≠ a0b := O0.ne lt_lS3 g_a0b
  have ne_lT3_a0b : lT3 ≠ a0b := O0.ne lt_lT3 g_a0b
  have lt_a1 := V_a1.lt
  refine zan 1 X0 hx (D d2_0) rfl rfl ?_
  refine zan 2 X0 hx (D d2_1) rfl rfl ?_
  refine zic 3 0 X0 hx (D d2_2) ?_
  refine zan 4 X0 hx (D d2_3) rfl rfl ?_
  obtain ⟨cl1, Ar1, -, S1, Nx1, -, -⟩ := id V_a1
  refine Go.st (T' := s₁) (f' := (mkF m 5 #[rv a0b, rv a1] [(.int n), (.int 0), (.ref a1), (.ref a0b)])) (fun _ k => X0.arraylength hx (by rw [e0]; exact Ar1.1) (State.isArrayOf_alike hZ.alike Ar1.2.1) (g := (mkF m 4 #[rv a0b, rv a1] [(.ref a1), (.int 0), (.ref a1), (.ref a0b)])) rfl rfl (D d2_4) _ (by rw [len_of S1 Nx1]; exact k)) ?_
  refine Go.st (f' := (mkF m 6 #[rv a0b, rv a1] [.null, (.int n), (.int 0), (.ref a1), (.ref a0b)])) (fun _ k => XS.aconstNull X0.here hx rfl (D d2_5) k) ?_
  obtain ⟨_, _, ⟨T2, L2, kk2, nn2⟩, -, X2, ⟨Lc2, hQ2, lq2, yq2, zz2⟩, st2⟩ := X0.specialBack hx (y := mq3) rfl hown (mvT hZ (ww hw 12 rfl)) (mvT hZ (ww hw 13 rfl)) (mvT hZ (ww hw 15 rfl)) (by decide) (own_back (W := 0) (ncv l Z a0 hw [] a0b a1 k1 n cs wV w1_ w2_ w3_ kV iC vF lS1 lT1 lK1 lS2 lT2 lK2 lS3 lT3 lK3 h0 n0 O0 lc H h0n hcap g_a0b nb1 E_a0b F_a0b_coder F_a0b_value V_a1 WW) hZ (ww hw 15 rfl) (ww hw 8 rfl) (by decide) (by decide)) (g := (mkF m 6 #[rv a0b, rv a1] [.null, (.int n), (.int 0), (.ref a1), (.ref a0b)])) rfl (by rw [hml]; rfl) (Steps.refl _) (a := a0b) (argsL := [(.ref a1), (.int (0 : Int32)), (.int n), .null]) (rest := []) (lenOf pd___CIILjava_lang_Void__V rfl) rfl (by show 2 * 0 + _ ≤ _; exact Nat.le_of_eq rfl) (D d2_6) (fun _ _ => ⟨rfl, e0, (by decide : 0 + 1 ≤ _), (by decide : 0 + 14 ≤ _)⟩)
  dsimp only [Pt.U, Pt.locs, Pt.cells, Pt.slots] at X2 lq2 yq2 zz2 st2 hQ2
  subst lq2 yq2 zz2
  obtain ⟨rfl, Nq2, kq2, eq2, cq2, tt2, kt2, zq2, fq2, vq2⟩ := hQ2
  have N2 := Fr.app N0 Nq2
  have ne_a0b_tt2 : a0b ≠ tt2 := Nat.ne_of_lt (Nat.lt_of_lt_of_le lt_a0b zq2)
  have ne_a1_tt2 : a1 ≠ tt2 := Nat.ne_of_lt (Nat.lt_of_lt_of_le lt_a1 zq2)
  have ne_wV_tt2 : wV ≠ tt2 := Nat.ne_of_lt (Nat.lt_of_lt_of_le lt_wV (Nat.le_trans O0.2.1 zq2))
  have ne_w1__tt2 : w1_ ≠ tt2 := Nat.ne_of_lt (Nat.lt_of_lt_of_le lt_w1_ (Nat.le_trans O0.2.1 zq2))
  have ne_w2__tt2 : w2_ ≠ tt2 := Nat.ne_of_lt (Nat.lt_of_lt_of_le lt_w2_ (Nat.le_trans O0.2.1 zq2))
  have ne_w3__tt2 : w3_ ≠ tt2 := Nat.ne_of_lt (Nat.lt_of_lt_of_le lt_w3_ (Nat.le_trans O0.2.1 zq2))
  have ne_lS1_tt2 : lS1 ≠ tt2 := Nat.ne_of_lt (Nat.lt_of_lt_of_le lt_lS1 (Nat.le_trans O0.2.1 zq2))
  have ne_lT1_tt2 : lT1 ≠ tt2 := Nat.ne_of_lt (Nat.lt_of_lt_of_le lt_lT1 (Nat.le_trans O0.2.1 zq2))
  have ne_lS2_tt2 : lS2 ≠ tt2 := Nat.ne_of_lt (Nat.lt_of_lt_of_le lt_lS2 (Nat.le_trans O0.2.1 zq2))
  have ne_lT2_tt2 : lT2 ≠ tt2 := Nat.ne_of_lt (Nat.lt_of_lt_of_le lt_lT2 (Nat.le_trans O0.2.1 zq2))
  have ne_lS3_tt2 : lS3 ≠ tt2 := Nat.ne_of_lt (Nat.lt_of_lt_of_le lt_lS3 (Nat.le_trans O0.2.1 zq2))
  have ne_lT3_tt2 : lT3 ≠ tt2 := Nat.ne_of_lt (Nat.lt_of_lt_of_le lt_lT3 (Nat.le_trans O0.2.1 zq2))
  have g_tt2 : n0 ≤ tt2 := Nat.le_trans (O0.1 ▸ O0.2.1) zq2
  have sz_tt2 : h0.size ≤ tt2 := Nat.le_trans K0.1 zq2
  have O2 : Old Z n0 T2.heap := O0.keep kq2 (allS g_a0b all0)
  have K2 : Keep h0 T2.heap [a0b] := K0.trans kq2 (allS (Or.inl (List.mem_of_getElem? (i := 0) rfl)) all0)
  have lt_tt2 := vq2.lt
  refine Go.tr (f' := (mkF m 9 #[rv a0b, rv a1] [])) st2 ?_
  refine Go.ret0 X2 hlk hx hret (D d2_9) rfl ?_ (by decide) (by decide)
  exact ⟨rfl, N2, K2, eq2, cq2, tt2, kt2, sz_tt2, fq2, vq2⟩
theorem pn_java_lang_StringLatin1 : plainName "java/lang/StringLatin1" = true := by first | (simp [plainName, overriddenIn]; done) | decide +kernel
theorem d13_0 : decode jdk_43_method_13_code 0 = .ok (.aload_n 0, 1) := by decide +kernel
theorem d13_1 : decode jdk_43_method_13_code 1 = .ok (.arraylength, 1) := by decide +kernel
theorem d13_2 : decode jdk_43_method_13_code 2 = .ok (.aload_n 1, 1) := by decide +kernel
theorem d13_3 : decode jdk_43_method_13_code 3 = .ok (.arraylength, 1) := by decide +kernel
theorem d13_4 : decode jdk_43_method_13_code 4 = .ok (.if_icmp .ne 30, 3) := by decide +kernel
theorem d13_7 : decode jdk_43_method_13_code 7 = .ok (.iconst 0, 1) := by decide +kernel
theorem d13_8 : decode jdk_43_method_13_code 8 = .ok (.istore_n 2, 1) := by decide +kernel
theorem d13_9 : decode jdk_43_method_13_code 9 = .ok (.iload_n 2, 1) := by decide +kernel
theorem d13_10 : decode jdk_43_method_13_code 10 = .ok (.aload_n 0, 1) := by decide +kernel
theorem d13_11 : decode jdk_43_method_13_code 11 = .ok (.arraylength, 1) := by decide +kernel
theorem d13_12 : decode jdk_43_method_13_code 12 = .ok (.if_icmp .ge 20, 3) := by decide +kernel
theorem d13_32 : decode jdk_43_method_13_code 32 = .ok (.iconst 1, 1) := by decide +kernel
theorem d13_33 : decode jdk_43_method_13_code 33 = .ok (.ireturn, 1) := by decide +kernel
theorem d13_15 : decode jdk_43_method_13_code 15 = .ok (.aload_n 0, 1) := by decide +kernel
theorem d13_16 : decode jdk_43_method_13_code 16 = .ok (.iload_n 2, 1) := by decide +kernel
theorem d13_17 : decode jdk_43_method_13_code 17 = .ok (.baload, 1) := by decide +kernel
theorem d13_18 : decode jdk_43_method_13_code 18 = .ok (.aload_n 1, 1) := by decide +kernel
theorem d13_19 : decode jdk_43_method_13_code 19 = .ok (.iload_n 2, 1) := by decide +kernel
theorem d13_20 : decode jdk_43_method_13_code 20 = .ok (.baload, 1) := by decide +kernel
theorem d13_21 : decode jdk_43_method_13_code 21 = .ok (.if_icmp .eq 5, 3) := by decide +kernel
theorem d13_26 : decode jdk_43_method_13_code 26 = .ok (.iinc 2 1, 3) := by decide +kernel
theorem d13_29 : decode jdk_43_method_13_code 29 = .ok (.goto (-20), 3) := by decide +kernel
theorem d13_24 : decode jdk_43_method_13_code 24 = .ok (.iconst 0, 1) := by decide +kernel
theorem d13_25 : decode jdk_43_method_13_code 25 = .ok (.ireturn, 1) := by decide +kernel
theorem d13_34 : decode jdk_43_method_13_code 34 = .ok (.iconst 0, 1) := by decide +kernel
theorem d13_35 : decode jdk_43_method_13_code 35 = .ok (.ireturn, 1) := by decide +kernel
set_option maxRecDepth 65536 in
set_option maxHeartbeats 40000000 in
theorem qel (l : Launch) (Z : State) (a0 : Array Value) (hw : ∀ d ∈ tables_1, d.before a0 Z = true) (ws : List Jvm.Cond) (t1 : Addr) (k1 : ClassId) (n1 : Int32) (xs : List Value) (t2 : Addr) (k2 : ClassId) (n2 : Int32) (ys : List Value) (h0 : Heap) (n0 : Nat) (O0 : Old Z n0 h0) (l1 : Ln n1 xs) (v1 : Iv xs) (l2 : Ln n2 ys) (v2 : Iv ys) (V_t1 : Arv Z h0 t1 k1 .byte n1 xs (.int 0)) (V_t2 : Arv Z h0 t2 k2 .byte n2 ys (.int 0)) :
    Con l Z mq5 jdk_43_method_13_code 3 (some .boolean) ws ({ frames := 0, cells := 0, slots := 0, locals := 0 } : Room) #[(.ref t1), (.ref t2)] h0 (fun v h L => ((v = some (.int 1) ∧ xs = ys) ∨ (v = some (.int 0) ∧ xs ≠ ys)) ∧ Fr n0 L ∧ h = h0) := by
  refine own_body (plainFor_of_name pn_java_lang_StringLatin1) ?_
  intro p e s m below meth c s₁ hx hby hml hZ hown hnm hlk hret X0 e0
  have N0 := Fr.nil n0
  have D := @hb _ _ hby
  refine Go.st (T' := s₁) (f' := (mkF m 0 #[rv t1, rv t2, .unset] [])) (fun _ k => castTop (by first | (simp [entryFrame, mkF, argsToLocals, Value.category]; done) | rfl) k) ?_
  have lt_t1 := V_t1.lt
  have lt_t2 := V_t2.lt
  refine zan 1 X0 hx (D d13_0) rfl rfl ?_
  obtain ⟨cl1, Ar1, -, S1, Nx1, -, -⟩ := id V_t1
  refine Go.st (T' := s₁) (f' := (mkF m 2 #[rv t1, rv t2, .unset] [(.int n1)])) (fun _ k => X0.arraylength hx (by rw [e0]; exact Ar1.1) (State.isArrayOf_alike hZ.alike Ar1.2.1) (g := (mkF m 1 #[rv t1, rv t2, .unset] [(.ref t1)])) rfl rfl (D d13_1) _ (by rw [len_of S1 Nx1]; exact k)) ?_
  refine zan 3 X0 hx (D d13_2) rfl rfl ?_
  obtain ⟨cl2, Ar2, -, S2, Nx2, -, -⟩ := id V_t2
  refine Go.st (T' := s₁) (f' := (mkF m 4 #[rv t1, rv t2, .unset] [(.int n2), (.int n1)])) (fun _ k => X0.arraylength hx (by rw [e0]; exact Ar2.1) (State.isArrayOf_alike hZ.alike Ar2.2.1) (g := (mkF m 3 #[rv t1, rv t2, .unset] [(.ref t2), (.int n1)])) rfl rfl (D d13_3) _ (by rw [len_of S2 Nx2]; exact k)) ?_
  by_cases cd3 : n1 = n2
  · refine zcn 7 X0 hx (D d13_4) (teq cd3).2 ?_
    refine zic 8 0 X0 hx (D d13_7) ?_
    refine zsn 9 #[rv t1, rv t2, iv 0] X0 hx (D d13_8) ?_
    have LQ : ∀ (fuel : Nat) (TJ4 : State) (hJ4 : Heap) (LJ4 : List Loc) (i : Int32), (Stand p l e ({ frames := 0, cells := 0, slots := 0, locals := 0 } : Room) s m #[(.ref t1), (.ref t2)] below meth c TJ4 LJ4 0 0) → (TJ4.heap = hJ4) → (Old Z n0 hJ4) → (Fr n0 LJ4) → (Arv Z hJ4 t1 k1 .byte n1 xs (.int (0 : Int32))) → (Arv Z hJ4 t2 k2 .byte n2 ys (.int (0 : Int32))) → (0 ≤ i.toInt) → (i.toInt + (fuel : Int) = n1.toInt) → (Eqv xs ys i.toNatClampNeg) → (hJ4 = h0) → Go p e below (Done s (fun v h L => ((v = some (.int (1 : Int32)) ∧ xs = ys) ∨ (v = some (.int (0 : Int32)) ∧ xs ≠ ys)) ∧ Fr n0 L ∧ h = h0) ({ frames := 0, cells := 0, slots := 0, locals := 0 } : Room).cells ({ frames := 0, cells := 0, slots := 0, locals := 0 } : Room).slots) TJ4 (mkF m 9 #[rv t1, rv t2, iv i] []) := by
     intro fuel
     induction fuel with
     | zero =>
      intro TJ4 hJ4 LJ4 i XJ4 eJ4 OJ4 NJ4 cyJ4_0 cyJ4_1 hi0 hi1 J hE
      refine zin 10 XJ4 hx (D d13_9) rfl ?_
      refine zan 11 XJ4 hx (D d13_10) rfl rfl ?_
      obtain ⟨cl5, Ar5, -, S5, Nx5, -, -⟩ := id cyJ4_0
      refine Go.st (T' := TJ4) (f' := (mkF m 12 #[rv t1, rv t2, iv i] [(.int n1), (.int i)])) (fun _ k => XJ4.arraylength hx (by rw [eJ4]; exact Ar5.1) (State.isArrayOf_alike hZ.alike Ar5.2.1) (g := (mkF m 11 #[rv t1, rv t2, iv i] [(.ref t1), (.int i)])) rfl rfl (D d13_11) _ (by rw [len_of S5 Nx5]; exact k)) ?_
      refine zcy 32 XJ4 hx (D d13_12) (flt (lpZ hi1)).2.1 ?_
      refine zic 33 1 XJ4 hx (D d13_32) ?_
      refine Go.retB XJ4 hlk hx (t := .boolean) hret (by simp) (D d13_33) eJ4 ?_ (by decide) (by decide)
      exact ⟨(Or.inl ⟨rfl, eqv_fin l1 l2 cd3 hi1 J⟩), NJ4, hE⟩
     | succ fuel ih =>
      intro TJ4 hJ4 LJ4 i XJ4 eJ4 OJ4 NJ4 cyJ4_0 cyJ4_1 hi0 hi1 J hE
      obtain ⟨x, ex⟩ := v1 _ (lpN l1 hi0 hi1)
      obtain ⟨y, ey⟩ := v2 _ (lpN l2 hi0 (cd3 ▸ hi1))
      refine zin 10 XJ4 hx (D d13_9) rfl ?_
      refine zan 11 XJ4 hx (D d13_10) rfl rfl ?_
      obtain ⟨cl6, Ar6, -, S6, Nx6, -, -⟩ := id cyJ4_0
      refine Go.st (T' := TJ4) (f' := (mkF m 12 #[rv t1, rv t2, iv i] [(.int n1), (.int i)])) (fun _ k => XJ4.arraylength hx (by rw [eJ4]; exact Ar6.1) (State.isArrayOf_alike hZ.alike Ar6.2.1) (g := (mkF m 11 #[rv t1, rv t2, iv i] [(.ref t1), (.int i)])) rfl rfl (D d13_11) _ (by rw [len_of S6 Nx6]; exact k)) ?_
      refine zcn 15 XJ4 hx (D d13_12) (tlt (lpS hi1)).2.1 ?_
      refine zan 16 XJ4 hx (D d13_15) rfl rfl ?_
      refine zin 17 XJ4 hx (D d13_16) rfl ?_
      obtain ⟨cl7, Ar7, -, S7, -, H7, -⟩ := id cyJ4_0
      have hin7 : ¬ (i < 0 ∨ cl7.slots.size ≤ (i).toNatClampNeg) := inb_of S7 ⟨(i_ge0 hi0), (lpS hi1)⟩
      have hat7 : cl7.slots[(i).toNatClampNeg]? = some (.int x) := H7.at hin7 ex
      refine Go.st (f' := (mkF m 18 #[rv t1, rv t2, iv i] [(.int x)])) (fun _ k => XJ4.baloadBytes hx (j := i) (v := (.int x)) (by rw [eJ4]; exact Ar7.1) (State.isArrayOf_alike hZ.alike Ar7.2.1) Ar7.2.2 hin7 hat7 (g := (mkF m 17 #[rv t1, rv t2, iv i] [(.int i), (.ref t1)])) rfl rfl (D d13_17) _ k) ?_
      refine zan 19 XJ4 hx (D d13_18) rfl rfl ?_
      refine zin 20 XJ4 hx (D d13_19) rfl ?_
      obtain ⟨cl8, Ar8, -, S8, -, H8, -⟩ := id cyJ4_1
      have hin8 : ¬ (i < 0 ∨ cl8.slots.size ≤ (i).toNatClampNeg) := inb_of S8 ⟨(i_ge0 hi0), (cd3 ▸ lpS hi1)⟩
      have hat8 : cl8.slots[(i).toNatClampNeg]? = some (.int y) := H8.at hin8 ey
      refine Go.st (f' := (mkF m 21 #[rv t1, rv t2, iv i] [(.int y), (.int x)])) (fun _ k => XJ4.baloadBytes hx (j := i) (v := (.int y)) (by rw [eJ4]; exact Ar8.1) (State.isArrayOf_alike hZ.alike Ar8.2.1) Ar8.2.2 hin8 hat8 (g := (mkF m 20 #[rv t1, rv t2, iv i] [(.int i), (.ref t2), (.int x)])) rfl rfl (D d13_20) _ k) ?_
      by_cases cd9 : x = y
      · refine zcy 26 XJ4 hx (D d13_21) (teq cd9).1 ?_
        refine zii 29 #[rv t1, rv t2, .val (.int (i + (1 : Int32)))] XJ4 hx (D d13_26) rfl ?_
        refine zgo 9 XJ4 hx (D d13_29) ?_
        exact ih _ hJ4 _ (i + (1 : Int32)) XJ4 eJ4 OJ4 NJ4 cyJ4_0 cyJ4_1 (lpI hi0 hi1).1 (lpI hi0 hi1).2.1 (eqv_nx hi0 hi1 J ex ey cd9) hE
      · refine zcn 24 XJ4 hx (D d13_21) (feq cd9).1 ?_
        refine zic 25 0 XJ4 hx (D d13_24) ?_
        refine Go.retB XJ4 hlk hx (t := .boolean) hret (by simp) (D d13_25) eJ4 ?_ (by decide) (by decide)
        exact ⟨(Or.inr ⟨rfl, eqv_no ex ey cd9⟩), NJ4, hE⟩
    exact LQ n1.toInt.toNat _ h0 _ (0 : Int32) X0 e0 O0 N0 V_t1 V_t2 (by decide) (lpE l1) (fun j hj => absurd hj (by show ¬ j < 0; omega)) rfl
  · refine zcy 34 X0 hx (D d13_4) (feq cd3).2 ?_
    refine zic 35 0 X0 hx (D d13_34) ?_
    refine Go.retB X0 hlk hx (t := .boolean) hret (by simp) (D d13_35) e0 ?_ (by decide) (by decide)
    exact ⟨(Or.inr ⟨rfl, eqv_ln l1 l2 cd3⟩), N0, rfl⟩
theorem d12_0 : decode jdk_42_method_66_code 0 = .ok (.aload_n 0, 1) := by decide +kernel
theorem d12_1 : decode jdk_42_method_66_code 1 = .ok (.aload_n 1, 1) := by decide +kernel
theorem d12_2 : decode jdk_42_method_66_code 2 = .ok (.if_acmp .ne 5, 3) := by decide +kernel
theorem d12_5 : decode jdk_42_method_66_code 5 = .ok (.iconst 1, 1) := by decide +kernel
theorem d12_6 : decode jdk_42_method_66_code 6 = .ok (.ireturn, 1) := by decide +kernel
theorem d12_7 : decode jdk_42_method_66_code 7 = .ok (.aload_n 1, 1) := by decide +kernel
theorem d12_8 : decode jdk_42_method_66_code 8 = .ok (.instanceof 10, 3) := by decide +kernel
theorem d12_11 : decode jdk_42_method_66_code 11 = .ok (.ifCond .eq 43, 3) := by decide +kernel
theorem d12_14 : decode jdk_42_method_66_code 14 = .ok (.aload_n 1, 1) := by decide +kernel
theorem d12_15 : decode jdk_42_method_66_code 15 = .ok (.checkcast 10, 3) := by decide +kernel
theorem d12_18 : decode jdk_42_method_66_code 18 = .ok (.astore_n 2, 1) := by decide +kernel
theorem d12_19 : decode jdk_42_method_66_code 19 = .ok (.getstatic 38, 3) := by decide +kernel
theorem d12_22 : decode jdk_42_method_66_code 22 = .ok (.ifCond .eq 14, 3) := by decide +kernel
theorem d12_25 : decode jdk_42_method_66_code 25 = .ok (.aload_n 0, 1) := by decide +kernel
theorem d12_26 : decode jdk_42_method_66_code 26 = .ok (.getfield 15, 3) := by decide +kernel
theorem d12_29 : decode jdk_42_method_66_code 29 = .ok (.aload_n 2, 1) := by decide +kernel
theorem d12_30 : decode jdk_42_method_66_code 30 = .ok (.getfield 15, 3) := by decide +kernel
theorem d12_33 : decode jdk_42_method_66_code 33 = .ok (.if_icmp .ne 21, 3) := by decide +kernel
theorem d12_36 : decode jdk_42_method_66_code 36 = .ok (.aload_n 0, 1) := by decide +kernel
theorem d12_37 : decode jdk_42_method_66_code 37 = .ok (.getfield 9, 3) := by decide +kernel
theorem d12_40 : decode jdk_42_method_66_code 40 = .ok (.aload_n 2, 1) := by decide +kernel
theorem d12_41 : decode jdk_42_method_66_code 41 = .ok (.getfield 9, 3) := by decide +kernel
theorem d12_44 : decode jdk_42_method_66_code 44 = .ok (.invokestatic 541, 3) := by decide +kernel
theorem pd___B_B_Z : parseMethodDescriptor "([B[B)Z" = some ⟨[(.array .byte), (.array .byte)], some .boolean⟩ := by decide +kernel
theorem d12_47 : decode jdk_42_method_66_code 47 = .ok (.ifCond .eq 7, 3) := by decide +kernel
theorem d12_50 : decode jdk_42_method_66_code 50 = .ok (.iconst 1, 1) := by decide +kernel
theorem d12_51 : decode jdk_42_method_66_code 51 = .ok (.goto 4, 3) := by decide +kernel
theorem d12_55 : decode jdk_42_method_66_code 55 = .ok (.ireturn, 1) := by decide +kernel
theorem d12_54 : decode jdk_42_method_66_code 54 = .ok (.iconst 0, 1) := by decide +kernel
set_option maxRecDepth 65536 in
set_option maxHeartbeats 40000000 in
theorem qes (l : Launch) (Z : State) (a0 : Array Value) (hw : ∀ d ∈ tables_1, d.before a0 Z = true) (ws : List Jvm.Cond) (a1 : Addr) (a2 : Addr) (t1 : Addr) (k1 : ClassId) (n1 : Int32) (xs : List Value) (t2 : Addr) (k2 : ClassId) (n2 : Int32) (ys : List Value) (wV : Addr) (w1_ : Addr) (w2_ : Addr) (w3_ : Addr) (kV : ClassId) (iC : Int32) (vF : Value) (lS1 : Addr) (lT1 : Addr) (lK1 : ClassId) (lS2 : Addr) (lT2 : Addr) (lK2 : ClassId) (lS3 : Addr) (lT3 : Addr) (lK3 : ClassId) (h0 : Heap) (n0 : Nat) (O0 : Old Z n0 h0) (l1 : Ln n1 xs) (v1 : Iv xs) (l2 : Ln n2 ys) (v2 : Iv ys) (E_a1 : Exa Z h0 a1 "java/lang/String") (F_a1_coder : Fld Z h0 a1 "java/lang/String" "coder" "B" (.int 0)) (F_a1_value : Fld Z h0 a1 "java/lang/String" "value" "[B" (.ref t1)) (V_t1 : Arv Z h0 t1 k1 .byte n1 xs (.int 0)) (E_a2 : Exa Z h0 a2 "java/lang/String") (F_a2_coder : Fld Z h0 a2 "java/lang/String" "coder" "B" (.int 0)) (F_a2_value : Fld Z h0 a2 "java/lang/String" "value" "[B" (.ref t2)) (V_t2 : Arv Z h0 t2 k2 .byte n2 ys (.int 0)) (WW : World1 Z wV w1_ w2_ w3_ kV iC vF lS1 lT1 lK1 lS2 lT2 lK2 lS3 lT3 lK3) :
    Con l Z mq6 jdk_42_method_66_code 3 (some .boolean) ws ({ frames := 1, cells := 0, slots := 0, locals := 14 } : Room) #[(.ref a1), (.ref a2)] h0 (fun v h L => ((v = some (.int 1) ∧ xs = ys) ∨ (v = some (.int 0) ∧ xs ≠ ys)) ∧ Fr n0 L ∧ h = h0) := by
  refine own_body (plainFor_of_name pn_java_lang_String) ?_
  intro p e s m below meth c s₁ hx hby hml hZ hown hnm hlk hret X0 e0
  have N0 := Fr.nil n0
  have D := @hb _ _ hby
  refine Go.st (T' := s₁) (f' := (mkF m 0 #[rv a1, rv a2, .unset] [])) (fun _ k => castTop (by first | (simp [entryFrame, mkF, argsToLocals, Value.category]; done) | rfl) k) ?_
  have ⟨S_iC, nz_iC, S_vF, r_vF, S_wV, E_wV, S_w1_, E_w1_, S_w2_, E_w2_, S_w3_, E_w3_, V_wV, F_w1__label, E_lS1, F_lS1_coder, F_lS1_value, V_lT1, F_w2__label, E_lS2, F_lS2_coder, F_lS2_value, V_lT2, F_w3__label, E_lS3, F_lS3_coder, F_lS3_value, V_lT3⟩ := WW
  have lt_wV := E_wV.lt
  have lt_w1_ := E_w1_.lt
  have lt_w2_ := E_w2_.lt
  have lt_w3_ := E_w3_.lt
  have lt_lS1 := E_lS1.lt
  have lt_lT1 := V_lT1.lt
  have lt_lS2 := E_lS2.lt
  have lt_lT2 := V_lT2.lt
  have lt_lS3 := E_lS3.lt
  have lt_lT3 := V_lT3.lt
  have lt_a1 := E_a1.lt
  have lt_t1 := V_t1.lt
  have lt_a2 := E_a2.lt
  have lt_t2 := V_t2.lt
  refine zan 1 X0 hx (D d12_0) rfl rfl ?_
  refine zan 2 X0 hx (D d12_1) rfl rfl ?_
  by_cases cd1 : a1 = a2
  · refine Go.st (f' := (mkF m 5 #[rv a1, rv a2, .unset] [])) (fun _ k => Jvm.RoadKit.acmp (g := (mkF m 2 #[rv a1, rv a2, .unset] [(.ref a2), (.ref a1)])) X0 hx rfl rfl rfl (pc0 := 2) (pc' := 5) (same := true) rfl (D d12_2) rfl (decide_eq_true (congrArg Value.ref cd1)) (by decide) (by decide) k) ?_
    refine zic 6 1 X0 hx (D d12_5) ?_
    refine Go.retB X0 hlk hx (t := .boolean) hret (by simp) (D d12_6) e0 ?_ (by decide) (by decide)
    exact ⟨Or.inl ⟨rfl, own_al cd1 F_a1_value F_a2_value V_t1 V_t2 l1 l2⟩, N0, rfl⟩
  · refine Go.st (f' := (mkF m 7 #[rv a1, rv a2, .unset] [])) (fun _ k => Jvm.RoadKit.acmp (g := (mkF m 2 #[rv a1, rv a2, .unset] [(.ref a2), (.ref a1)])) X0 hx rfl rfl rfl (pc0 := 2) (pc' := 7) (same := false) rfl (D d12_2) rfl (decide_eq_false fun q => cd1 (Value.ref.inj q)) (by decide) (by decide) k) ?_
    refine zan 8 X0 hx (D d12_7) rfl rfl ?_
    obtain ⟨T2, X2, e2, st2⟩ := instY X0 hx hZ hown (ww hw 79 rfl) e0 (Ins.self E_a2) (g := (mkF m 8 #[rv a1, rv a2, .unset] [(.ref a2)])) rfl rfl (D d12_8)
    refine zst 11 #[rv a1, rv a2, .unset] [(.int 1)] st2 ?_
    refine zfn 14 X2 hx (D d12_11) (by decide) ?_
    refine zan 15 X2 hx (D d12_14) rfl rfl ?_
    obtain ⟨T3, X3, e3, st3⟩ := castY X2 hx hZ hown (ww hw 79 rfl) e2 (Ins.self E_a2) (g := (mkF m 15 #[rv a1, rv a2, .unset] [(.ref a2)])) rfl rfl (D d12_15)
    refine zst 18 #[rv a1, rv a2, .unset] [(.ref a2)] st3 ?_
    refine zrn 19 #[rv a1, rv a2, rv a2] X3 hx (D d12_18) rfl ?_
    obtain ⟨T4, X4, e4, st4⟩ := getS2 X3 hx hZ hown (host := "") (Or.inl (ww hw 19 rfl)) Via.refl e3 (S_iC.ext O0.2) (g := (mkF m 19 #[rv a1, rv a2, rv a2] [])) rfl (D d12_19)
    refine zst 22 #[rv a1, rv a2, rv a2] [(.int iC)] st4 ?_
    refine zfn 25 X4 hx (D d12_22) ((if0 _ _).trans (feq nz_iC).1) ?_
    refine zan 26 X4 hx (D d12_25) rfl rfl ?_
    refine zgf 29 X4 hx hZ hown (host := "") (Or.inl (ww hw 31 rfl)) Via.refl e4 F_a1_coder (D d12_26) fun T5 X5 e5 => ?_
    refine zan 30 X5 hx (D d12_29) rfl rfl ?_
    refine zgf 33 X5 hx hZ hown (host := "") (Or.inl (ww hw 31 rfl)) Via.refl e5 F_a2_coder (D d12_30) fun T6 X6 e6 => ?_
    refine zcn 36 X6 hx (D d12_33) (by decide) ?_
    refine zan 37 X6 hx (D d12_36) rfl rfl ?_
    refine zgf 40 X6 hx hZ hown (host := "") (Or.inl (ww hw 33 rfl)) Via.refl e6 F_a1_value (D d12_37) fun T7 X7 e7 => ?_
    refine zan 41 X7 hx (D d12_40) rfl rfl ?_
    refine zgf 44 X7 hx hZ hown (host := "") (Or.inl (ww hw 33 rfl)) Via.refl e7 F_a2_value (D d12_41) fun T8 X8 e8 => ?_
    obtain ⟨_, _, ⟨T9, L9, kk9, nn9⟩, -, X9, ⟨Lc9, hQ9, lq9, yq9, zz9⟩, st9⟩ := Jvm.LawKit.callS X8 hx (y := mq5) hown (mvT hZ (ww hw 80 rfl)) (mvT hZ (ww hw 81 rfl)) (mvT hZ (ww hw 82 rfl)) (mvT hZ (ww hw 83 rfl)) (by decide) (own_back (W := 0) (qel l Z a0 hw [] t1 k1 n1 xs t2 k2 n2 ys h0 n0 O0 l1 v1 l2 v2 V_t1 V_t2) hZ (ww hw 83 rfl) (ww hw 82 rfl) (by decide) (by decide)) (g := (mkF m 44 #[rv a1, rv a2, rv a2] [(.ref t2), (.ref t1)])) rfl (by rw [hml]; rfl) (argsL := [(.ref t1), (.ref t2)]) (rest := []) (lenOf pd___B_B_Z rfl) rfl (by show 2 * 0 + _ ≤ _; exact Nat.le_of_eq rfl) (D d12_44) (fun _ _ => ⟨rfl, e8, (by decide : 0 + 0 ≤ _), (by decide : 0 + 0 ≤ _)⟩)
    dsimp only [Pt.U, Pt.locs, Pt.cells, Pt.slots] at X9 lq9 yq9 zz9 st9 hQ9
    subst lq9 yq9 zz9
    obtain ⟨vd9, Nq9, kq9⟩ := hQ9
    have N9 := Fr.app N0 Nq9
    rcases vd9 with ⟨rfl, qe9⟩ | ⟨rfl, qe9⟩
    · refine Go.st (f' := (mkF m 47 #[rv a1, rv a2, rv a2] [(.int 1)])) (fun _ k => st9 _ k) ?_
      refine zfn 50 X9 hx (D d12_47) (by decide) ?_
      refine zic 51 1 X9 hx (D d12_50) ?_
      refine zgo 55 X9 hx (D d12_51) ?_
      refine Go.retB X9 hlk hx (t := .boolean) hret (by simp) (D d12_55) kq9 ?_ (by decide) (by decide)
      exact ⟨Or.inl ⟨rfl, qe9⟩, N9, rfl⟩
    · refine Go.st (f' := (mkF m 47 #[rv a1, rv a2, rv a2] [(.int 0)])) (fun _ k => st9 _ k) ?_
      refine zfy 54 X9 hx (D d12_47) (by decide) ?_
      refine zic 55 0 X9 hx (D d12_54) ?_
      refine Go.retB X9 hlk hx (t := .boolean) hret (by simp) (D d12_55) kq9 ?_ (by decide) (by decide)
      exact ⟨Or.inr ⟨rfl, qe9⟩, N9, rfl⟩
theorem pn_com_example_naysay_naysay_access_Role : plainName "com/example/naysay/naysay/access/Role" = true := by first | (simp [plainName, overriddenIn]; done) | decide +kernel
theorem d9_0 : decode prog_4_method_1_code 0 = .ok (.getstatic 13, 3) := by decide +kernel
theorem d9_3 : decode prog_4_method_1_code 3 = .ok (.invokevirtual 17, 3) := by decide +kernel
theorem d9_6 : decode prog_4_method_1_code 6 = .ok (.checkcast 18, 3) := by decide +kernel
theorem d9_9 : decode prog_4_method_1_code 9 = .ok (.areturn, 1) := by decide +kernel
set_option maxRecDepth 65536 in
set_option maxHeartbeats 40000000 in
theorem rmV (l : Launch) (Z : State) (a0 : Array Value) (hw : ∀ d ∈ tables_1, d.before a0 Z = true) (ws : List Jvm.Cond) (wV : Addr) (w1_ : Addr) (w2_ : Addr) (w3_ : Addr) (kV : ClassId) (iC : Int32) (vF : Value) (lS1 : Addr) (lT1 : Addr) (lK1 : ClassId) (lS2 : Addr) (lT2 : Addr) (lK2 : ClassId) (lS3 : Addr) (lT3 : Addr) (lK3 : ClassId) (h0 : Heap) (n0 : Nat) (O0 : Old Z n0 h0) (WW : World1 Z wV w1_ w2_ w3_ kV iC vF lS1 lT1 lK1 lS2 lT2 lK2 lS3 lT3 lK3) :
    Con l Z mq7 prog_4_method_1_code 0 (some (.array (.object "com/example/naysay/naysay/access/Role"))) ws ({ frames := 1, cells := 1, slots := 3, locals := 14 } : Room) #[] h0 (fun v h L => ∃ b : Addr, v = some (.ref b) ∧ Fr n0 L ∧ h0.size ≤ b ∧ Keep h0 h [] ∧ Arv Z h b kV (Jvm.ClassFile.FieldType.object "com/example/naysay/naysay/access/Role") (3 : Int32) [(.ref w1_), (.ref w2_), (.ref w3_)] .null ∧ Exa Z h b "[Lcom/example/naysay/naysay/access/Role;") := by
  refine own_body (plainFor_of_name pn_com_example_naysay_naysay_access_Role) ?_
  intro p e s m below meth c s₁ hx hby hml hZ hown hnm hlk hret X0 e0
  have N0 := Fr.nil n0
  have D := @hb _ _ hby
  have K0 : Keep h0 h0 [] := Keep.refl _ _
  refine Go.st (T' := s₁) (f' := (mkF m 0 #[] [])) (fun _ k => castTop (by first | (simp [entryFrame, mkF, argsToLocals, Value.category]; done) | rfl) k) ?_
  have ⟨S_iC, nz_iC, S_vF, r_vF, S_wV, E_wV, S_w1_, E_w1_, S_w2_, E_w2_, S_w3_, E_w3_, V_wV, F_w1__label, E_lS1, F_lS1_coder, F_lS1_value, V_lT1, F_w2__label, E_lS2, F_lS2_coder, F_lS2_value, V_lT2, F_w3__label, E_lS3, F_lS3_coder, F_lS3_value, V_lT3⟩ := WW
  have lt_wV := E_wV.lt
  have lt_w1_ := E_w1_.lt
  have lt_w2_ := E_w2_.lt
  have lt_w3_ := E_w3_.lt
  have lt_lS1 := E_lS1.lt
  have lt_lT1 := V_lT1.lt
  have lt_lS2 := E_lS2.lt
  have lt_lT2 := V_lT2.lt
  have lt_lS3 := E_lS3.lt
  have lt_lT3 := V_lT3.lt
  obtain ⟨T1, X1, e1, st1⟩ := getS2 X0 hx hZ hown (host := "") (Or.inl (ww hw 42 rfl)) Via.refl e0 (S_wV.ext O0.2) (g := (mkF m 0 #[] [])) rfl (D d9_0)
  refine zst 3 #[] [(.ref wV)] st1 ?_
  obtain ⟨T3, h3, X3, e3, E3, V3, A3, st3⟩ := cloneH X1 hx hZ hown (ww hw 44 rfl) (ww hw 45 rfl) (ww hw 49 rfl) (ww hw 47 rfl) (ww hw 48 rfl) (ww hw 50 rfl) e1 (Arv.arh (V_wV.ext O0.2)) (E_wV.ext O0.2) (g := (mkF m 3 #[] [(.ref wV)])) rfl (by rw [hml]; rfl) rfl (D d9_3) (by decide) (W := 0) (by show 2 * 0 + _ ≤ _; exact Nat.le_of_eq rfl) (by decide) (cap := 3) (by decide) (by decide) (by decide)
  obtain ⟨b3, g3⟩ : ∃ z, z = h0.size := ⟨_, rfl⟩
  rw [← g3] at V3 A3 st3
  have ne_wV_b3 : wV ≠ b3 := Nat.ne_of_lt (Nat.lt_of_lt_of_le lt_wV (Nat.le_trans O0.2.1 (Nat.le_of_eq g3.symm)))
  have ne_w1__b3 : w1_ ≠ b3 := Nat.ne_of_lt (Nat.lt_of_lt_of_le lt_w1_ (Nat.le_trans O0.2.1 (Nat.le_of_eq g3.symm)))
  have ne_w2__b3 : w2_ ≠ b3 := Nat.ne_of_lt (Nat.lt_of_lt_of_le lt_w2_ (Nat.le_trans O0.2.1 (Nat.le_of_eq g3.symm)))
  have ne_w3__b3 : w3_ ≠ b3 := Nat.ne_of_lt (Nat.lt_of_lt_of_le lt_w3_ (Nat.le_trans O0.2.1 (Nat.le_of_eq g3.symm)))
  have ne_lS1_b3 : lS1 ≠ b3 := Nat.ne_of_lt (Nat.lt_of_lt_of_le lt_lS1 (Nat.le_trans O0.2.1 (Nat.le_of_eq g3.symm)))
  have ne_lT1_b3 : lT1 ≠ b3 := Nat.ne_of_lt (Nat.lt_of_lt_of_le lt_lT1 (Nat.le_trans O0.2.1 (Nat.le_of_eq g3.symm)))
  have ne_lS2_b3 : lS2 ≠ b3 := Nat.ne_of_lt (Nat.lt_of_lt_of_le lt_lS2 (Nat.le_trans O0.2.1 (Nat.le_of_eq g3.symm)))
  have ne_lT2_b3 : lT2 ≠ b3 := Nat.ne_of_lt (Nat.lt_of_lt_of_le lt_lT2 (Nat.le_trans O0.2.1 (Nat.le_of_eq g3.symm)))
  have ne_lS3_b3 : lS3 ≠ b3 := Nat.ne_of_lt (Nat.lt_of_lt_of_le lt_lS3 (Nat.le_trans O0.2.1 (Nat.le_of_eq g3.symm)))
  have ne_lT3_b3 : lT3 ≠ b3 := Nat.ne_of_lt (Nat.lt_of_lt_of_le lt_lT3 (Nat.le_trans O0.2.1 (Nat.le_of_eq g3.symm)))
  have g_b3 : n0 ≤ b3 := Nat.le_trans (O0.1 ▸ O0.2.1) (Nat.le_of_eq g3.symm)
  have O3 : Old Z n0 h3 := O0.ext E3
  have sz_b3 : h0.size ≤ b3 := Nat.le_trans K0.1 (Nat.le_of_eq g3.symm)
  have K3 : Keep h0 h3 [] := K0.ext E3
  have V_b3 : Arv Z h3 b3 kV (Jvm.ClassFile.FieldType.object "com/example/naysay/naysay/access/Role") (3 : Int32) [(.ref w1_), (.ref w2_), (.ref w3_)] .null := V3
  have lt_b3 := A3.lt
  refine zst 6 #[] [(.ref b3)] st3 ?_
  obtain ⟨T4, X4, e4, st4⟩ := castY X3 hx hZ hown (ww hw 55 rfl) e3 (Ins.self A3) (g := (mkF m 6 #[] [(.ref b3)])) rfl rfl (D d9_6)
  refine zst 9 #[] [(.ref b3)] st4 ?_
  refine Go.retV X4 hlk hx (t := (.array (.object "com/example/naysay/naysay/access/Role"))) hret rfl (Or.inr (Or.inr (Or.inr (Or.inr ⟨rfl, rfl, rfl⟩)))) (D d9_9) e4 ?_ (by decide) (by decide)
  exact ⟨b3, rfl, N0, sz_b3, K3, V_b3, A3⟩
theorem d11_0 : decode prog_4_method_5_code 0 = .ok (.aload_n 0, 1) := by decide +kernel
theorem d11_1 : decode prog_4_method_5_code 1 = .ok (.getfield 32, 3) := by decide +kernel
theorem d11_4 : decode prog_4_method_5_code 4 = .ok (.areturn, 1) := by decide +kernel
set_option maxRecDepth 65536 in
set_option maxHeartbeats 40000000 in
theorem rmLb (l : Launch) (Z : State) (a0 : Array Value) (hw : ∀ d ∈ tables_1, d.before a0 Z = true) (ws : List Jvm.Cond) (a1 : Addr) (u1 : Addr) (h0 : Heap) (n0 : Nat) (O0 : Old Z n0 h0) (E_a1 : Exa Z h0 a1 "com/example/naysay/naysay/access/Role") (F_a1_label : Fld Z h0 a1 "com/example/naysay/naysay/access/Role" "label" "Ljava/lang/String;" (.ref u1)) :
    Con l Z mq8 prog_4_method_5_code 1 (some (.object "java/lang/String")) ws ({ frames := 0, cells := 0, slots := 0, locals := 0 } : Room) #[(.ref a1)] h0 (fun v h L => v = some (.ref u1) ∧ Fr n0 L ∧ h = h0) := by
  refine own_body (plainFor_of_name pn_com_example_naysay_naysay_access_Role) ?_
  intro p e s m below meth c s₁ hx hby hml hZ hown hnm hlk hret X0 e0
  have N0 := Fr.nil n0
  have D := @hb _ _ hby
  refine Go.st (T' := s₁) (f' := (mkF m 0 #[rv a1] [])) (fun _ k => castTop (by first | (simp [entryFrame, mkF, argsToLocals, Value.category]; done) | rfl) k) ?_
  have lt_a1 := E_a1.lt
  refine zan 1 X0 hx (D d11_0) rfl rfl ?_
  refine zgf 4 X0 hx hZ hown (host := "") (Or.inl (ww hw 71 rfl)) Via.refl e0 F_a1_label (D d11_1) fun T1 X1 e1 => ?_
  refine Go.retV X1 hlk hx (t := (.object "java/lang/String")) hret rfl (Or.inr (Or.inr (Or.inr (Or.inr ⟨rfl, rfl, rfl⟩)))) (D d11_4) e1 ?_ (by decide) (by decide)
  exact ⟨rfl, N0, rfl⟩
theorem pd__Ljava_lang_Object__Ljava_lang_Object_ : parseMethodDescriptor "(Ljava/lang/Object;)Ljava/lang/Object;" = some ⟨[(.object "java/lang/Object")], some (.object "java/lang/Object")⟩ := by decide +kernel
/-! the site Role::label: linked, its one object; a call of that object -/
abbrev lamX : MethodName := ⟨"com/example/naysay/naysay/access/Role", "named", "(Ljava/lang/String;)Lcom/example/naysay/naysay/access/Role;"⟩
abbrev lbN : MethodName := ⟨"com/example/naysay/naysay/access/Role", "label", "()Ljava/lang/String;"⟩
abbrev apN : MethodName := ⟨"java/util/function/Function", "apply", "(Ljava/lang/Object;)Ljava/lang/Object;"⟩
abbrev lamS : Lambda.Shape := (Jvm.Lambda.Shape.mk "java/util/function/Function" "apply" (Jvm.ClassFile.MethodDescriptor.mk ([(Jvm.ClassFile.FieldType.object "java/lang/Object")] : List Jvm.ClassFile.FieldType) (Option.some (Jvm.ClassFile.FieldType.object "java/lang/Object"))) ([] : List Jvm.ClassFile.FieldType) (5 : Nat) "com/example/naysay/naysay/access/Role" "label" (Jvm.ClassFile.MethodDescriptor.mk ([] : List Jvm.ClassFile.FieldType) (Option.some (Jvm.ClassFile.FieldType.object "java/lang/String"))) false (Jvm.ClassFile.MethodDescriptor.mk ([(Jvm.ClassFile.FieldType.object "com/example/naysay/naysay/access/Role")] : List Jvm.ClassFile.FieldType) (Option.some (Jvm.ClassFile.FieldType.object "java/lang/String"))))
def lamC : ByteArray := ⟨#[0x2b, 0xc0, 0x00, 0x0e, 0xb6, 0x00, 0x12, 0xb0]⟩
theorem lamd0 : decode lamC 0 = .ok (.aload_n 1, 1) := by decide +kernel
theorem lamd1 : decode lamC 1 = .ok (.checkcast 14, 3) := by decide +kernel
theorem lamd4 : decode lamC 4 = .ok (.invokevirtual 18, 3) := by decide +kernel
theorem lamd7 : decode lamC 7 = .ok (.areturn, 1) := by decide +kernel
theorem lam_ok : Jvm.LamKit.fwdOK lamS "com/example/naysay/naysay/access/Role" lamC 2 (some (.object "java/lang/Object")) 18 14 = true := by decide +kernel
/-- the site is linked, and its one object lies at la, of the class lk that the rule has made -/
def LamF (Z : State) (la : Addr) (lk : ClassId) : Prop := ∃ (m : MethodId) (k : Class) (i0 p0 : Nat) (cell : Cell), Z.methodNamed? lamX = some m ∧ Z.vm.classes[m.cls]? = some k ∧ k.name = "com/example/naysay/naysay/access/Role" ∧ (k.callSites.find? fun y => y.1 == m.idx && y.2.1 == 3) = some (i0, p0, Linked.constant la) ∧
  Lambda.isMade { classPath := fun _ => none } Z.vm m.cls lamS lk = true ∧ Z.lambdaCallable lamS lk = true ∧ Z.heap[la]? = some cell ∧ cell.cls = lk ∧ cell.vm = .none
theorem LamF.start {a0 : Array Value} {Z : State} (hw : ∀ d ∈ tables_1, d.before a0 Z = true) : ∃ la lk, LamF Z la lk := by
  obtain ⟨c, one, h⟩ := Cond.lambdaSite_spec (ww hw 57 rfl)
  obtain ⟨m, k, cf, i0, p0, l, h1, h2, h3, h4, h5, h6, h7, h8, h9⟩ := State.lambdaAt?_spec h
  obtain ⟨k', q1, q2⟩ := Vm.findClass_spec (findClass_of_methodNamed h1)
  cases h2.symm.trans q1
  rcases h9 with ⟨a, cell, rfl, -, -, r1, r2, r3, -⟩ | ⟨-, -, r⟩
  · exact ⟨a, c, m, k, i0, p0, cell, h1, h2, q2, h6, h7, h8, r1, r2, r3⟩
  · exact absurd rfl r
theorem own_nmd {Z s : State} (hZ : Z.Warmed39 s.vm) (x : MethodName) : s.methodNamed? x = Z.methodNamed? x := by
  rw [State.methodNamed?_of_vm (U := s) (V := Z.setVm s.vm) rfl]; exact State.methodNamed?_setVm hZ.alike x
theorem own_mrd {Z : State} {vm : Vm} (hZ : Z.Warmed39 vm) {c : ClassId} {i : Nat} {m : MethodId} (h : Z.vm.methodReady c i m) : vm.methodReady c i m := by
  obtain ⟨k, h1, h2⟩ := h
  obtain ⟨k', q1, -, -, q4, -⟩ := hZ.2.2.2 _ _ h1
  rcases q4 i with q | ⟨q, -⟩
  · exact ⟨k', q1, q.trans h2⟩
  · rw [h2] at q; cases q
theorem own_crd {Z : State} {vm : Vm} (hZ : Z.Warmed39 vm) {c : ClassId} {i : Nat} {m : ClassId} (h : Z.vm.classReady c i m) : vm.classReady c i m := by
  obtain ⟨k, h1, h2⟩ := h
  obtain ⟨k', q1, -, -, q4, -⟩ := hZ.2.2.2 _ _ h1
  rcases q4 i with q | ⟨q, -⟩
  · exact ⟨k', q1, q.trans h2⟩
  · rw [h2] at q; cases q
section Lam
variable {p : Program} {l : Launch} {e : Env} {R : Room} {s : State} {m : MethodId} {args : Array Value} {below : List Frame} {meth : Method} {c : Code} {T : State} {locs : List Loc} {cells slots : Nat} {Z : State} {a0 : Array Value} {h : Heap} {la : Addr} {lk : ClassId}
theorem own_site {g : JFrame} (X : Stand p l e R s m args below meth c T locs cells slots) (hx : p.tables.exec = Jvm.exec) (hZ : Z.Warmed39 s.vm) (hmn : s.methodNamed? lamX = some m) (LF : LamF Z la lk) (hg : g.method = m) (hpc : g.pc = 3) (hsize : g.locals.size = c.maxLocals)
    (hd : decode c.code g.pc = .ok (.invokedynamic 51, 5)) (hW : 2 * g.monitorRoom + (g.stack.map fun v => v.category).sum + 3072 ≤ R.locals) {target : State}
    (k : Steps p.tables e below (T.setTop { g with pc := g.pc + 5, stack := .ref la :: g.stack }) target) : Steps p.tables e below (T.setTop g) target := by
  obtain ⟨mL, kL, i0, p0, cellL, L1, L2, L3, L4, L5, L6, L7, L8, L9⟩ := LF
  rw [own_nmd hZ] at hmn
  cases Option.some.inj (hmn.symm.trans L1)
  obtain ⟨k', q1, q2⟩ := hZ.alike.2.2 _ _ L2
  have hp : e.platform.lambdaLinkWords = 3072 := by rw [X.admits.platform]
  exact X.lambdaConstant hx hg hsize hd q1 (by rw [q2, hpc]; exact L4) (by rw [hp]; exact hW) k
set_option maxHeartbeats 4000000 in
theorem own_apply (X : Stand p l e R s m args below meth c T locs cells slots) (hx : p.tables.exec = Jvm.exec) (hZ : Z.Warmed39 s.vm) (hown : s.vm.findClass "com/example/naysay/naysay/rules/Names" = some m.cls) (hw : ∀ d ∈ tables_1, d.before a0 Z = true) (LF : LamF Z la lk) {n0 : Nat} (O : Old Z n0 h) (eT : T.heap = h) {b r : Addr} (E : Exa Z h b "com/example/naysay/naysay/access/Role") (F : Fld Z h b "com/example/naysay/naysay/access/Role" "label" "Ljava/lang/String;" (.ref r))
    {g : JFrame} (hg : g.method = m) (hsize : g.locals.size = c.maxLocals) {rest : List Value} (hs : g.stack = .ref b :: .ref la :: rest) (hd : decode c.code g.pc = .ok (.invokeinterface 7 2, 5)) {W : Nat} (hW : 2 * g.monitorRoom + (rest.map fun v => v.category).sum ≤ W) (hf : 2 ≤ R.frames) (hl : W + 36 ≤ R.locals) (hc0 : cells ≤ R.cells) (hs0 : slots ≤ R.slots) :
    ∃ (T' : State) (L : List Loc), Stand p l e R s m args below meth c T' (locs ++ L) cells slots ∧ Fr n0 L ∧ T'.heap = h ∧ ∀ target, Steps p.tables e below (T'.setTop { g with pc := g.pc + 5, stack := .ref r :: rest }) target → Steps p.tables e below (T.setTop g) target := by
  obtain ⟨mL, kL, i0, p0, cellL, L1, L2, L3, L4, L5, L6, L7, L8, L9⟩ := LF
  -- the class that the rule has made, at Z
  obtain ⟨k, tk, file, mK, cK, toy, t, nt, a1, a2, a3, a4, a5, a6, a7, a8, a9, a10, a11, a12, a13, a14, a15, a16, a17⟩ := Jvm.LamKit.made_static lam_ok L2 L3 L5
  obtain ⟨kF, mF, s1, s2, s3, s4, s5⟩ := Jvm.LamKit.madeSelects (args := a0) (xi := apN) ⟨_, _, L2, L3, L5, L6⟩ lam_ok (ww hw 66 rfl) ⟨rfl, rfl, by decide +kernel⟩
  -- the target
  have wS : (Cond.selects "com/example/naysay/naysay/access/Role" lbN lbN).before a0 Z = true := ww hw 68 rfl
  obtain ⟨mB, xB, b1, b2, b3, b4⟩ := Cond.instanceMethod_spec (show (Cond.instanceMethod lbN).before a0 Z = true from ww hw 69 rfl)
  obtain ⟨xB', cB, b5, b6, b7, b8, b9, b10, -, b11⟩ := Cond.code_spec b1 (show (Cond.code lbN prog_4_method_5_code 1 (some (.object "java/lang/String"))).before a0 Z = true from ww hw 70 rfl)
  cases Option.some.inj (b2.symm.trans b5)
  have bc : Z.vm.findClass "com/example/naysay/naysay/access/Role" = some mB.cls := findClass_of_methodNamed b1
  cases Option.some.inj (a13.symm.trans bc)
  have et : t = mB := by
    have q : Z.methodFound? lbN.cls lbN.name lbN.desc = some mB := State.methodFound?_of_named b1 (by decide)
    simp only [State.methodFound?, bc, a14, Option.bind_eq_bind, Option.bind_some] at q
    have q' : ((methodIn mB.cls "label" "()Ljava/lang/String;" tk.isInterface none).ask { classPath := fun _ => none } Z.vm).1 = .ok t := a15
    rw [q'] at q
    exact Option.some.inj q
  subst et
  obtain ⟨tk', n1, n2⟩ := notFace_of_selects (args := a0) wS _ b1
  cases Option.some.inj (a14.symm.trans n1)
  obtain ⟨tk', n3, n4⟩ := Vm.findClass_spec bc
  cases Option.some.inj (a14.symm.trans n3)
  have hsp : ∀ z : Method, signaturePolymorphic tk z = false := fun z => by simp [signaturePolymorphic, n4]
  -- the object b
  have E0 := E
  obtain ⟨cell, kb, c1, c2, c3, c4, c5⟩ := E
  have ecl : cell.cls = t.cls := Option.some.inj (c2.symm.trans bc)
  have hobj : ∀ k, cell.vm ≠ .statics k := fun k q => by rw [q] at c4; cases c4
  obtain ⟨x3, x4, y1, y2, y3⟩ := Cond.castable_spec (show (Cond.castable "com/example/naysay/naysay/access/Role" "com/example/naysay/naysay/access/Role").before a0 Z = true from ww hw 59 rfl)
  cases Option.some.inj (y1.symm.trans bc)
  cases Option.some.inj (y2.symm.trans bc)
  have pB : xB.sig.parameters.length = 0 := by
    have q : (parseMethodDescriptor lbN.desc).map (·.parameters) = some [] := by decide +kernel
    rw [b11] at q
    have q' : xB.sig.parameters = [] := by simpa using q
    rw [q']; rfl
  have al := hZ.alike
  have hFn : Jvm.Free.HMW.FnX apN lk ⟨lk, 1⟩ s := by
    obtain ⟨kF', q1, q2⟩ := al.2.2 _ _ s1
    refine ⟨kF', mF, q1, by rw [al.method?]; exact s2, s3, s4, fun r0 r hn hr => ?_⟩
    rw [own_nmd hZ] at hn
    rw [al.method?] at hr
    obtain ⟨r1, r2, r3⟩ := s5 r0 r hn hr
    refine ⟨by rw [al.assignable]; exact r1, by rw [al.selectMethod]; exact r2, ?_⟩
    rw [← r3]
    have hsc : s.vm.superclasses lk = Z.vm.superclasses lk := al.superclasses lk
    rw [hsc]
    congr 1
    funext kk
    rw [al.declaredIn]
  have hB : Jvm.Free.BackW l R p e below s args (fun _ mk => mk = ⟨lk, 1⟩) 5 W (fun A a => a = #[.ref la, .ref b] ∧ A.U.heap = h ∧ A.cells ≤ R.cells ∧ A.slots ≤ R.slots) (fun A _ v B => v = some (.ref r) ∧ B.U.heap = h ∧ (∃ L, Fr n0 L ∧ B.locs = A.locs ++ L) ∧ B.cells = A.cells ∧ B.slots = A.slots) := by
    intro m' meth' c' A g' ig mk a X' hg' hsize' hdg' hW' hwho hPre
    obtain ⟨T', locs', cells', slots'⟩ := A
    obtain ⟨rfl, hh', hc', hs'⟩ := hPre
    subst hwho
    dsimp only [Pt.U, Pt.locs, Pt.cells, Pt.slots] at X' hh' hc' hs' ⊢
    have hT : Z.Warmed39 T'.vm := wtrans hZ X'.warmed
    have alT := hT.alike
    obtain ⟨kT, k1, k2⟩ := alT.2.2 _ _ a1
    obtain ⟨tkT, k3, k4⟩ := alT.2.2 _ _ a14
    have hmk : T'.vm.method? ⟨lk, 1⟩ = some mK := by rw [alT.method?]; exact a6
    obtain ⟨Y0, hin⟩ := X'.into hg' hsize' hdg' #[.ref la, .ref b] (R' := { frames := 1, cells := 0, slots := 0, locals := 23 }) hmk a7 a10 (State.plainMethod.of_name (fun k' q => by cases Option.some.inj (k1.symm.trans q); rw [k2]; exact a2)) (by show 1 + 1 ≤ R.frames; omega) (by rw [a9]; show _ + (2 + 11) + 23 ≤ R.locals; omega) hc' hs'
    rw [a9] at Y0 hin
    have hL0 : entryFrame ⟨lk, 1⟩ #[.ref la, .ref b] 2 = { method := ⟨lk, 1⟩, pc := 0, locals := #[.val (.ref la), .val (.ref b)], stack := [], locked := none } := rfl
    rw [hL0] at Y0 hin
    generalize hU : (T'.setTop g').pushFrame (.java { method := ⟨lk, 1⟩, pc := 0, locals := #[.val (.ref la), .val (.ref b)], stack := [], locked := none }) = U at Y0 hin
    have hvm : U.vm = T'.vm := by rw [← hU]; rfl
    have hhp : U.heap = h := by rw [← hU]; exact hh'
    generalize hs1 : T'.calling g' ⟨lk, 1⟩ #[.ref la, .ref b] = s' at Y0
    have hvm' : s'.vm = T'.vm := by rw [← hs1]; rfl
    have hZ' : Z.Warmed39 s'.vm := by rw [hvm']; exact hT
    have hZU : Z.Warmed39 U.vm := by rw [hvm]; exact hT
    have hK := own_back (l := l) (R := { frames := 1, cells := 0, slots := 0, locals := 23 }) (p := p) (e := e) (below := .java g' :: below) (s := s') (args := #[.ref la, .ref b]) (len := 3) (W := 0) (rmLb l Z a0 hw [] b r h n0 O E0 F) hZ' (ww hw 70 rfl) (ww hw 37 rfl) (by decide) (by decide)
    obtain ⟨v, ⟨U', ls, cc, sl⟩, Y1, ⟨Lq, ⟨rfl, Nq, hq⟩, e1, e2, e3⟩, hsteps⟩ := hK ⟨lk, 1⟩ mK cK ⟨U, [], 0, 0⟩ { method := ⟨lk, 1⟩, pc := 4, locals := #[.val (.ref la), .val (.ref b)], stack := [], locked := none } (.invokevirtual 18) t #[.ref b] Y0 rfl (by rw [a9]; rfl) (by rw [a8]; exact lamd4) (Nat.le_refl _) ((own_nmd hZU lbN).trans b1) ⟨rfl, hhp, Nat.le_refl 0, Nat.le_refl 0⟩
    dsimp only [Pt.U, Pt.locs, Pt.cells, Pt.slots] at Y1 hq e1 e2 e3 hsteps
    subst e1 e2 e3
    obtain ⟨fs, hleave, -, hended, hWe, hsame⟩ := Y1.leave (v := some (.ref r)) (fun q => by rw [a12] at q; cases q) a10
    subst hs1
    obtain ⟨T2, X2, hW2, -, ht⟩ := X'.outOf hg' hdg' hended hWe hsame
    have hh2 : T2.heap = h := by
      have q1 : (U'.setFrames fs).heap = (T2.setTop _).heap := congrArg State.heap ht
      have q2 : (U'.setFrames fs).heap = U'.heap := rfl
      rw [q2, hq] at q1
      simpa using q1.symm
    refine ⟨some (.ref r), ⟨T2, _, _, _⟩, X2, ⟨rfl, hh2, ⟨_, Nq, rfl⟩, rfl, rfl⟩, ?_⟩
    rw [hin []]
    show Steps p.tables e below _ (T2.setTop { g' with pc := g'.pc + 5, stack := (some (Value.ref r)).toList ++ g'.stack })
    rw [← ht]
    refine Steps.weaken (mid := [.java g']) ?_
    have hsU : U.topJava?.isSome := Y0.here.top
    have hcU : U.heap[b]? = some cell := by rw [hhp]; exact c1
    have hkt : U.vm.classes[t.cls]? = some tkT := by rw [hvm]; exact k3
    have hks : U.vm.classes[cell.cls]? = some tkT := by rw [ecl]; exact hkt
    have hasg : U.vm.assignable cell.cls t.cls = true := by rw [hvm, ecl, alT.assignable]; exact y3
    have hspT : ∀ z : Method, signaturePolymorphic tkT z = false := fun z => by rw [← hsp z, k4]; rfl
    have hsel : selectMethod e.platform T'.vm cell.cls t = .method t := by
      obtain ⟨_, _, _, q1, q2, q3, q4, -⟩ := Cond.selects_spec wS
      cases Option.some.inj (q1.symm.trans bc)
      cases Option.some.inj (q2.symm.trans (State.methodFound?_of_named b1 (by decide)))
      cases Option.some.inj (q3.symm.trans b1)
      rw [Launch.admits_selectMethod X'.admits, alT.selectMethod, ecl]; exact q4
    refine XS.aloadN Y0.here hx rfl (by rw [a8]; exact lamd0) rfl rfl ?_
    have hcc : ∀ {Q : Unit → Pre} {E : CtlPost} {d : Bool} {acts : List Action},
        wp (checkcast.sem 14) Q E e d acts (U.setTop { method := ⟨lk, 1⟩, pc := 1, locals := #[.val (.ref la), .val (.ref b)], stack := [.ref b], locked := none }) ↔
          Q () d acts (U.setTop { method := ⟨lk, 1⟩, pc := 1, locals := #[.val (.ref la), .val (.ref b)], stack := [.ref b], locked := none }) := by
      intro Q E d acts
      rw [checkcast.wp_ready (c := t.cls) (x := .ref b) (rest := []) hsU (by rw [hvm]; exact own_crd hT a17) rfl]
      simp [hcU, hobj, hks, hkt, hasg]
    jvm_step Y0.here [hsU, hx, a8, lamd1, hcc]
    jvm_step Y0.here [hsU, hx, a8, lamd4, invokevirtual.wp_ready (e := e) (s := U) (r := t) (m := t) (k := tkT) (mk := tkT) (rmeth := xB) (meth := xB) (a := b) (args := []) (rest := []) (cell := cell) (f := { method := ⟨lk, 1⟩, pc := 4, locals := #[.val (.ref la), .val (.ref b)], stack := [.ref b], locked := none }) hsU
      ⟨kT, file, 14, nt, t.cls, tkT, by rw [hvm]; exact k1, by rw [k2]; exact a3, a4, by rw [hvm]; exact own_crd hT a17, hkt, by rw [k4]; exact n2⟩ (by rw [hvm]; exact own_mrd hT a16) hkt (by rw [hvm, alT.method?]; exact b2) (hspT _) b3 pB.symm rfl hcU hobj (by rw [hvm]; exact hsel) (by rw [hvm, alT.method?]; exact b2) b4 hkt (by rw [k4]; exact n2)]
    intro acts'
    rw [doInvoke_state]
    refine hsteps.trans ?_
    exact Y1.areturnOut hx rfl a12 rfl (by rw [a8]; exact lamd7) hleave
  obtain ⟨v, vm1, ⟨T1, L1', k1', n1'⟩, hW1, X1, ⟨rfl, hh1, ⟨Lf, Nf, e1⟩, e2, e3⟩, come⟩ := X.fnAt hx (own := "com/example/naysay/naysay/rules/Names") (index := 7) (count := 2) (xi := apN) hown (fun w q => by
      simp only [Jvm.Free.Fn.fnW, List.mem_cons, List.not_mem_nil, or_false] at q
      rcases q with rfl | rfl | rfl
      · exact mvT hZ (ww hw 64 rfl)
      · exact mvT hZ (ww hw 65 rfl)
      · exact mvT hZ (ww hw 66 rfl)) (by decide) hFn hB (fun _ _ => rfl) (b := la) ⟨cellL, by rw [eT]; exact O.2.2 _ _ L7, L8, by rw [L9]; rfl⟩ hg hsize (Steps.refl _) (argsL := [.ref b]) (rest := rest) (lenOf pd__Ljava_lang_Object__Ljava_lang_Object_ rfl) hs hW hd (fun _ _ => ⟨rfl, eT, hc0, hs0⟩)
  dsimp only [Pt.U, Pt.locs, Pt.cells, Pt.slots] at X1 hh1 e1 e2 e3 come
  subst e1 e2 e3
  exact ⟨T1, Lf, X1, Nf, hh1, fun target q => come.trans q⟩
end Lam

theorem pn_com_example_naysay_naysay_rules_Names : plainName "com/example/naysay/naysay/rules/Names" = true := by first | (simp [plainName, overriddenIn]; done) | decide +kernel
theorem d10_0 : decode prog_25_method_2_code 0 = .ok (.aconst_null, 1) := by decide +kernel
theorem d10_1 : decode prog_25_method_2_code 1 = .ok (.astore_n 3, 1) := by decide +kernel
theorem d10_2 : decode prog_25_method_2_code 2 = .ok (.aload_n 0, 1) := by decide +kernel
theorem d10_3 : decode prog_25_method_2_code 3 = .ok (.astore 4, 2) := by decide +kernel
theorem d10_5 : decode prog_25_method_2_code 5 = .ok (.aload 4, 2) := by decide +kernel
theorem d10_7 : decode prog_25_method_2_code 7 = .ok (.arraylength, 1) := by decide +kernel
theorem d10_8 : decode prog_25_method_2_code 8 = .ok (.istore 5, 2) := by decide +kernel
theorem d10_10 : decode prog_25_method_2_code 10 = .ok (.iconst 0, 1) := by decide +kernel
theorem d10_11 : decode prog_25_method_2_code 11 = .ok (.istore 6, 2) := by decide +kernel
theorem d10_13 : decode prog_25_method_2_code 13 = .ok (.iload 6, 2) := by decide +kernel
theorem d10_15 : decode prog_25_method_2_code 15 = .ok (.iload 5, 2) := by decide +kernel
theorem d10_17 : decode prog_25_method_2_code 17 = .ok (.if_icmp .ge 40, 3) := by decide +kernel
theorem d10_20 : decode prog_25_method_2_code 20 = .ok (.aload 4, 2) := by decide +kernel
theorem d10_22 : decode prog_25_method_2_code 22 = .ok (.iload 6, 2) := by decide +kernel
theorem d10_24 : decode prog_25_method_2_code 24 = .ok (.aaload, 1) := by decide +kernel
theorem d10_25 : decode prog_25_method_2_code 25 = .ok (.astore 7, 2) := by decide +kernel
theorem d10_27 : decode prog_25_method_2_code 27 = .ok (.aload_n 1, 1) := by decide +kernel
theorem d10_28 : decode prog_25_method_2_code 28 = .ok (.aload 7, 2) := by decide +kernel
theorem d10_30 : decode prog_25_method_2_code 30 = .ok (.invokeinterface 7 2, 5) := by decide +kernel
theorem d10_35 : decode prog_25_method_2_code 35 = .ok (.checkcast 13, 3) := by decide +kernel
theorem d10_38 : decode prog_25_method_2_code 38 = .ok (.aload_n 2, 1) := by decide +kernel
theorem d10_39 : decode prog_25_method_2_code 39 = .ok (.invokevirtual 15, 3) := by decide +kernel
theorem pd__Ljava_lang_Object__Z : parseMethodDescriptor "(Ljava/lang/Object;)Z" = some ⟨[(.object "java/lang/Object")], some .boolean⟩ := by decide +kernel
theorem d10_42 : decode prog_25_method_2_code 42 = .ok (.ifCond .eq 9, 3) := by decide +kernel
theorem d10_45 : decode prog_25_method_2_code 45 = .ok (.aload 7, 2) := by decide +kernel
theorem d10_47 : decode prog_25_method_2_code 47 = .ok (.astore_n 3, 1) := by decide +kernel
theorem d10_48 : decode prog_25_method_2_code 48 = .ok (.goto 9, 3) := by decide +kernel
theorem d10_57 : decode prog_25_method_2_code 57 = .ok (.aload_n 3, 1) := by decide +kernel
theorem d10_58 : decode prog_25_method_2_code 58 = .ok (.areturn, 1) := by decide +kernel
theorem d10_51 : decode prog_25_method_2_code 51 = .ok (.iinc 6 1, 3) := by decide +kernel
theorem d10_54 : decode prog_25_method_2_code 54 = .ok (.goto (-41), 3) := by decide +kernel
set_option maxRecDepth 65536 in
set_option maxHeartbeats 40000000 in
theorem rmF (l : Launch) (Z : State) (a0 : Array Value) (hw : ∀ d ∈ tables_1, d.before a0 Z = true) (ws : List Jvm.Cond) (va : Addr) (kv : ClassId) (r0 : Addr) (r1 : Addr) (r2 : Addr) (b0 : Addr) (tb0 : Addr) (kb0 : ClassId) (nb0 : Int32) (eb0 : List Value) (b1 : Addr) (tb1 : Addr) (kb1 : ClassId) (nb1 : Int32) (eb1 : List Value) (b2 : Addr) (tb2 : Addr) (kb2 : ClassId) (nb2 : Int32) (eb2 : List Value) (s2 : Addr) (ts : Addr) (ks : ClassId) (ns : Int32) (fs : List Value) (la : Addr) (lk : ClassId) (wV : Addr) (w1_ : Addr) (w2_ : Addr) (w3_ : Addr) (kV : ClassId) (iC : Int32) (vF : Value) (lS1 : Addr) (lT1 : Addr) (lK1 : ClassId) (lS2 : Addr) (lT2 : Addr) (lK2 : ClassId) (lS3 : Addr) (lT3 : Addr) (lK3 : ClassId) (h0 : Heap) (n0 : Nat) (O0 : Old Z n0 h0) (l_b0 : Ln nb0 eb0) (v_b0 : Iv eb0) (l_b1 : Ln nb1 eb1) (v_b1 : Iv eb1) (l_b2 : Ln nb2 eb2) (v_b2 : Iv eb2) (l_s2 : Ln ns fs) (v_s2 : Iv fs) (V_va : Arv Z h0 va kv (.object "com/example/naysay/naysay/access/Role") (3 : Int32) [(.ref r0), (.ref r1), (.ref r2)] .null) (E_r0 : Exa Z h0 r0 "com/example/naysay/naysay/access/Role") (F_r0_label : Fld Z h0 r0 "com/example/naysay/naysay/access/Role" "label" "Ljava/lang/String;" (.ref b0)) (E_r1 : Exa Z h0 r1 "com/example/naysay/naysay/access/Role") (F_r1_label : Fld Z h0 r1 "com/example/naysay/naysay/access/Role" "label" "Ljava/lang/String;" (.ref b1)) (E_r2 : Exa Z h0 r2 "com/example/naysay/naysay/access/Role") (F_r2_label : Fld Z h0 r2 "com/example/naysay/naysay/access/Role" "label" "Ljava/lang/String;" (.ref b2)) (E_b0 : Exa Z h0 b0 "java/lang/String") (F_b0_coder : Fld Z h0 b0 "java/lang/String" "coder" "B" (.int 0)) (F_b0_value : Fld Z h0 b0 "java/lang/String" "value" "[B" (.ref tb0)) (V_tb0 : Arv Z h0 tb0 kb0 .byte nb0 eb0 (.int 0)) (E_b1 : Exa Z h0 b1 "java/lang/String") (F_b1_coder : Fld Z h0 b1 "java/lang/String" "coder" "B" (.int 0)) (F_b1_value : Fld Z h0 b1 "java/lang/String" "value" "[B" (.ref tb1)) (V_tb1 : Arv Z h0 tb1 kb1 .byte nb1 eb1 (.int 0)) (E_b2 : Exa Z h0 b2 "java/lang/String") (F_b2_coder : Fld Z h0 b2 "java/lang/String" "coder" "B" (.int 0)) (F_b2_value : Fld Z h0 b2 "java/lang/String" "value" "[B" (.ref tb2)) (V_tb2 : Arv Z h0 tb2 kb2 .byte nb2 eb2 (.int 0)) (E_s2 : Exa Z h0 s2 "java/lang/String") (F_s2_coder : Fld Z h0 s2 "java/lang/String" "coder" "B" (.int 0)) (F_s2_value : Fld Z h0 s2 "java/lang/String" "value" "[B" (.ref ts)) (V_ts : Arv Z h0 ts ks .byte ns fs (.int 0)) (LF : LamF Z la lk) (WW : World1 Z wV w1_ w2_ w3_ kV iC vF lS1 lT1 lK1 lS2 lT2 lK2 lS3 lT3 lK3) :
    Con l Z mq9 prog_25_method_2_code 8 (some (.object "java/lang/Object")) ws ({ frames := 2, cells := 0, slots := 0, locals := 36 } : Room) #[(.ref va), (.ref la), (.ref s2)] h0 (fun v h L => ((v = some (.ref r0) ∧ eb0 = fs) ∨ (v = some (.ref r1) ∧ eb0 ≠ fs ∧ eb1 = fs) ∨ (v = some (.ref r2) ∧ eb0 ≠ fs ∧ eb1 ≠ fs ∧ eb2 = fs) ∨ (v = some .null ∧ eb0 ≠ fs ∧ eb1 ≠ fs ∧ eb2 ≠ fs)) ∧ Fr n0 L ∧ h = h0) := by
  refine own_body (plainFor_of_name pn_com_example_naysay_naysay_rules_Names) ?_
  intro p e s m below meth c s₁ hx hby hml hZ hown hnm hlk hret X0 e0
  have N0 := Fr.nil n0
  have D := @hb _ _ hby
  refine Go.st (T' := s₁) (f' := (mkF m 0 #[rv va, rv la, rv s2, .unset, .unset, .unset, .unset, .unset] [])) (fun _ k => castTop (by first | (simp [entryFrame, mkF, argsToLocals, Value.category]; done) | rfl) k) ?_
  have ⟨S_iC, nz_iC, S_vF, r_vF, S_wV, E_wV, S_w1_, E_w1_, S_w2_, E_w2_, S_w3_, E_w3_, V_wV, F_w1__label, E_lS1, F_lS1_coder, F_lS1_value, V_lT1, F_w2__label, E_lS2, F_lS2_coder, F_lS2_value, V_lT2, F_w3__label, E_lS3, F_lS3_coder, F_lS3_value, V_lT3⟩ := WW
  have lt_wV := E_wV.lt
  have lt_w1_ := E_w1_.lt
  have lt_w2_ := E_w2_.lt
  have lt_w3_ := E_w3_.lt
  have lt_lS1 := E_lS1.lt
  have lt_lT1 := V_lT1.lt
  have lt_lS2 := E_lS2.lt
  have lt_lT2 := V_lT2.lt
  have lt_lS3 := E_lS3.lt
  have lt_lT3 := V_lT3.lt
  have lt_va := V_va.lt
  have lt_r0 := E_r0.lt
  have lt_r1 := E_r1.lt
  have lt_r2 := E_r2.lt
  have lt_b0 := E_b0.lt
  have lt_tb0 := V_tb0.lt
  have lt_b1 := E_b1.lt
  have lt_tb1 := V_tb1.lt
  have lt_b2 := E_b2.lt
  have lt_tb2 := V_tb2.lt
  have lt_s2 := E_s2.lt
  have lt_ts := V_ts.lt
  refine Go.st (f' := (mkF m 1 #[rv va, rv la, rv s2, .unset, .unset, .unset, .unset, .unset] [.null])) (fun _ k => XS.aconstNull X0.here hx rfl (D d10_0) k) ?_
  refine zrn 2 #[rv va, rv la, rv s2, .val .null, .unset, .unset, .unset, .unset] X0 hx (D d10_1) rfl ?_
  refine zan 3 X0 hx (D d10_2) rfl rfl ?_
  refine zrl 5 #[rv va, rv la, rv s2, .val .null, rv va, .unset, .unset, .unset] X0 hx (D d10_3) rfl ?_
  refine zal 7 X0 hx (D d10_5) rfl rfl ?_
  obtain ⟨cl1, Ar1, -, S1, Nx1, -, -⟩ := id V_va
  refine Go.st (T' := s₁) (f' := (mkF m 8 #[rv va, rv la, rv s2, .val .null, rv va, .unset, .unset, .unset] [(.int 3)])) (fun _ k => X0.arraylength hx (by rw [e0]; exact Ar1.1) (State.isArrayOf_alike hZ.alike Ar1.2.1) (g := (mkF m 7 #[rv va, rv la, rv s2, .val .null, rv va, .unset, .unset, .unset] [(.ref va)])) rfl rfl (D d10_7) _ (by rw [len_of S1 Nx1]; exact k)) ?_
  refine zsl 10 #[rv va, rv la, rv s2, .val .null, rv va, iv 3, .unset, .unset] X0 hx (D d10_8) ?_
  refine zic 11 0 X0 hx (D d10_10) ?_
  refine zsl 13 #[rv va, rv la, rv s2, .val .null, rv va, iv 3, iv 0, .unset] X0 hx (D d10_11) ?_
  refine zil 15 X0 hx (D d10_13) rfl ?_
  refine zil 17 X0 hx (D d10_15) rfl ?_
  refine zcn 20 X0 hx (D d10_17) (by decide) ?_
  refine zal 22 X0 hx (D d10_20) rfl rfl ?_
  refine zil 24 X0 hx (D d10_22) rfl ?_
  obtain ⟨cl2, Ar2, -, S2, -, H2, -⟩ := id V_va
  have hin2 : ¬ ((0 : Int32) < 0 ∨ cl2.slots.size ≤ ((0 : Int32)).toNatClampNeg) := inb_of S2 ⟨by decide, by decide⟩
  have hat2 : cl2.slots[((0 : Int32)).toNatClampNeg]? = some (.ref r0) := H2.at hin2 rfl
  refine Go.st (f' := (mkF m 25 #[rv va, rv la, rv s2, .val .null, rv va, iv 3, iv 0, .unset] [(.ref r0)])) (fun _ k => X0.aaload hx (j := (0 : Int32)) (v := (.ref r0)) (by rw [e0]; exact Ar2.1) (State.isArrayOf_alike hZ.alike Ar2.2.1) rfl Ar2.2.2 hin2 hat2 (g := (mkF m 24 #[rv va, rv la, rv s2, .val .null, rv va, iv 3, iv 0, .unset] [(.int 0), (.ref va)])) rfl rfl (D d10_24) _ k) ?_
  refine zrl 27 #[rv va, rv la, rv s2, .val .null, rv va, iv 3, iv 0, rv r0] X0 hx (D d10_25) rfl ?_
  refine zan 28 X0 hx (D d10_27) rfl rfl ?_
  refine zal 30 X0 hx (D d10_28) rfl rfl ?_
  obtain ⟨T3, L3, X3, Nq3, e3, st3⟩ := own_apply X0 hx hZ hown hw LF O0 e0 E_r0 F_r0_label (g := (mkF m 30 #[rv va, rv la, rv s2, .val .null, rv va, iv 3, iv 0, rv r0] [(.ref r0), (.ref la)])) rfl (by rw [hml]; rfl) rfl (D d10_30) (W := 0) (by show 2 * 0 + _ ≤ _; exact Nat.le_of_eq rfl) (by decide) (by decide) (by decide) (by decide)
  have N3 := Fr.app N0 Nq3
  refine zst 35 #[rv va, rv la, rv s2, .val .null, rv va, iv 3, iv 0, rv r0] [(.ref b0)] st3 ?_
  obtain ⟨T4, X4, e4, st4⟩ := castY X3 hx hZ hown (ww hw 73 rfl) e3 (Ins.self E_b0) (g := (mkF m 35 #[rv va, rv la, rv s2, .val .null, rv va, iv 3, iv 0, rv r0] [(.ref b0)])) rfl rfl (D d10_35)
  refine zst 38 #[rv va, rv la, rv s2, .val .null, rv va, iv 3, iv 0, rv r0] [(.ref b0)] st4 ?_
  refine zan 39 X4 hx (D d10_38) rfl rfl ?_
  obtain ⟨cq5, kq5, q5a, q5b, q5c⟩ := isOf hZ e4 E_b0
  obtain ⟨_, _, ⟨T5, L5, kk5, nn5⟩, -, X5, ⟨Lc5, hQ5, lq5, yq5, zz5⟩, st5⟩ := X4.virtualBack hx (y := mq6) (z := mq6) hown (mvT hZ (ww hw 74 rfl)) (mvT hZ (ww hw 75 rfl)) (notFace_of_selects (args := #[]) (mvT hZ (ww hw 77 rfl))) (mvT hZ (ww hw 77 rfl)) (mvT hZ (ww hw 76 rfl)) (by decide) (own_back (W := 0) (qes l Z a0 hw [] b0 s2 tb0 kb0 nb0 eb0 ts ks ns fs wV w1_ w2_ w3_ kV iC vF lS1 lT1 lK1 lS2 lT2 lK2 lS3 lT3 lK3 h0 n0 O0 l_b0 v_b0 l_s2 v_s2 E_b0 F_b0_coder F_b0_value V_tb0 E_s2 F_s2_coder F_s2_value V_ts WW) hZ (ww hw 78 rfl) (ww hw 8 rfl) (by decide) (by decide)) q5a q5c (g := (mkF m 39 #[rv va, rv la, rv s2, .val .null, rv va, iv 3, iv 0, rv r0] [(.ref s2), (.ref b0)])) rfl (by rw [hml]; rfl) (Steps.refl _) (argsL := [(.ref s2)]) (rest := []) (lenOf pd__Ljava_lang_Object__Z rfl) rfl (by show 2 * 0 + _ ≤ _; exact Nat.le_of_eq rfl) (D d10_39) (fun _ _ => ⟨rfl, e4, (by decide : 0 + 0 ≤ _), (by decide : 0 + 0 ≤ _)⟩)
  dsimp only [Pt.U, Pt.locs, Pt.cells, Pt.slots] at X5 lq5 yq5 zz5 st5 hQ5
  subst lq5 yq5 zz5
  obtain ⟨vd5, Nq5, kq5⟩ := hQ5
  have N5 := Fr.app N3 Nq5
  rcases vd5 with ⟨rfl, qe5⟩ | ⟨rfl, qe5⟩
  · refine Go.tr (f' := (mkF m 42 #[rv va, rv la, rv s2, .val .null, rv va, iv 3, iv 0, rv r0] [(.int 1)])) st5 ?_
    refine zfn 45 X5 hx (D d10_42) (by decide) ?_
    refine zal 47 X5 hx (D d10_45) rfl rfl ?_
    refine zrn 48 #[rv va, rv la, rv s2, rv r0, rv va, iv 3, iv 0, rv r0] X5 hx (D d10_47) rfl ?_
    refine zgo 57 X5 hx (D d10_48) ?_
    refine zan 58 X5 hx (D d10_57) rfl rfl ?_
    refine Go.retV X5 hlk hx (t := (.object "java/lang/Object")) hret rfl (Or.inr (Or.inr (Or.inr (Or.inr ⟨rfl, rfl, rfl⟩)))) (D d10_58) kq5 ?_ (by decide) (by decide)
    exact ⟨(Or.inl ⟨rfl, qe5⟩), N5, rfl⟩
  · refine Go.tr (f' := (mkF m 42 #[rv va, rv la, rv s2, .val .null, rv va, iv 3, iv 0, rv r0] [(.int 0)])) st5 ?_
    refine zfy 51 X5 hx (D d10_42) (by decide) ?_
    refine zii 54 #[rv va, rv la, rv s2, .val .null, rv va, iv 3, iv 1, rv r0] X5 hx (D d10_51) rfl ?_
    refine zgo 13 X5 hx (D d10_54) ?_
    refine zil 15 X5 hx (D d10_13) rfl ?_
    refine zil 17 X5 hx (D d10_15) rfl ?_
    refine zcn 20 X5 hx (D d10_17) (by decide) ?_
    refine zal 22 X5 hx (D d10_20) rfl rfl ?_
    refine zil 24 X5 hx (D d10_22) rfl ?_
    obtain ⟨cl6, Ar6, -, S6, -, H6, -⟩ := id V_va
    have hin6 : ¬ ((1 : Int32) < 0 ∨ cl6.slots.size ≤ ((1 : Int32)).toNatClampNeg) := inb_of S6 ⟨by decide, by decide⟩
    have hat6 : cl6.slots[((1 : Int32)).toNatClampNeg]? = some (.ref r1) := H6.at hin6 rfl
    refine Go.st (f' := (mkF m 25 #[rv va, rv la, rv s2, .val .null, rv va, iv 3, iv 1, rv r0] [(.ref r1)])) (fun _ k => X5.aaload hx (j := (1 : Int32)) (v := (.ref r1)) (by rw [kq5]; exact Ar6.1) (State.isArrayOf_alike hZ.alike Ar6.2.1) rfl Ar6.2.2 hin6 hat6 (g := (mkF m 24 #[rv va, rv la, rv s2, .val .null, rv va, iv 3, iv 1, rv r0] [(.int 1), (.ref va)])) rfl rfl (D d10_24) _ k) ?_
    refine zrl 27 #[rv va, rv la, rv s2, .val .null, rv va, iv 3, iv 1, rv r1] X5 hx (D d10_25) rfl ?_
    refine zan 28 X5 hx (D d10_27) rfl rfl ?_
    refine zal 30 X5 hx (D d10_28) rfl rfl ?_
    obtain ⟨T7, L7, X7, Nq7, e7, st7⟩ := own_apply X5 hx hZ hown hw LF O0 kq5 E_r1 F_r1_label (g := (mkF m 30 #[rv va, rv la, rv s2, .val .null, rv va, iv 3, iv 1, rv r1] [(.ref r1), (.ref la)])) rfl (by rw [hml]; rfl) rfl (D d10_30) (W := 0) (by show 2 * 0 + _ ≤ _; exact Nat.le_of_eq rfl) (by decide) (by decide) (by decide) (by decide)
    have N7 := Fr.app N5 Nq7
    refine zst 35 #[rv va, rv la, rv s2, .val .null, rv va, iv 3, iv 1, rv r1] [(.ref b1)] st7 ?_
    obtain ⟨T8, X8, e8, st8⟩ := castY X7 hx hZ hown (ww hw 73 rfl) e7 (Ins.self E_b1) (g := (mkF m 35 #[rv va, rv la, rv s2, .val .null, rv va, iv 3, iv 1, rv r1] [(.ref b1)])) rfl rfl (D d10_35)
    refine zst 38 #[rv va, rv la, rv s2, .val .null, rv va, iv 3, iv 1, rv r1] [(.ref b1)] st8 ?_
    refine zan 39 X8 hx (D d10_38) rfl rfl ?_
    obtain ⟨cq9, kq9, q9a, q9b, q9c⟩ := isOf hZ e8 E_b1
    obtain ⟨_, _, ⟨T9, L9, kk9, nn9⟩, -, X9, ⟨Lc9, hQ9, lq9, yq9, zz9⟩, st9⟩ := X8.virtualBack hx (y := mq6) (z := mq6) hown (mvT hZ (ww hw 74 rfl)) (mvT hZ (ww hw 75 rfl)) (notFace_of_selects (args := #[]) (mvT hZ (ww hw 77 rfl))) (mvT hZ (ww hw 77 rfl)) (mvT hZ (ww hw 76 rfl)) (by decide) (own_back (W := 0) (qes l Z a0 hw [] b1 s2 tb1 kb1 nb1 eb1 ts ks ns fs wV w1_ w2_ w3_ kV iC vF lS1 lT1 lK1 lS2 lT2 lK2 lS3 lT3 lK3 h0 n0 O0 l_b1 v_b1 l_s2 v_s2 E_b1 F_b1_coder F_b1_value V_tb1 E_s2 F_s2_coder F_s2_value V_ts WW) hZ (ww hw 78 rfl) (ww hw 8 rfl) (by decide) (by decide)) q9a q9c (g := (mkF m 39 #[rv va, rv la, rv s2, .val .null, rv va, iv 3, iv 1, rv r1] [(.ref s2), (.ref b1)])) rfl (by rw [hml]; rfl) (Steps.refl _) (argsL := [(.ref s2)]) (rest := []) (lenOf pd__Ljava_lang_Object__Z rfl) rfl (by show 2 * 0 + _ ≤ _; exact Nat.le_of_eq rfl) (D d10_39) (fun _ _ => ⟨rfl, e8, (by decide : 0 + 0 ≤ _), (by decide : 0 + 0 ≤ _)⟩)
    dsimp only [Pt.U, Pt.locs, Pt.cells, Pt.slots] at X9 lq9 yq9 zz9 st9 hQ9
    subst lq9 yq9 zz9
    obtain ⟨vd9, Nq9, kq9⟩ := hQ9
    have N9 := Fr.app N7 Nq9
    rcases vd9 with ⟨rfl, qe9⟩ | ⟨rfl, qe9⟩
    · refine Go.tr (f' := (mkF m 42 #[rv va, rv la, rv s2, .val .null, rv va, iv 3, iv 1, rv r1] [(.int 1)])) st9 ?_
      refine zfn 45 X9 hx (D d10_42) (by decide) ?_
      refine zal 47 X9 hx (D d10_45) rfl rfl ?_
      refine zrn 48 #[rv va, rv la, rv s2, rv r1, rv va, iv 3, iv 1, rv r1] X9 hx (D d10_47) rfl ?_
      refine zgo 57 X9 hx (D d10_48) ?_
      refine zan 58 X9 hx (D d10_57) rfl rfl ?_
      refine Go.retV X9 hlk hx (t := (.object "java/lang/Object")) hret rfl (Or.inr (Or.inr (Or.inr (Or.inr ⟨rfl, rfl, rfl⟩)))) (D d10_58) kq9 ?_ (by decide) (by decide)
      exact ⟨(Or.inr (Or.inl ⟨rfl, qe5, qe9⟩)), N9, rfl⟩
    · refine Go.tr (f' := (mkF m 42 #[rv va, rv la, rv s2, .val .null, rv va, iv 3, iv 1, rv r1] [(.int 0)])) st9 ?_
      refine zfy 51 X9 hx (D d10_42) (by decide) ?_
      refine zii 54 #[rv va, rv la, rv s2, .val .null, rv va, iv 3, iv 2, rv r1] X9 hx (D d10_51) rfl ?_
      refine zgo 13 X9 hx (D d10_54) ?_
      refine zil 15 X9 hx (D d10_13) rfl ?_
      refine zil 17 X9 hx (D d10_15) rfl ?_
      refine zcn 20 X9 hx (D d10_17) (by decide) ?_
      refine zal 22 X9 hx (D d10_20) rfl rfl ?_
      refine zil 24 X9 hx (D d10_22) rfl ?_
      obtain ⟨cl10, Ar10, -, S10, -, H10, -⟩ := id V_va
      have hin10 : ¬ ((2 : Int32) < 0 ∨ cl10.slots.size ≤ ((2 : Int32)).toNatClampNeg) := inb_of S10 ⟨by decide, by decide⟩
      have hat10 : cl10.slots[((2 : Int32)).toNatClampNeg]? = some (.ref r2) := H10.at hin10 rfl
      refine Go.st (f' := (mkF m 25 #[rv va, rv la, rv s2, .val .null, rv va, iv 3, iv 2, rv r1] [(.ref r2)])) (fun _ k => X9.aaload hx (j := (2 : Int32)) (v := (.ref r2)) (by rw [kq9]; exact Ar10.1) (State.isArrayOf_alike hZ.alike Ar10.2.1) rfl Ar10.2.2 hin10 hat10 (g := (mkF m 24 #[rv va, rv la, rv s2, .val .null, rv va, iv 3, iv 2, rv r1] [(.int 2), (.ref va)])) rfl rfl (D d10_24) _ k) ?_
      refine zrl 27 #[rv va, rv la, rv s2, .val .null, rv va, iv 3, iv 2, rv r2] X9 hx (D d10_25) rfl ?_
      refine zan 28 X9 hx (D d10_27) rfl rfl ?_
      refine zal 30 X9 hx (D d10_28) rfl rfl ?_
      obtain ⟨T11, L11, X11, Nq11, e11, st11⟩ := own_apply X9 hx hZ hown hw LF O0 kq9 E_r2 F_r2_label (g := (mkF m 30 #[rv va, rv la, rv s2, .val .null, rv va, iv 3, iv 2, rv r2] [(.ref r2), (.ref la)])) rfl (by rw [hml]; rfl) rfl (D d10_30) (W := 0) (by show 2 * 0 + _ ≤ _; exact Nat.le_of_eq rfl) (by decide) (by decide) (by decide) (by decide)
      have N11 := Fr.app N9 Nq11
      refine zst 35 #[rv va, rv la, rv s2, .val .null, rv va, iv 3, iv 2, rv r2] [(.ref b2)] st11 ?_
      obtain ⟨T12, X12, e12, st12⟩ := castY X11 hx hZ hown (ww hw 73 rfl) e11 (Ins.self E_b2) (g := (mkF m 35 #[rv va, rv la, rv s2, .val .null, rv va, iv 3, iv 2, rv r2] [(.ref b2)])) rfl rfl (D d10_35)
      refine zst 38 #[rv va, rv la, rv s2, .val .null, rv va, iv 3, iv 2, rv r2] [(.ref b2)] st12 ?_
      refine zan 39 X12 hx (D d10_38) rfl rfl ?_
      obtain ⟨cq13, kq13, q13a, q13b, q13c⟩ := isOf hZ e12 E_b2
      obtain ⟨_, _, ⟨T13, L13, kk13, nn13⟩, -, X13, ⟨Lc13, hQ13, lq13, yq13, zz13⟩, st13⟩ := X12.virtualBack hx (y := mq6) (z := mq6) hown (mvT hZ (ww hw 74 rfl)) (mvT hZ (ww hw 75 rfl)) (notFace_of_selects (args := #[]) (mvT hZ (ww hw 77 rfl))) (mvT hZ (ww hw 77 rfl)) (mvT hZ (ww hw 76 rfl)) (by decide) (own_back (W := 0) (qes l Z a0 hw [] b2 s2 tb2 kb2 nb2 eb2 ts ks ns fs wV w1_ w2_ w3_ kV iC vF lS1 lT1 lK1 lS2 lT2 lK2 lS3 lT3 lK3 h0 n0 O0 l_b2 v_b2 l_s2 v_s2 E_b2 F_b2_coder F_b2_value V_tb2 E_s2 F_s2_coder F_s2_value V_ts WW) hZ (ww hw 78 rfl) (ww hw 8 rfl) (by decide) (by decide)) q13a q13c (g := (mkF m 39 #[rv va, rv la, rv s2, .val .null, rv va, iv 3, iv 2, rv r2] [(.ref s2), (.ref b2)])) rfl (by rw [hml]; rfl) (Steps.refl _) (argsL := [(.ref s2)]) (rest := []) (lenOf pd__Ljava_lang_Object__Z rfl) rfl (by show 2 * 0 + _ ≤ _; exact Nat.le_of_eq rfl) (D d10_39) (fun _ _ => ⟨rfl, e12, (by decide : 0 + 0 ≤ _), (by decide : 0 + 0 ≤ _)⟩)
      dsimp only [Pt.U, Pt.locs, Pt.cells, Pt.slots] at X13 lq13 yq13 zz13 st13 hQ13
      subst lq13 yq13 zz13
      obtain ⟨vd13, Nq13, kq13⟩ := hQ13
      have N13 := Fr.app N11 Nq13
      rcases vd13 with ⟨rfl, qe13⟩ | ⟨rfl, qe13⟩
      · refine Go.tr (f' := (mkF m 42 #[rv va, rv la, rv s2, .val .null, rv va, iv 3, iv 2, rv r2] [(.int 1)])) st13 ?_
        refine zfn 45 X13 hx (D d10_42) (by decide) ?_
        refine zal 47 X13 hx (D d10_45) rfl rfl ?_
        refine zrn 48 #[rv va, rv la, rv s2, rv r2, rv va, iv 3, iv 2, rv r2] X13 hx (D d10_47) rfl ?_
        refine zgo 57 X13 hx (D d10_48) ?_
        refine zan 58 X13 hx (D d10_57) rfl rfl ?_
        refine Go.retV X13 hlk hx (t := (.object "java/lang/Object")) hret rfl (Or.inr (Or.inr (Or.inr (Or.inr ⟨rfl, rfl, rfl⟩)))) (D d10_58) kq13 ?_ (by decide) (by decide)
        exact ⟨(Or.inr (Or.inr (Or.inl ⟨rfl, qe5, qe9, qe13⟩))), N13, rfl⟩
      · refine Go.tr (f' := (mkF m 42 #[rv va, rv la, rv s2, .val .null, rv va, iv 3, iv 2, rv r2] [(.int 0)])) st13 ?_
        refine zfy 51 X13 hx (D d10_42) (by decide) ?_
        refine zii 54 #[rv va, rv la, rv s2, .val .null, rv va, iv 3, iv 3, rv r2] X13 hx (D d10_51) rfl ?_
        refine zgo 13 X13 hx (D d10_54) ?_
        refine zil 15 X13 hx (D d10_13) rfl ?_
        refine zil 17 X13 hx (D d10_15) rfl ?_
        refine zcy 57 X13 hx (D d10_17) (by decide) ?_
        refine zan 58 X13 hx (D d10_57) rfl rfl ?_
        refine Go.retV X13 hlk hx (t := (.object "java/lang/Object")) hret rfl (Or.inr (Or.inr (Or.inr (Or.inr ⟨rfl, rfl, rfl⟩)))) (D d10_58) kq13 ?_ (by decide) (by decide)
        exact ⟨(Or.inr (Or.inr (Or.inr (⟨rfl, qe5, qe9, qe13⟩)))), N13, rfl⟩
theorem iv_lit0 : Iv [(Value.int (112 : Int32)), (Value.int (97 : Int32)), (Value.int (121 : Int32)), (Value.int (109 : Int32)), (Value.int (101 : Int32)), (Value.int (110 : Int32)), (Value.int (116 : Int32)), (Value.int (32 : Int32)), (Value.int (115 : Int32)), (Value.int (121 : Int32)), (Value.int (115 : Int32)), (Value.int (116 : Int32)), (Value.int (101 : Int32)), (Value.int (109 : Int32))] := fun j h => by
  simp only [List.length_cons, List.length_nil] at h
  match j, h with
  | 0, _ => exact ⟨_, rfl⟩
  | 1, _ => exact ⟨_, rfl⟩
  | 2, _ => exact ⟨_, rfl⟩
  | 3, _ => exact ⟨_, rfl⟩
  | 4, _ => exact ⟨_, rfl⟩
  | 5, _ => exact ⟨_, rfl⟩
  | 6, _ => exact ⟨_, rfl⟩
  | 7, _ => exact ⟨_, rfl⟩
  | 8, _ => exact ⟨_, rfl⟩
  | 9, _ => exact ⟨_, rfl⟩
  | 10, _ => exact ⟨_, rfl⟩
  | 11, _ => exact ⟨_, rfl⟩
  | 12, _ => exact ⟨_, rfl⟩
  | 13, _ => exact ⟨_, rfl⟩
theorem iv_lit1 : Iv [(Value.int (97 : Int32)), (Value.int (110 : Int32)), (Value.int (97 : Int32)), (Value.int (108 : Int32)), (Value.int (121 : Int32)), (Value.int (115 : Int32)), (Value.int (116 : Int32))] := fun j h => by
  simp only [List.length_cons, List.length_nil] at h
  match j, h with
  | 0, _ => exact ⟨_, rfl⟩
  | 1, _ => exact ⟨_, rfl⟩
  | 2, _ => exact ⟨_, rfl⟩
  | 3, _ => exact ⟨_, rfl⟩
  | 4, _ => exact ⟨_, rfl⟩
  | 5, _ => exact ⟨_, rfl⟩
  | 6, _ => exact ⟨_, rfl⟩
theorem iv_lit2 : Iv [(Value.int (97 : Int32)), (Value.int (100 : Int32)), (Value.int (109 : Int32)), (Value.int (105 : Int32)), (Value.int (110 : Int32))] := fun j h => by
  simp only [List.length_cons, List.length_nil] at h
  match j, h with
  | 0, _ => exact ⟨_, rfl⟩
  | 1, _ => exact ⟨_, rfl⟩
  | 2, _ => exact ⟨_, rfl⟩
  | 3, _ => exact ⟨_, rfl⟩
  | 4, _ => exact ⟨_, rfl⟩
theorem d8_0 : decode prog_4_method_4_code 0 = .ok (.invokestatic 47, 3) := by decide +kernel
theorem pd____Lcom_example_naysay_naysay_access_Role_ : parseMethodDescriptor "()[Lcom/example/naysay/naysay/access/Role;" = some ⟨[], some (.array (.object "com/example/naysay/naysay/access/Role"))⟩ := by decide +kernel
theorem d8_3 : decode prog_4_method_4_code 3 = .ok (.invokedynamic 51, 5) := by decide +kernel
theorem d8_8 : decode prog_4_method_4_code 8 = .ok (.aload_n 0, 1) := by decide +kernel
theorem d8_9 : decode prog_4_method_4_code 9 = .ok (.invokestatic 55, 3) := by decide +kernel
theorem pd___Ljava_lang_Object_Ljava_util_function_Function_Ljava_lang_String__Ljava_lang_Object_ : parseMethodDescriptor "([Ljava/lang/Object;Ljava/util/function/Function;Ljava/lang/String;)Ljava/lang/Object;" = some ⟨[(.array (.object "java/lang/Object")), (.object "java/util/function/Function"), (.object "java/lang/String")], some (.object "java/lang/Object")⟩ := by decide +kernel
theorem d8_12 : decode prog_4_method_4_code 12 = .ok (.checkcast 1, 3) := by decide +kernel
theorem d8_15 : decode prog_4_method_4_code 15 = .ok (.areturn, 1) := by decide +kernel
set_option maxRecDepth 65536 in
set_option maxHeartbeats 40000000 in
theorem rmN (l : Launch) (Z : State) (a0 : Array Value) (hw : ∀ d ∈ tables_1, d.before a0 Z = true) (ws : List Jvm.Cond) (s2 : Addr) (ts : Addr) (ks : ClassId) (ns : Int32) (fs : List Value) (la : Addr) (lk : ClassId) (wV : Addr) (w1_ : Addr) (w2_ : Addr) (w3_ : Addr) (kV : ClassId) (iC : Int32) (vF : Value) (lS1 : Addr) (lT1 : Addr) (lK1 : ClassId) (lS2 : Addr) (lT2 : Addr) (lK2 : ClassId) (lS3 : Addr) (lT3 : Addr) (lK3 : ClassId) (h0 : Heap) (n0 : Nat) (O0 : Old Z n0 h0) (l_s2 : Ln ns fs) (v_s2 : Iv fs) (E_s2 : Exa Z h0 s2 "java/lang/String") (F_s2_coder : Fld Z h0 s2 "java/lang/String" "coder" "B" (.int 0)) (F_s2_value : Fld Z h0 s2 "java/lang/String" "value" "[B" (.ref ts)) (V_ts : Arv Z h0 ts ks .byte ns fs (.int 0)) (LF : LamF Z la lk) (WW : World1 Z wV w1_ w2_ w3_ kV iC vF lS1 lT1 lK1 lS2 lT2 lK2 lS3 lT3 lK3) :
    Con l Z mq10 prog_4_method_4_code 1 (some (.object "com/example/naysay/naysay/access/Role")) ws ({ frames := 3, cells := 1, slots := 3, locals := 3073 } : Room) #[(.ref s2)] h0 (fun v h L => ((v = some (.ref w1_) ∧ [(Value.int 112), (Value.int 97), (Value.int 121), (Value.int 109), (Value.int 101), (Value.int 110), (Value.int 116), (Value.int 32), (Value.int 115), (Value.int 121), (Value.int 115), (Value.int 116), (Value.int 101), (Value.int 109)] = fs) ∨ (v = some (.ref w2_) ∧ [(Value.int 112), (Value.int 97), (Value.int 121), (Value.int 109), (Value.int 101), (Value.int 110), (Value.int 116), (Value.int 32), (Value.int 115), (Value.int 121), (Value.int 115), (Value.int 116), (Value.int 101), (Value.int 109)] ≠ fs ∧ [(Value.int 97), (Value.int 110), (Value.int 97), (Value.int 108), (Value.int 121), (Value.int 115), (Value.int 116)] = fs) ∨ (v = some (.ref w3_) ∧ [(Value.int 112), (Value.int 97), (Value.int 121), (Value.int 109), (Value.int 101), (Value.int 110), (Value.int 116), (Value.int 32), (Value.int 115), (Value.int 121), (Value.int 115), (Value.int 116), (Value.int 101), (Value.int 109)] ≠ fs ∧ [(Value.int 97), (Value.int 110), (Value.int 97), (Value.int 108), (Value.int 121), (Value.int 115), (Value.int 116)] ≠ fs ∧ [(Value.int 97), (Value.int 100), (Value.int 109), (Value.int 105), (Value.int 110)] = fs) ∨ (v = some .null ∧ [(Value.int 112), (Value.int 97), (Value.int 121), (Value.int 109), (Value.int 101), (Value.int 110), (Value.int 116), (Value.int 32), (Value.int 115), (Value.int 121), (Value.int 115), (Value.int 116), (Value.int 101), (Value.int 109)] ≠ fs ∧ [(Value.int 97), (Value.int 110), (Value.int 97), (Value.int 108), (Value.int 121), (Value.int 115), (Value.int 116)] ≠ fs ∧ [(Value.int 97), (Value.int 100), (Value.int 109), (Value.int 105), (Value.int 110)] ≠ fs)) ∧ Fr n0 L ∧ Keep h0 h []) := by
  refine own_bodyN (plainFor_of_name pn_com_example_naysay_naysay_access_Role) ?_
  intro p e s m below meth c s₁ hx hby hml hZ hown hnm hlk hret X0 e0 hmn
  have N0 := Fr.nil n0
  have D := @hb _ _ hby
  have K0 : Keep h0 h0 [] := Keep.refl _ _
  refine Go.st (T' := s₁) (f' := (mkF m 0 #[rv s2] [])) (fun _ k => castTop (by first | (simp [entryFrame, mkF, argsToLocals, Value.category]; done) | rfl) k) ?_
  have ⟨S_iC, nz_iC, S_vF, r_vF, S_wV, E_wV, S_w1_, E_w1_, S_w2_, E_w2_, S_w3_, E_w3_, V_wV, F_w1__label, E_lS1, F_lS1_coder, F_lS1_value, V_lT1, F_w2__label, E_lS2, F_lS2_coder, F_lS2_value, V_lT2, F_w3__label, E_lS3, F_lS3_coder, F_lS3_value, V_lT3⟩ := WW
  have lt_wV := E_wV.lt
  have lt_w1_ := E_w1_.lt
  have lt_w2_ := E_w2_.lt
  have lt_w3_ := E_w3_.lt
  have lt_lS1 := E_lS1.lt
  have lt_lT1 := V_lT1.lt
  have lt_lS2 := E_lS2.lt
  have lt_lT2 := V_lT2.lt
  have lt_lS3 := E_lS3.lt
  have lt_lT3 := V_lT3.lt
  have lt_s2 := E_s2.lt
  have lt_ts := V_ts.lt
  refine gS 3 0 1 3 X0 N0 hx hZ (y := mq7) hown hml (ww hw 39 rfl) (ww hw 40 rfl) (ww hw 37 rfl) (rmV l Z a0 hw [] wV w1_ w2_ w3_ kV iC vF lS1 lT1 lK1 lS2 lT2 lK2 lS3 lT3 lK3 h0 n0 O0 WW) (ww hw 41 rfl) e0 [] [] (lenOf pd____Lcom_example_naysay_naysay_access_Role_ rfl) (D d8_0) ?_
  rintro T1 L1 M1 _ X1 uu1 ⟨b1, rfl, Nq1, zq1, kq1, vq1, eq1⟩
  have N1 := uu1 Nq1
  have ne_wV_b1 : wV ≠ b1 := Nat.ne_of_lt (Nat.lt_of_lt_of_le lt_wV (Nat.le_trans O0.2.1 zq1))
  have ne_w1__b1 : w1_ ≠ b1 := Nat.ne_of_lt (Nat.lt_of_lt_of_le lt_w1_ (Nat.le_trans O0.2.1 zq1))
  have ne_w2__b1 : w2_ ≠ b1 := Nat.ne_of_lt (Nat.lt_of_lt_of_le lt_w2_ (Nat.le_trans O0.2.1 zq1))
  have ne_w3__b1 : w3_ ≠ b1 := Nat.ne_of_lt (Nat.lt_of_lt_of_le lt_w3_ (Nat.le_trans O0.2.1 zq1))
  have ne_lS1_b1 : lS1 ≠ b1 := Nat.ne_of_lt (Nat.lt_of_lt_of_le lt_lS1 (Nat.le_trans O0.2.1 zq1))
  have ne_lT1_b1 : lT1 ≠ b1 := Nat.ne_of_lt (Nat.lt_of_lt_of_le lt_lT1 (Nat.le_trans O0.2.1 zq1))
  have ne_lS2_b1 : lS2 ≠ b1 := Nat.ne_of_lt (Nat.lt_of_lt_of_le lt_lS2 (Nat.le_trans O0.2.1 zq1))
  have ne_lT2_b1 : lT2 ≠ b1 := Nat.ne_of_lt (Nat.lt_of_lt_of_le lt_lT2 (Nat.le_trans O0.2.1 zq1))
  have ne_lS3_b1 : lS3 ≠ b1 := Nat.ne_of_lt (Nat.lt_of_lt_of_le lt_lS3 (Nat.le_trans O0.2.1 zq1))
  have ne_lT3_b1 : lT3 ≠ b1 := Nat.ne_of_lt (Nat.lt_of_lt_of_le lt_lT3 (Nat.le_trans O0.2.1 zq1))
  have g_b1 : n0 ≤ b1 := Nat.le_trans (O0.1 ▸ O0.2.1) zq1
  have sz_b1 : h0.size ≤ b1 := Nat.le_trans K0.1 zq1
  have O1 : Old Z n0 T1.heap := O0.keep kq1 all0
  have K1 : Keep h0 T1.heap [] := K0.trans kq1 all0
  have lt_b1 := eq1.lt
  refine zsk [(.ref b1)] ?_
  refine Go.st (f' := (mkF m 8 #[rv s2] [(.ref la), (.ref b1)])) (fun _ k => own_site (g := (mkF m 3 #[rv s2] [(.ref b1)])) X1 hx hZ hmn LF rfl rfl (by rw [hml]; rfl) (D d8_3) (by show 2 * 0 + 1 + _ ≤ _; decide) k) ?_
  refine zan 9 X1 hx (D d8_8) rfl rfl ?_
  have ft3 := (E_s2.keep kq1)
  have ft4 := (F_s2_coder.keep kq1 nin0)
  have ft5 := (F_s2_value.keep kq1 nin0)
  have ft6 := (V_ts.keep kq1 nin0)
  obtain ⟨_, _, ⟨T2, L2, kk2, nn2⟩, -, X2, ⟨Lc2, hQ2, lq2, yq2, zz2⟩, st2⟩ := Jvm.LawKit.callS X1 hx (y := mq9) hown (mvT hZ (ww hw 60 rfl)) (mvT hZ (ww hw 61 rfl)) (mvT hZ (ww hw 62 rfl)) (mvT hZ (ww hw 63 rfl)) (by decide) (own_back (W := 0) (rmF l Z a0 hw [] b1 kV w1_ w2_ w3_ lS1 lT1 lK1 (14 : Int32) [(.int (112 : Int32)), (.int (97 : Int32)), (.int (121 : Int32)), (.int (109 : Int32)), (.int (101 : Int32)), (.int (110 : Int32)), (.int (116 : Int32)), (.int (32 : Int32)), (.int (115 : Int32)), (.int (121 : Int32)), (.int (115 : Int32)), (.int (116 : Int32)), (.int (101 : Int32)), (.int (109 : Int32))] lS2 lT2 lK2 (7 : Int32) [(.int (97 : Int32)), (.int (110 : Int32)), (.int (97 : Int32)), (.int (108 : Int32)), (.int (121 : Int32)), (.int (115 : Int32)), (.int (116 : Int32))] lS3 lT3 lK3 (5 : Int32) [(.int (97 : Int32)), (.int (100 : Int32)), (.int (109 : Int32)), (.int (105 : Int32)), (.int (110 : Int32))] s2 ts ks ns fs la lk wV w1_ w2_ w3_ kV iC vF lS1 lT1 lK1 lS2 lT2 lK2 lS3 lT3 lK3 T1.heap n0 O1 ⟨by decide, by decide⟩ (iv_lit0) ⟨by decide, by decide⟩ (iv_lit1) ⟨by decide, by decide⟩ (iv_lit2) l_s2 v_s2 vq1 (E_w1_.ext O1.2) (F_w1__label.ext O1.2) (E_w2_.ext O1.2) (F_w2__label.ext O1.2) (E_w3_.ext O1.2) (F_w3__label.ext O1.2) (E_lS1.ext O1.2) (F_lS1_coder.ext O1.2) (F_lS1_value.ext O1.2) (V_lT1.ext O1.2) (E_lS2.ext O1.2) (F_lS2_coder.ext O1.2) (F_lS2_value.ext O1.2) (V_lT2.ext O1.2) (E_lS3.ext O1.2) (F_lS3_coder.ext O1.2) (F_lS3_value.ext O1.2) (V_lT3.ext O1.2) ft3 ft4 ft5 ft6 LF WW) hZ (ww hw 63 rfl) (ww hw 62 rfl) (by decide) (by decide)) (g := (mkF m 9 #[rv s2] [(.ref s2), (.ref la), (.ref b1)])) rfl (by rw [hml]; rfl) (argsL := [(.ref b1), (.ref la), (.ref s2)]) (rest := []) (lenOf pd___Ljava_lang_Object_Ljava_util_function_Function_Ljava_lang_String__Ljava_lang_Object_ rfl) rfl (by show 2 * 0 + _ ≤ _; exact Nat.le_of_eq rfl) (D d8_9) (fun _ _ => ⟨rfl, rfl, (by decide : 1 + 0 ≤ _), (by decide : 3 + 0 ≤ _)⟩)
  dsimp only [Pt.U, Pt.locs, Pt.cells, Pt.slots] at X2 lq2 yq2 zz2 st2 hQ2
  subst lq2 yq2 zz2
  obtain ⟨dd2, Nq2, kq2⟩ := hQ2
  have N2 := Fr.app N1 Nq2
  rcases dd2 with ⟨rfl, q02⟩ | ⟨rfl, q02, q12⟩ | ⟨rfl, q02, q12, q22⟩ | ⟨rfl, q02, q12, q22⟩
  · refine Go.st (f' := (mkF m 12 #[rv s2] [(.ref w1_)])) (fun _ k => st2 _ k) ?_
    obtain ⟨T7, X7, e7, st7⟩ := castY X2 hx hZ hown (ww hw 84 rfl) kq2 (Ins.self (E_w1_.ext O1.2)) (g := (mkF m 12 #[rv s2] [(.ref w1_)])) rfl rfl (D d8_12)
    refine zst 15 #[rv s2] [(.ref w1_)] st7 ?_
    refine Go.retV X7 hlk hx (t := (.object "com/example/naysay/naysay/access/Role")) hret rfl (Or.inr (Or.inr (Or.inr (Or.inr ⟨rfl, rfl, rfl⟩)))) (D d8_15) e7 ?_ (by decide) (by decide)
    exact ⟨(Or.inl ⟨rfl, q02⟩), N2, K1⟩
  · refine Go.st (f' := (mkF m 12 #[rv s2] [(.ref w2_)])) (fun _ k => st2 _ k) ?_
    obtain ⟨T8, X8, e8, st8⟩ := castY X2 hx hZ hown (ww hw 84 rfl) kq2 (Ins.self (E_w2_.ext O1.2)) (g := (mkF m 12 #[rv s2] [(.ref w2_)])) rfl rfl (D d8_12)
    refine zst 15 #[rv s2] [(.ref w2_)] st8 ?_
    refine Go.retV X8 hlk hx (t := (.object "com/example/naysay/naysay/access/Role")) hret rfl (Or.inr (Or.inr (Or.inr (Or.inr ⟨rfl, rfl, rfl⟩)))) (D d8_15) e8 ?_ (by decide) (by decide)
    exact ⟨(Or.inr (Or.inl ⟨rfl, q02, q12⟩)), N2, K1⟩
  · refine Go.st (f' := (mkF m 12 #[rv s2] [(.ref w3_)])) (fun _ k => st2 _ k) ?_
    obtain ⟨T9, X9, e9, st9⟩ := castY X2 hx hZ hown (ww hw 84 rfl) kq2 (Ins.self (E_w3_.ext O1.2)) (g := (mkF m 12 #[rv s2] [(.ref w3_)])) rfl rfl (D d8_12)
    refine zst 15 #[rv s2] [(.ref w3_)] st9 ?_
    refine Go.retV X9 hlk hx (t := (.object "com/example/naysay/naysay/access/Role")) hret rfl (Or.inr (Or.inr (Or.inr (Or.inr ⟨rfl, rfl, rfl⟩)))) (D d8_15) e9 ?_ (by decide) (by decide)
    exact ⟨(Or.inr (Or.inr (Or.inl ⟨rfl, q02, q12, q22⟩))), N2, K1⟩
  · refine Go.st (f' := (mkF m 12 #[rv s2] [.null])) (fun _ k => st2 _ k) ?_
    refine Go.st (f' := (mkF m 15 #[rv s2] [.null])) (fun _ k => X2.checkcastNull hx (g := (mkF m 12 #[rv s2] [.null])) rfl rfl (D d8_12) _ k) ?_
    refine Go.retV X2 hlk hx (t := (.object "com/example/naysay/naysay/access/Role")) hret rfl (Or.inr (Or.inr (Or.inr (Or.inr ⟨rfl, rfl, rfl⟩)))) (D d8_15) kq2 ?_ (by decide) (by decide)
    exact ⟨(Or.inr (Or.inr (Or.inr (⟨rfl, q02, q12, q22⟩)))), N2, K1⟩
theorem pn_com_example_naysay_naysay_access_RoleNamedPinLaw : plainName "com/example/naysay/naysay/access/RoleNamedPinLaw" = true := by first | (simp [plainName, overriddenIn]; done) | decide +kernel
theorem d14_0 : decode method_3_code 0 = .ok (.aload_n 0, 1) := by decide +kernel
theorem d14_1 : decode method_3_code 1 = .ok (.ldc 7, 2) := by decide +kernel
theorem d14_3 : decode method_3_code 3 = .ok (.invokevirtual 9, 3) := by decide +kernel
theorem d14_6 : decode method_3_code 6 = .ok (.ifCond .eq 7, 3) := by decide +kernel
theorem d14_9 : decode method_3_code 9 = .ok (.getstatic 15, 3) := by decide +kernel
theorem d14_12 : decode method_3_code 12 = .ok (.areturn, 1) := by decide +kernel
theorem d14_13 : decode method_3_code 13 = .ok (.aload_n 0, 1) := by decide +kernel
theorem d14_14 : decode method_3_code 14 = .ok (.ldc 21, 2) := by decide +kernel
theorem d14_16 : decode method_3_code 16 = .ok (.invokevirtual 9, 3) := by decide +kernel
theorem d14_19 : decode method_3_code 19 = .ok (.ifCond .eq 7, 3) := by decide +kernel
theorem d14_22 : decode method_3_code 22 = .ok (.getstatic 23, 3) := by decide +kernel
theorem d14_25 : decode method_3_code 25 = .ok (.areturn, 1) := by decide +kernel
theorem d14_26 : decode method_3_code 26 = .ok (.aload_n 0, 1) := by decide +kernel
theorem d14_27 : decode method_3_code 27 = .ok (.ldc 26, 2) := by decide +kernel
theorem d14_29 : decode method_3_code 29 = .ok (.invokevirtual 9, 3) := by decide +kernel
theorem d14_32 : decode method_3_code 32 = .ok (.ifCond .eq 7, 3) := by decide +kernel
theorem d14_35 : decode method_3_code 35 = .ok (.getstatic 28, 3) := by decide +kernel
theorem d14_38 : decode method_3_code 38 = .ok (.areturn, 1) := by decide +kernel
theorem d14_39 : decode method_3_code 39 = .ok (.aconst_null, 1) := by decide +kernel
theorem d14_40 : decode method_3_code 40 = .ok (.areturn, 1) := by decide +kernel
set_option maxRecDepth 65536 in
set_option maxHeartbeats 40000000 in
theorem rmX (l : Launch) (Z : State) (a0 : Array Value) (hw : ∀ d ∈ tables_1, d.before a0 Z = true) (ws : List Jvm.Cond) (s2 : Addr) (ts : Addr) (ks : ClassId) (ns : Int32) (fs : List Value) (wV : Addr) (w1_ : Addr) (w2_ : Addr) (w3_ : Addr) (kV : ClassId) (iC : Int32) (vF : Value) (lS1 : Addr) (lT1 : Addr) (lK1 : ClassId) (lS2 : Addr) (lT2 : Addr) (lK2 : ClassId) (lS3 : Addr) (lT3 : Addr) (lK3 : ClassId) (h0 : Heap) (n0 : Nat) (O0 : Old Z n0 h0) (l_s2 : Ln ns fs) (v_s2 : Iv fs) (E_s2 : Exa Z h0 s2 "java/lang/String") (F_s2_coder : Fld Z h0 s2 "java/lang/String" "coder" "B" (.int 0)) (F_s2_value : Fld Z h0 s2 "java/lang/String" "value" "[B" (.ref ts)) (V_ts : Arv Z h0 ts ks .byte ns fs (.int 0)) (WW : World1 Z wV w1_ w2_ w3_ kV iC vF lS1 lT1 lK1 lS2 lT2 lK2 lS3 lT3 lK3) :
    ConW l Z EL mq11 method_3_code 1 (some (.object "com/example/naysay/naysay/access/Role")) ws ({ frames := 2, cells := 6, slots := 116, locals := 28 } : Room) #[(.ref s2)] h0 (fun v h L => ((v = some (.ref w1_) ∧ [(Value.int 112), (Value.int 97), (Value.int 121), (Value.int 109), (Value.int 101), (Value.int 110), (Value.int 116), (Value.int 32), (Value.int 115), (Value.int 121), (Value.int 115), (Value.int 116), (Value.int 101), (Value.int 109)] = fs) ∨ (v = some (.ref w2_) ∧ [(Value.int 112), (Value.int 97), (Value.int 121), (Value.int 109), (Value.int 101), (Value.int 110), (Value.int 116), (Value.int 32), (Value.int 115), (Value.int 121), (Value.int 115), (Value.int 116), (Value.int 101), (Value.int 109)] ≠ fs ∧ [(Value.int 97), (Value.int 110), (Value.int 97), (Value.int 108), (Value.int 121), (Value.int 115), (Value.int 116)] = fs) ∨ (v = some (.ref w3_) ∧ [(Value.int 112), (Value.int 97), (Value.int 121), (Value.int 109), (Value.int 101), (Value.int 110), (Value.int 116), (Value.int 32), (Value.int 115), (Value.int 121), (Value.int 115), (Value.int 116), (Value.int 101), (Value.int 109)] ≠ fs ∧ [(Value.int 97), (Value.int 110), (Value.int 97), (Value.int 108), (Value.int 121), (Value.int 115), (Value.int 116)] ≠ fs ∧ [(Value.int 97), (Value.int 100), (Value.int 109), (Value.int 105), (Value.int 110)] = fs) ∨ (v = some .null ∧ [(Value.int 112), (Value.int 97), (Value.int 121), (Value.int 109), (Value.int 101), (Value.int 110), (Value.int 116), (Value.int 32), (Value.int 115), (Value.int 121), (Value.int 115), (Value.int 116), (Value.int 101), (Value.int 109)] ≠ fs ∧ [(Value.int 97), (Value.int 110), (Value.int 97), (Value.int 108), (Value.int 121), (Value.int 115), (Value.int 116)] ≠ fs ∧ [(Value.int 97), (Value.int 100), (Value.int 109), (Value.int 105), (Value.int 110)] ≠ fs)) ∧ Fr n0 L ∧ Keep h0 h []) := by
  refine own_bodyW (plainFor_of_name pn_com_example_naysay_naysay_access_RoleNamedPinLaw) ?_
  intro p e s m below meth c s₁ hx hby hml hZ hown hnm hlk hret X0 e0 hh hS CR0
  have hEL := own_EL hw
  have wS := own_wS hw
  have N0 := Fr.nil n0
  have D := @hb _ _ hby
  have K0 : Keep h0 h0 [] := Keep.refl _ _
  refine Go.st (T' := s₁) (f' := (mkF m 0 #[rv s2] [])) (fun _ k => castTop (by first | (simp [entryFrame, mkF, argsToLocals, Value.category]; done) | rfl) k) ?_
  have ⟨S_iC, nz_iC, S_vF, r_vF, S_wV, E_wV, S_w1_, E_w1_, S_w2_, E_w2_, S_w3_, E_w3_, V_wV, F_w1__label, E_lS1, F_lS1_coder, F_lS1_value, V_lT1, F_w2__label, E_lS2, F_lS2_coder, F_lS2_value, V_lT2, F_w3__label, E_lS3, F_lS3_coder, F_lS3_value, V_lT3⟩ := WW
  have lt_wV := E_wV.lt
  have lt_w1_ := E_w1_.lt
  have lt_w2_ := E_w2_.lt
  have lt_w3_ := E_w3_.lt
  have lt_lS1 := E_lS1.lt
  have lt_lT1 := V_lT1.lt
  have lt_lS2 := E_lS2.lt
  have lt_lT2 := V_lT2.lt
  have lt_lS3 := E_lS3.lt
  have lt_lT3 := V_lT3.lt
  have lt_s2 := E_s2.lt
  have lt_ts := V_ts.lt
  have lk0 : Ln (14 : Int32) [(Value.int (112 : Int32)), (Value.int (97 : Int32)), (Value.int (121 : Int32)), (Value.int (109 : Int32)), (Value.int (101 : Int32)), (Value.int (110 : Int32)), (Value.int (116 : Int32)), (Value.int (32 : Int32)), (Value.int (115 : Int32)), (Value.int (121 : Int32)), (Value.int (115 : Int32)), (Value.int (116 : Int32)), (Value.int (101 : Int32)), (Value.int (109 : Int32))] := ⟨by decide, by decide⟩
  have lk1 : Ln (7 : Int32) [(Value.int (97 : Int32)), (Value.int (110 : Int32)), (Value.int (97 : Int32)), (Value.int (108 : Int32)), (Value.int (121 : Int32)), (Value.int (115 : Int32)), (Value.int (116 : Int32))] := ⟨by decide, by decide⟩
  have lk2 : Ln (5 : Int32) [(Value.int (97 : Int32)), (Value.int (100 : Int32)), (Value.int (109 : Int32)), (Value.int (105 : Int32)), (Value.int (110 : Int32))] := ⟨by decide, by decide⟩
  refine zan 1 X0 hx (D d14_0) rfl rfl ?_
  obtain ⟨b1, T1, h1, k11, t1, kt1, X1, e1, E1, hS1, hk1, hZ1, hown1, A1, cq1, fq1, vq1, lt_b1, lt_t1, crw1, -, sfx1, st1⟩ := ldcCH (EL := EL) X0 hx hZ hown (ww hw 88 rfl) wS e0 hS (Nat.zero_le _) hEL (List.mem_of_getElem? (i := 0) rfl) CR0.1 (vs := [(.int (112 : Int32)), (.int (97 : Int32)), (.int (121 : Int32)), (.int (109 : Int32)), (.int (101 : Int32)), (.int (110 : Int32)), (.int (116 : Int32)), (.int (32 : Int32)), (.int (115 : Int32)), (.int (121 : Int32)), (.int (115 : Int32)), (.int (116 : Int32)), (.int (101 : Int32)), (.int (109 : Int32))]) (z := (14 : Int32)) ⟨by decide, by decide⟩ (by decide) rfl (g := (mkF m 1 #[rv s2] [(.ref s2)])) rfl (D d14_1) (n := 56) (by decide) (by decide) (by decide) (by decide)
  have O1 : Old Z n0 h1 := O0.ext E1
  have K1 : Keep h0 h1 [] := K0.ext E1
  have CR1 := CR0.trans crw1
  refine zst 3 #[rv s2] [(.ref b1), (.ref s2)] st1 ?_
  have ft3 := (E_s2.ext E1)
  have ft4 := (F_s2_coder.ext E1)
  have ft5 := (F_s2_value.ext E1)
  have ft6 := (V_ts.ext E1)
  obtain ⟨cq2, kq2, q2a, q2b, q2c⟩ := isOf hZ1 e1 ft3
  obtain ⟨_, _, ⟨T2, L2, kk2, nn2⟩, -, X2, ⟨Lc2, hQ2, lq2, yq2, zz2⟩, st2⟩ := X1.virtualBack hx (y := mq6) (z := mq6) hown1 (mvT hZ1 (ww hw 91 rfl)) (mvT hZ1 (ww hw 75 rfl)) (notFace_of_selects (args := #[]) (mvT hZ1 (ww hw 77 rfl))) (mvT hZ1 (ww hw 77 rfl)) (mvT hZ1 (ww hw 76 rfl)) (by decide) (own_back (W := 0) (qes l Z a0 hw [] s2 b1 ts ks ns fs t1 kt1 (14 : Int32) [(.int (112 : Int32)), (.int (97 : Int32)), (.int (121 : Int32)), (.int (109 : Int32)), (.int (101 : Int32)), (.int (110 : Int32)), (.int (116 : Int32)), (.int (32 : Int32)), (.int (115 : Int32)), (.int (121 : Int32)), (.int (115 : Int32)), (.int (116 : Int32)), (.int (101 : Int32)), (.int (109 : Int32))] wV w1_ w2_ w3_ kV iC vF lS1 lT1 lK1 lS2 lT2 lK2 lS3 lT3 lK3 h1 n0 O1 l_s2 v_s2 lk0 iv_lit0 ft3 ft4 ft5 ft6 A1 cq1 fq1 vq1 WW) hZ1 (ww hw 78 rfl) (ww hw 8 rfl) (by decide) (by decide)) q2a q2c (g := (mkF m 3 #[rv s2] [(.ref b1), (.ref s2)])) rfl (by rw [hml]; rfl) (Steps.refl _) (argsL := [(.ref b1)]) (rest := []) (lenOf pd__Ljava_lang_Object__Z rfl) rfl (by show 2 * 0 + _ ≤ _; exact Nat.le_of_eq rfl) (D d14_3) (fun _ _ => ⟨rfl, e1, (by decide : 2 + 0 ≤ _), (by decide : 60 + 0 ≤ _)⟩)
  dsimp only [Pt.U, Pt.locs, Pt.cells, Pt.slots] at X2 lq2 yq2 zz2 st2 hQ2
  subst lq2 yq2 zz2
  obtain ⟨vd2, Nq2, kq2⟩ := hQ2
  have N2 := Fr.app N0 Nq2
  rcases vd2 with ⟨rfl, qe2⟩ | ⟨rfl, qe2⟩
  · refine Go.tr (f' := (mkF m 6 #[rv s2] [(.int 1)])) st2 ?_
    refine zfn 9 X2 hx (D d14_6) (by decide) ?_
    obtain ⟨T7, X7, e7, st7⟩ := getS2 X2 hx hZ1 hown1 (host := "") (Or.inl (ww hw 92 rfl)) Via.refl kq2 (S_w1_.ext O1.2) (g := (mkF m 9 #[rv s2] [])) rfl (D d14_9)
    refine zst 12 #[rv s2] [(.ref w1_)] st7 ?_
    refine GoW.retV X7 hlk hx (t := (.object "com/example/naysay/naysay/access/Role")) hret rfl (Or.inr (Or.inr (Or.inr (Or.inr ⟨rfl, rfl, rfl⟩)))) (D d14_12) e7 hS1 hk1 hZ1 hEL CR1 hh ?_ (by decide) (by decide)
    exact ⟨(Or.inl ⟨rfl, (qe2).symm⟩), N2, K1⟩
  · refine Go.tr (f' := (mkF m 6 #[rv s2] [(.int 0)])) st2 ?_
    refine zfy 13 X2 hx (D d14_6) (by decide) ?_
    refine zan 14 X2 hx (D d14_13) rfl rfl ?_
    obtain ⟨b8, T8, h8, k18, t8, kt8, X8, e8, E8, hS8, hk8, hZ8, hown8, A8, cq8, fq8, vq8, lt_b8, lt_t8, crw8, -, sfx8, st8⟩ := ldcCH (EL := EL) X2 hx hZ1 hown1 (ww hw 93 rfl) wS kq2 hS1 hk1 hEL (List.mem_of_getElem? (i := 1) rfl) CR1.1 (vs := [(.int (97 : Int32)), (.int (110 : Int32)), (.int (97 : Int32)), (.int (108 : Int32)), (.int (121 : Int32)), (.int (115 : Int32)), (.int (116 : Int32))]) (z := (7 : Int32)) ⟨by decide, by decide⟩ (by decide) rfl (g := (mkF m 14 #[rv s2] [(.ref s2)])) rfl (D d14_14) (n := 28) (by decide) (by decide) (by decide) (by decide)
    have O8 : Old Z n0 h8 := O1.ext E8
    have K8 : Keep h0 h8 [] := K1.ext E8
    have CR8 := CR1.trans crw8
    refine zst 16 #[rv s2] [(.ref b8), (.ref s2)] st8 ?_
    have ft10 := (ft3.ext E8)
    have ft11 := (ft4.ext E8)
    have ft12 := (ft5.ext E8)
    have ft13 := (ft6.ext E8)
    obtain ⟨cq9, kq9, q9a, q9b, q9c⟩ := isOf hZ8 e8 ft10
    obtain ⟨_, _, ⟨T9, L9, kk9, nn9⟩, -, X9, ⟨Lc9, hQ9, lq9, yq9, zz9⟩, st9⟩ := X8.virtualBack hx (y := mq6) (z := mq6) hown8 (mvT hZ8 (ww hw 91 rfl)) (mvT hZ8 (ww hw 75 rfl)) (notFace_of_selects (args := #[]) (mvT hZ8 (ww hw 77 rfl))) (mvT hZ8 (ww hw 77 rfl)) (mvT hZ8 (ww hw 76 rfl)) (by decide) (own_back (W := 0) (qes l Z a0 hw [] s2 b8 ts ks ns fs t8 kt8 (7 : Int32) [(.int (97 : Int32)), (.int (110 : Int32)), (.int (97 : Int32)), (.int (108 : Int32)), (.int (121 : Int32)), (.int (115 : Int32)), (.int (116 : Int32))] wV w1_ w2_ w3_ kV iC vF lS1 lT1 lK1 lS2 lT2 lK2 lS3 lT3 lK3 h8 n0 O8 l_s2 v_s2 lk1 iv_lit1 ft10 ft11 ft12 ft13 A8 cq8 fq8 vq8 WW) hZ8 (ww hw 78 rfl) (ww hw 8 rfl) (by decide) (by decide)) q9a q9c (g := (mkF m 16 #[rv s2] [(.ref b8), (.ref s2)])) rfl (by rw [hml]; rfl) (Steps.refl _) (argsL := [(.ref b8)]) (rest := []) (lenOf pd__Ljava_lang_Object__Z rfl) rfl (by show 2 * 0 + _ ≤ _; exact Nat.le_of_eq rfl) (D d14_16) (fun _ _ => ⟨rfl, e8, (by decide : 4 + 0 ≤ _), (by decide : 92 + 0 ≤ _)⟩)
    dsimp only [Pt.U, Pt.locs, Pt.cells, Pt.slots] at X9 lq9 yq9 zz9 st9 hQ9
    subst lq9 yq9 zz9
    obtain ⟨vd9, Nq9, kq9⟩ := hQ9
    have N9 := Fr.app N2 Nq9
    rcases vd9 with ⟨rfl, qe9⟩ | ⟨rfl, qe9⟩
    · refine Go.tr (f' := (mkF m 19 #[rv s2] [(.int 1)])) st9 ?_
      refine zfn 22 X9 hx (D d14_19) (by decide) ?_
      obtain ⟨T14, X14, e14, st14⟩ := getS2 X9 hx hZ8 hown8 (host := "") (Or.inl (ww hw 96 rfl)) Via.refl kq9 (S_w2_.ext O8.2) (g := (mkF m 22 #[rv s2] [])) rfl (D d14_22)
      refine zst 25 #[rv s2] [(.ref w2_)] st14 ?_
      refine GoW.retV X14 hlk hx (t := (.object "com/example/naysay/naysay/access/Role")) hret rfl (Or.inr (Or.inr (Or.inr (Or.inr ⟨rfl, rfl, rfl⟩)))) (D d14_25) e14 hS8 hk8 hZ8 hEL CR8 hh ?_ (by decide) (by decide)
      exact ⟨(Or.inr (Or.inl ⟨rfl, (Ne.symm qe2), (qe9).symm⟩)), N9, K8⟩
    · refine Go.tr (f' := (mkF m 19 #[rv s2] [(.int 0)])) st9 ?_
      refine zfy 26 X9 hx (D d14_19) (by decide) ?_
      refine zan 27 X9 hx (D d14_26) rfl rfl ?_
      obtain ⟨b15, T15, h15, k115, t15, kt15, X15, e15, E15, hS15, hk15, hZ15, hown15, A15, cq15, fq15, vq15, lt_b15, lt_t15, crw15, -, sfx15, st15⟩ := ldcCH (EL := EL) X9 hx hZ8 hown8 (ww hw 94 rfl) wS kq9 hS8 hk8 hEL (List.mem_of_getElem? (i := 2) rfl) CR8.1 (vs := [(.int (97 : Int32)), (.int (100 : Int32)), (.int (109 : Int32)), (.int (105 : Int32)), (.int (110 : Int32))]) (z := (5 : Int32)) ⟨by decide, by decide⟩ (by decide) rfl (g := (mkF m 27 #[rv s2] [(.ref s2)])) rfl (D d14_27) (n := 20) (by decide) (by decide) (by decide) (by decide)
      have O15 : Old Z n0 h15 := O8.ext E15
      have K15 : Keep h0 h15 [] := K8.ext E15
      have CR15 := CR8.trans crw15
      refine zst 29 #[rv s2] [(.ref b15), (.ref s2)] st15 ?_
      have ft17 := (ft10.ext E15)
      have ft18 := (ft11.ext E15)
      have ft19 := (ft12.ext E15)
      have ft20 := (ft13.ext E15)
      obtain ⟨cq16, kq16, q16a, q16b, q16c⟩ := isOf hZ15 e15 ft17
      obtain ⟨_, _, ⟨T16, L16, kk16, nn16⟩, -, X16, ⟨Lc16, hQ16, lq16, yq16, zz16⟩, st16⟩ := X15.virtualBack hx (y := mq6) (z := mq6) hown15 (mvT hZ15 (ww hw 91 rfl)) (mvT hZ15 (ww hw 75 rfl)) (notFace_of_selects (args := #[]) (mvT hZ15 (ww hw 77 rfl))) (mvT hZ15 (ww hw 77 rfl)) (mvT hZ15 (ww hw 76 rfl)) (by decide) (own_back (W := 0) (qes l Z a0 hw [] s2 b15 ts ks ns fs t15 kt15 (5 : Int32) [(.int (97 : Int32)), (.int (100 : Int32)), (.int (109 : Int32)), (.int (105 : Int32)), (.int (110 : Int32))] wV w1_ w2_ w3_ kV iC vF lS1 lT1 lK1 lS2 lT2 lK2 lS3 lT3 lK3 h15 n0 O15 l_s2 v_s2 lk2 iv_lit2 ft17 ft18 ft19 ft20 A15 cq15 fq15 vq15 WW) hZ15 (ww hw 78 rfl) (ww hw 8 rfl) (by decide) (by decide)) q16a q16c (g := (mkF m 29 #[rv s2] [(.ref b15), (.ref s2)])) rfl (by rw [hml]; rfl) (Steps.refl _) (argsL := [(.ref b15)]) (rest := []) (lenOf pd__Ljava_lang_Object__Z rfl) rfl (by show 2 * 0 + _ ≤ _; exact Nat.le_of_eq rfl) (D d14_29) (fun _ _ => ⟨rfl, e15, (by decide : 6 + 0 ≤ _), (by decide : 116 + 0 ≤ _)⟩)
      dsimp only [Pt.U, Pt.locs, Pt.cells, Pt.slots] at X16 lq16 yq16 zz16 st16 hQ16
      subst lq16 yq16 zz16
      obtain ⟨vd16, Nq16, kq16⟩ := hQ16
      have N16 := Fr.app N9 Nq16
      rcases vd16 with ⟨rfl, qe16⟩ | ⟨rfl, qe16⟩
      · refine Go.tr (f' := (mkF m 32 #[rv s2] [(.int 1)])) st16 ?_
        refine zfn 35 X16 hx (D d14_32) (by decide) ?_
        obtain ⟨T21, X21, e21, st21⟩ := getS2 X16 hx hZ15 hown15 (host := "") (Or.inl (ww hw 95 rfl)) Via.refl kq16 (S_w3_.ext O15.2) (g := (mkF m 35 #[rv s2] [])) rfl (D d14_35)
        refine zst 38 #[rv s2] [(.ref w3_)] st21 ?_
        refine GoW.retV X21 hlk hx (t := (.object "com/example/naysay/naysay/access/Role")) hret rfl (Or.inr (Or.inr (Or.inr (Or.inr ⟨rfl, rfl, rfl⟩)))) (D d14_38) e21 hS15 hk15 hZ15 hEL CR15 hh ?_ (by decide) (by decide)
        exact ⟨(Or.inr (Or.inr (Or.inl ⟨rfl, (Ne.symm qe2), (Ne.symm qe9), (qe16).symm⟩))), N16, K15⟩
      · refine Go.tr (f' := (mkF m 32 #[rv s2] [(.int 0)])) st16 ?_
        refine zfy 39 X16 hx (D d14_32) (by decide) ?_
        refine Go.st (f' := (mkF m 40 #[rv s2] [.null])) (fun _ k => XS.aconstNull X16.here hx rfl (D d14_39) k) ?_
        refine GoW.retV X16 hlk hx (t := (.object "com/example/naysay/naysay/access/Role")) hret rfl (Or.inr (Or.inr (Or.inr (Or.inr ⟨rfl, rfl, rfl⟩)))) (D d14_40) kq16 hS15 hk15 hZ15 hEL CR15 hh ?_ (by decide) (by decide)
        exact ⟨(Or.inr (Or.inr (Or.inr (⟨rfl, (Ne.symm qe2), (Ne.symm qe9), (Ne.symm qe16)⟩)))), N16, K15⟩
theorem ch_lit {v : Value} {x : Int32} {r : List Value} (e : v = .int x) (h : ¬ (255 : Int32) < x) (H : Ch r) : Ch (v :: r) := fun j hj => by
  cases j with
  | zero => exact ⟨x, e, h⟩
  | succ j => exact H j (by simpa using hj)
theorem ch_nil : Ch [] := fun j h => absurd h (by simp)
theorem own_c0 : ∀ k : Fin 256, ¬ (255 : Int32) < (nar .char (Int32.ofNat k.val)) := by decide +kernel
theorem own_ch (x : Int32) : ¬ (255 : Int32) < (nar .char ((x &&& (255 : Int32)).toUInt32.toUInt16.toUInt32.toInt32)) := by
  generalize h : ((x &&& (255 : Int32)).toUInt32.toUInt16.toUInt32.toInt32) = y
  have a := c_and x 255 (by decide)
  have c := c_i2c (x &&& 255)
  have e : (255 : Int32).toInt = 255 := by decide
  rw [h] at c
  have k : y = Int32.ofNat y.toInt.toNat := by
    rw [← Int32.toInt_inj, Int32.toInt_ofNat_of_lt (by omega)]; omega
  have q := own_c0 ⟨y.toInt.toNat, by omega⟩
  rw [← k] at q; exact q
/-- a store at i keeps the list's length -/
def sput (cs : List Value) (k : Nat) (v : Value) : List Value := cs.set k v
theorem sput_pad {cs : List Value} {k : Nat} (v : Value) (h : k < cs.length) (j : Nat) : (sput cs k v).getD j (.int (0 : Int32)) = (lput cs k v (.int (0 : Int32))).getD j (.int (0 : Int32)) := by
  rw [lput_getD]
  unfold sput
  rw [List.getD_eq_getElem?_getD]
  by_cases q : j = k
  · subst q; rw [if_pos rfl, List.getElem?_set_self h]; rfl
  · rw [if_neg q, List.getElem?_set_ne (fun e => q e.symm), ← List.getD_eq_getElem?_getD]
theorem sput_ch {cs : List Value} {k : Nat} {x : Int32} (H : Ch cs) (hk : k < cs.length) (h : ¬ (255 : Int32) < x) : Ch (sput cs k (.int x)) := fun j hj => by
  have hj' : j < cs.length := by unfold sput at hj; rwa [List.length_set] at hj
  rw [sput_pad (.int x) hk j, lput_getD]
  by_cases q : j = k
  · rw [if_pos q]; exact ⟨x, rfl, h⟩
  · rw [if_neg q]; exact H j hj'
theorem sput_ln {n : Int32} {cs : List Value} {k : Nat} {v : Value} (l : Ln n cs) : Ln n (sput cs k v) := ⟨l.1, by unfold sput; rw [List.length_set]; exact l.2⟩
theorem own_ix {n i x : Int32} {cs : List Value} (l : Ln n cs) (h : ¬ n = (0 : Int32)) (e : i = ((x &&& (2147483647 : Int32)) % n)) : ¬ i < (0 : Int32) ∧ i < n ∧ i.toNatClampNeg < cs.length := by
  have m := (c_and x 2147483647 (by decide)).1
  have l1 := l.1
  have l2 := l.2
  have hn : n.toInt ≠ 0 := fun q => h (by rw [← Int32.toInt_inj, q]; decide)
  have q := (c_iremV (x &&& 2147483647) n).1 m (by omega)
  rw [← e] at q
  have b := Int.emod_nonneg (x &&& (2147483647 : Int32)).toInt hn
  have d := Int.emod_lt_of_pos (x &&& (2147483647 : Int32)).toInt (b := n.toInt) (by omega)
  have e0 : (0 : Int32).toInt = 0 := by decide
  refine ⟨?_, ?_, ?_⟩
  · rw [Int32.lt_iff_toInt_lt]; omega
  · rw [Int32.lt_iff_toInt_lt]; omega
  · simp only [Int32.toNatClampNeg]; omega
theorem d1_0 : decode method_2_code 0 = .ok (.iload_n 0, 1) := by decide +kernel
theorem d1_1 : decode method_2_code 1 = .ok (.ifCond .ne 86, 3) := by decide +kernel
theorem d1_4 : decode method_2_code 4 = .ok (.bipush 14, 2) := by decide +kernel
theorem d1_6 : decode method_2_code 6 = .ok (.newarray .char, 2) := by decide +kernel
theorem d1_8 : decode method_2_code 8 = .ok (.dup, 1) := by decide +kernel
theorem d1_9 : decode method_2_code 9 = .ok (.iconst 0, 1) := by decide +kernel
theorem d1_10 : decode method_2_code 10 = .ok (.bipush 112, 2) := by decide +kernel
theorem d1_12 : decode method_2_code 12 = .ok (.castore, 1) := by decide +kernel
theorem d1_13 : decode method_2_code 13 = .ok (.dup, 1) := by decide +kernel
theorem d1_14 : decode method_2_code 14 = .ok (.iconst 1, 1) := by decide +kernel
theorem d1_15 : decode method_2_code 15 = .ok (.bipush 97, 2) := by decide +kernel
theorem d1_17 : decode method_2_code 17 = .ok (.castore, 1) := by decide +kernel
theorem d1_18 : decode method_2_code 18 = .ok (.dup, 1) := by decide +kernel
theorem d1_19 : decode method_2_code 19 = .ok (.iconst 2, 1) := by decide +kernel
theorem d1_20 : decode method_2_code 20 = .ok (.bipush 121, 2) := by decide +kernel
theorem d1_22 : decode method_2_code 22 = .ok (.castore, 1) := by decide +kernel
theorem d1_23 : decode method_2_code 23 = .ok (.dup, 1) := by decide +kernel
theorem d1_24 : decode method_2_code 24 = .ok (.iconst 3, 1) := by decide +kernel
theorem d1_25 : decode method_2_code 25 = .ok (.bipush 109, 2) := by decide +kernel
theorem d1_27 : decode method_2_code 27 = .ok (.castore, 1) := by decide +kernel
theorem d1_28 : decode method_2_code 28 = .ok (.dup, 1) := by decide +kernel
theorem d1_29 : decode method_2_code 29 = .ok (.iconst 4, 1) := by decide +kernel
theorem d1_30 : decode method_2_code 30 = .ok (.bipush 101, 2) := by decide +kernel
theorem d1_32 : decode method_2_code 32 = .ok (.castore, 1) := by decide +kernel
theorem d1_33 : decode method_2_code 33 = .ok (.dup, 1) := by decide +kernel
theorem d1_34 : decode method_2_code 34 = .ok (.iconst 5, 1) := by decide +kernel
theorem d1_35 : decode method_2_code 35 = .ok (.bipush 110, 2) := by decide +kernel
theorem d1_37 : decode method_2_code 37 = .ok (.castore, 1) := by decide +kernel
theorem d1_38 : decode method_2_code 38 = .ok (.dup, 1) := by decide +kernel
theorem d1_39 : decode method_2_code 39 = .ok (.bipush 6, 2) := by decide +kernel
theorem d1_41 : decode method_2_code 41 = .ok (.bipush 116, 2) := by decide +kernel
theorem d1_43 : decode method_2_code 43 = .ok (.castore, 1) := by decide +kernel
theorem d1_44 : decode method_2_code 44 = .ok (.dup, 1) := by decide +kernel
theorem d1_45 : decode method_2_code 45 = .ok (.bipush 7, 2) := by decide +kernel
theorem d1_47 : decode method_2_code 47 = .ok (.bipush 32, 2) := by decide +kernel
theorem d1_49 : decode method_2_code 49 = .ok (.castore, 1) := by decide +kernel
theorem d1_50 : decode method_2_code 50 = .ok (.dup, 1) := by decide +kernel
theorem d1_51 : decode method_2_code 51 = .ok (.bipush 8, 2) := by decide +kernel
theorem d1_53 : decode method_2_code 53 = .ok (.bipush 115, 2) := by decide +kernel
theorem d1_55 : decode method_2_code 55 = .ok (.castore, 1) := by decide +kernel
theorem d1_56 : decode method_2_code 56 = .ok (.dup, 1) := by decide +kernel
theorem d1_57 : decode method_2_code 57 = .ok (.bipush 9, 2) := by decide +kernel
theorem d1_59 : decode method_2_code 59 = .ok (.bipush 121, 2) := by decide +kernel
theorem d1_61 : decode method_2_code 61 = .ok (.castore, 1) := by decide +kernel
theorem d1_62 : decode method_2_code 62 = .ok (.dup, 1) := by decide +kernel
theorem d1_63 : decode method_2_code 63 = .ok (.bipush 10, 2) := by decide +kernel
theorem d1_65 : decode method_2_code 65 = .ok (.bipush 115, 2) := by decide +kernel
theorem d1_67 : decode method_2_code 67 = .ok (.castore, 1) := by decide +kernel
theorem d1_68 : decode method_2_code 68 = .ok (.dup, 1) := by decide +kernel
theorem d1_69 : decode method_2_code 69 = .ok (.bipush 11, 2) := by decide +kernel
theorem d1_71 : decode method_2_code 71 = .ok (.bipush 116, 2) := by decide +kernel
theorem d1_73 : decode method_2_code 73 = .ok (.castore, 1) := by decide +kernel
theorem d1_74 : decode method_2_code 74 = .ok (.dup, 1) := by decide +kernel
theorem d1_75 : decode method_2_code 75 = .ok (.bipush 12, 2) := by decide +kernel
theorem d1_77 : decode method_2_code 77 = .ok (.bipush 101, 2) := by decide +kernel
theorem d1_79 : decode method_2_code 79 = .ok (.castore, 1) := by decide +kernel
theorem d1_80 : decode method_2_code 80 = .ok (.dup, 1) := by decide +kernel
theorem d1_81 : decode method_2_code 81 = .ok (.bipush 13, 2) := by decide +kernel
theorem d1_83 : decode method_2_code 83 = .ok (.bipush 109, 2) := by decide +kernel
theorem d1_85 : decode method_2_code 85 = .ok (.castore, 1) := by decide +kernel
theorem d1_86 : decode method_2_code 86 = .ok (.areturn, 1) := by decide +kernel
theorem d1_87 : decode method_2_code 87 = .ok (.iload_n 0, 1) := by decide +kernel
theorem d1_88 : decode method_2_code 88 = .ok (.iconst 1, 1) := by decide +kernel
theorem d1_89 : decode method_2_code 89 = .ok (.if_icmp .ne 44, 3) := by decide +kernel
theorem d1_92 : decode method_2_code 92 = .ok (.bipush 7, 2) := by decide +kernel
theorem d1_94 : decode method_2_code 94 = .ok (.newarray .char, 2) := by decide +kernel
theorem d1_96 : decode method_2_code 96 = .ok (.dup, 1) := by decide +kernel
theorem d1_97 : decode method_2_code 97 = .ok (.iconst 0, 1) := by decide +kernel
theorem d1_98 : decode method_2_code 98 = .ok (.bipush 97, 2) := by decide +kernel
theorem d1_100 : decode method_2_code 100 = .ok (.castore, 1) := by decide +kernel
theorem d1_101 : decode method_2_code 101 = .ok (.dup, 1) := by decide +kernel
theorem d1_102 : decode method_2_code 102 = .ok (.iconst 1, 1) := by decide +kernel
theorem d1_103 : decode method_2_code 103 = .ok (.bipush 110, 2) := by decide +kernel
theorem d1_105 : decode method_2_code 105 = .ok (.castore, 1) := by decide +kernel
theorem d1_106 : decode method_2_code 106 = .ok (.dup, 1) := by decide +kernel
theorem d1_107 : decode method_2_code 107 = .ok (.iconst 2, 1) := by decide +kernel
theorem d1_108 : decode method_2_code 108 = .ok (.bipush 97, 2) := by decide +kernel
theorem d1_110 : decode method_2_code 110 = .ok (.castore, 1) := by decide +kernel
theorem d1_111 : decode method_2_code 111 = .ok (.dup, 1) := by decide +kernel
theorem d1_112 : decode method_2_code 112 = .ok (.iconst 3, 1) := by decide +kernel
theorem d1_113 : decode method_2_code 113 = .ok (.bipush 108, 2) := by decide +kernel
theorem d1_115 : decode method_2_code 115 = .ok (.castore, 1) := by decide +kernel
theorem d1_116 : decode method_2_code 116 = .ok (.dup, 1) := by decide +kernel
theorem d1_117 : decode method_2_code 117 = .ok (.iconst 4, 1) := by decide +kernel
theorem d1_118 : decode method_2_code 118 = .ok (.bipush 121, 2) := by decide +kernel
theorem d1_120 : decode method_2_code 120 = .ok (.castore, 1) := by decide +kernel
theorem d1_121 : decode method_2_code 121 = .ok (.dup, 1) := by decide +kernel
theorem d1_122 : decode method_2_code 122 = .ok (.iconst 5, 1) := by decide +kernel
theorem d1_123 : decode method_2_code 123 = .ok (.bipush 115, 2) := by decide +kernel
theorem d1_125 : decode method_2_code 125 = .ok (.castore, 1) := by decide +kernel
theorem d1_126 : decode method_2_code 126 = .ok (.dup, 1) := by decide +kernel
theorem d1_127 : decode method_2_code 127 = .ok (.bipush 6, 2) := by decide +kernel
theorem d1_129 : decode method_2_code 129 = .ok (.bipush 116, 2) := by decide +kernel
theorem d1_131 : decode method_2_code 131 = .ok (.castore, 1) := by decide +kernel
theorem d1_132 : decode method_2_code 132 = .ok (.areturn, 1) := by decide +kernel
theorem d1_133 : decode method_2_code 133 = .ok (.iload_n 0, 1) := by decide +kernel
theorem d1_134 : decode method_2_code 134 = .ok (.iconst 2, 1) := by decide +kernel
theorem d1_135 : decode method_2_code 135 = .ok (.if_icmp .ne 32, 3) := by decide +kernel
theorem d1_138 : decode method_2_code 138 = .ok (.iconst 5, 1) := by decide +kernel
theorem d1_139 : decode method_2_code 139 = .ok (.newarray .char, 2) := by decide +kernel
theorem d1_141 : decode method_2_code 141 = .ok (.dup, 1) := by decide +kernel
theorem d1_142 : decode method_2_code 142 = .ok (.iconst 0, 1) := by decide +kernel
theorem d1_143 : decode method_2_code 143 = .ok (.bipush 97, 2) := by decide +kernel
theorem d1_145 : decode method_2_code 145 = .ok (.castore, 1) := by decide +kernel
theorem d1_146 : decode method_2_code 146 = .ok (.dup, 1) := by decide +kernel
theorem d1_147 : decode method_2_code 147 = .ok (.iconst 1, 1) := by decide +kernel
theorem d1_148 : decode method_2_code 148 = .ok (.bipush 100, 2) := by decide +kernel
theorem d1_150 : decode method_2_code 150 = .ok (.castore, 1) := by decide +kernel
theorem d1_151 : decode method_2_code 151 = .ok (.dup, 1) := by decide +kernel
theorem d1_152 : decode method_2_code 152 = .ok (.iconst 2, 1) := by decide +kernel
theorem d1_153 : decode method_2_code 153 = .ok (.bipush 109, 2) := by decide +kernel
theorem d1_155 : decode method_2_code 155 = .ok (.castore, 1) := by decide +kernel
theorem d1_156 : decode method_2_code 156 = .ok (.dup, 1) := by decide +kernel
theorem d1_157 : decode method_2_code 157 = .ok (.iconst 3, 1) := by decide +kernel
theorem d1_158 : decode method_2_code 158 = .ok (.bipush 105, 2) := by decide +kernel
theorem d1_160 : decode method_2_code 160 = .ok (.castore, 1) := by decide +kernel
theorem d1_161 : decode method_2_code 161 = .ok (.dup, 1) := by decide +kernel
theorem d1_162 : decode method_2_code 162 = .ok (.iconst 4, 1) := by decide +kernel
theorem d1_163 : decode method_2_code 163 = .ok (.bipush 110, 2) := by decide +kernel
theorem d1_165 : decode method_2_code 165 = .ok (.castore, 1) := by decide +kernel
theorem d1_166 : decode method_2_code 166 = .ok (.areturn, 1) := by decide +kernel
theorem d1_167 : decode method_2_code 167 = .ok (.iload_n 0, 1) := by decide +kernel
theorem d1_168 : decode method_2_code 168 = .ok (.iconst 3, 1) := by decide +kernel
theorem d1_169 : decode method_2_code 169 = .ok (.if_icmp .ne 38, 3) := by decide +kernel
theorem d1_172 : decode method_2_code 172 = .ok (.bipush 6, 2) := by decide +kernel
theorem d1_174 : decode method_2_code 174 = .ok (.newarray .char, 2) := by decide +kernel
theorem d1_176 : decode method_2_code 176 = .ok (.dup, 1) := by decide +kernel
theorem d1_177 : decode method_2_code 177 = .ok (.iconst 0, 1) := by decide +kernel
theorem d1_178 : decode method_2_code 178 = .ok (.bipush 97, 2) := by decide +kernel
theorem d1_180 : decode method_2_code 180 = .ok (.castore, 1) := by decide +kernel
theorem d1_181 : decode method_2_code 181 = .ok (.dup, 1) := by decide +kernel
theorem d1_182 : decode method_2_code 182 = .ok (.iconst 1, 1) := by decide +kernel
theorem d1_183 : decode method_2_code 183 = .ok (.bipush 110, 2) := by decide +kernel
theorem d1_185 : decode method_2_code 185 = .ok (.castore, 1) := by decide +kernel
theorem d1_186 : decode method_2_code 186 = .ok (.dup, 1) := by decide +kernel
theorem d1_187 : decode method_2_code 187 = .ok (.iconst 2, 1) := by decide +kernel
theorem d1_188 : decode method_2_code 188 = .ok (.bipush 97, 2) := by decide +kernel
theorem d1_190 : decode method_2_code 190 = .ok (.castore, 1) := by decide +kernel
theorem d1_191 : decode method_2_code 191 = .ok (.dup, 1) := by decide +kernel
theorem d1_192 : decode method_2_code 192 = .ok (.iconst 3, 1) := by decide +kernel
theorem d1_193 : decode method_2_code 193 = .ok (.bipush 108, 2) := by decide +kernel
theorem d1_195 : decode method_2_code 195 = .ok (.castore, 1) := by decide +kernel
theorem d1_196 : decode method_2_code 196 = .ok (.dup, 1) := by decide +kernel
theorem d1_197 : decode method_2_code 197 = .ok (.iconst 4, 1) := by decide +kernel
theorem d1_198 : decode method_2_code 198 = .ok (.bipush 121, 2) := by decide +kernel
theorem d1_200 : decode method_2_code 200 = .ok (.castore, 1) := by decide +kernel
theorem d1_201 : decode method_2_code 201 = .ok (.dup, 1) := by decide +kernel
theorem d1_202 : decode method_2_code 202 = .ok (.iconst 5, 1) := by decide +kernel
theorem d1_203 : decode method_2_code 203 = .ok (.bipush 115, 2) := by decide +kernel
theorem d1_205 : decode method_2_code 205 = .ok (.castore, 1) := by decide +kernel
theorem d1_206 : decode method_2_code 206 = .ok (.areturn, 1) := by decide +kernel
theorem d1_207 : decode method_2_code 207 = .ok (.iload_n 0, 1) := by decide +kernel
theorem d1_208 : decode method_2_code 208 = .ok (.iconst 4, 1) := by decide +kernel
theorem d1_209 : decode method_2_code 209 = .ok (.if_icmp .ne 50, 3) := by decide +kernel
theorem d1_212 : decode method_2_code 212 = .ok (.bipush 8, 2) := by decide +kernel
theorem d1_214 : decode method_2_code 214 = .ok (.newarray .char, 2) := by decide +kernel
theorem d1_216 : decode method_2_code 216 = .ok (.dup, 1) := by decide +kernel
theorem d1_217 : decode method_2_code 217 = .ok (.iconst 0, 1) := by decide +kernel
theorem d1_218 : decode method_2_code 218 = .ok (.bipush 97, 2) := by decide +kernel
theorem d1_220 : decode method_2_code 220 = .ok (.castore, 1) := by decide +kernel
theorem d1_221 : decode method_2_code 221 = .ok (.dup, 1) := by decide +kernel
theorem d1_222 : decode method_2_code 222 = .ok (.iconst 1, 1) := by decide +kernel
theorem d1_223 : decode method_2_code 223 = .ok (.bipush 110, 2) := by decide +kernel
theorem d1_225 : decode method_2_code 225 = .ok (.castore, 1) := by decide +kernel
theorem d1_226 : decode method_2_code 226 = .ok (.dup, 1) := by decide +kernel
theorem d1_227 : decode method_2_code 227 = .ok (.iconst 2, 1) := by decide +kernel
theorem d1_228 : decode method_2_code 228 = .ok (.bipush 97, 2) := by decide +kernel
theorem d1_230 : decode method_2_code 230 = .ok (.castore, 1) := by decide +kernel
theorem d1_231 : decode method_2_code 231 = .ok (.dup, 1) := by decide +kernel
theorem d1_232 : decode method_2_code 232 = .ok (.iconst 3, 1) := by decide +kernel
theorem d1_233 : decode method_2_code 233 = .ok (.bipush 108, 2) := by decide +kernel
theorem d1_235 : decode method_2_code 235 = .ok (.castore, 1) := by decide +kernel
theorem d1_236 : decode method_2_code 236 = .ok (.dup, 1) := by decide +kernel
theorem d1_237 : decode method_2_code 237 = .ok (.iconst 4, 1) := by decide +kernel
theorem d1_238 : decode method_2_code 238 = .ok (.bipush 121, 2) := by decide +kernel
theorem d1_240 : decode method_2_code 240 = .ok (.castore, 1) := by decide +kernel
theorem d1_241 : decode method_2_code 241 = .ok (.dup, 1) := by decide +kernel
theorem d1_242 : decode method_2_code 242 = .ok (.iconst 5, 1) := by decide +kernel
theorem d1_243 : decode method_2_code 243 = .ok (.bipush 115, 2) := by decide +kernel
theorem d1_245 : decode method_2_code 245 = .ok (.castore, 1) := by decide +kernel
theorem d1_246 : decode method_2_code 246 = .ok (.dup, 1) := by decide +kernel
theorem d1_247 : decode method_2_code 247 = .ok (.bipush 6, 2) := by decide +kernel
theorem d1_249 : decode method_2_code 249 = .ok (.bipush 116, 2) := by decide +kernel
theorem d1_251 : decode method_2_code 251 = .ok (.castore, 1) := by decide +kernel
theorem d1_252 : decode method_2_code 252 = .ok (.dup, 1) := by decide +kernel
theorem d1_253 : decode method_2_code 253 = .ok (.bipush 7, 2) := by decide +kernel
theorem d1_255 : decode method_2_code 255 = .ok (.bipush 115, 2) := by decide +kernel
theorem d1_257 : decode method_2_code 257 = .ok (.castore, 1) := by decide +kernel
theorem d1_258 : decode method_2_code 258 = .ok (.areturn, 1) := by decide +kernel
theorem d1_259 : decode method_2_code 259 = .ok (.iload_n 0, 1) := by decide +kernel
theorem d1_260 : decode method_2_code 260 = .ok (.iconst 5, 1) := by decide +kernel
theorem d1_261 : decode method_2_code 261 = .ok (.if_icmp .ne 27, 3) := by decide +kernel
theorem d1_264 : decode method_2_code 264 = .ok (.iconst 4, 1) := by decide +kernel
theorem d1_265 : decode method_2_code 265 = .ok (.newarray .char, 2) := by decide +kernel
theorem d1_267 : decode method_2_code 267 = .ok (.dup, 1) := by decide +kernel
theorem d1_268 : decode method_2_code 268 = .ok (.iconst 0, 1) := by decide +kernel
theorem d1_269 : decode method_2_code 269 = .ok (.bipush 97, 2) := by decide +kernel
theorem d1_271 : decode method_2_code 271 = .ok (.castore, 1) := by decide +kernel
theorem d1_272 : decode method_2_code 272 = .ok (.dup, 1) := by decide +kernel
theorem d1_273 : decode method_2_code 273 = .ok (.iconst 1, 1) := by decide +kernel
theorem d1_274 : decode method_2_code 274 = .ok (.bipush 100, 2) := by decide +kernel
theorem d1_276 : decode method_2_code 276 = .ok (.castore, 1) := by decide +kernel
theorem d1_277 : decode method_2_code 277 = .ok (.dup, 1) := by decide +kernel
theorem d1_278 : decode method_2_code 278 = .ok (.iconst 2, 1) := by decide +kernel
theorem d1_279 : decode method_2_code 279 = .ok (.bipush 109, 2) := by decide +kernel
theorem d1_281 : decode method_2_code 281 = .ok (.castore, 1) := by decide +kernel
theorem d1_282 : decode method_2_code 282 = .ok (.dup, 1) := by decide +kernel
theorem d1_283 : decode method_2_code 283 = .ok (.iconst 3, 1) := by decide +kernel
theorem d1_284 : decode method_2_code 284 = .ok (.bipush 105, 2) := by decide +kernel
theorem d1_286 : decode method_2_code 286 = .ok (.castore, 1) := by decide +kernel
theorem d1_287 : decode method_2_code 287 = .ok (.areturn, 1) := by decide +kernel
theorem d1_288 : decode method_2_code 288 = .ok (.iload_n 0, 1) := by decide +kernel
theorem d1_289 : decode method_2_code 289 = .ok (.bipush 6, 2) := by decide +kernel
theorem d1_291 : decode method_2_code 291 = .ok (.if_icmp .ne 38, 3) := by decide +kernel
theorem d1_294 : decode method_2_code 294 = .ok (.bipush 6, 2) := by decide +kernel
theorem d1_296 : decode method_2_code 296 = .ok (.newarray .char, 2) := by decide +kernel
theorem d1_298 : decode method_2_code 298 = .ok (.dup, 1) := by decide +kernel
theorem d1_299 : decode method_2_code 299 = .ok (.iconst 0, 1) := by decide +kernel
theorem d1_300 : decode method_2_code 300 = .ok (.bipush 97, 2) := by decide +kernel
theorem d1_302 : decode method_2_code 302 = .ok (.castore, 1) := by decide +kernel
theorem d1_303 : decode method_2_code 303 = .ok (.dup, 1) := by decide +kernel
theorem d1_304 : decode method_2_code 304 = .ok (.iconst 1, 1) := by decide +kernel
theorem d1_305 : decode method_2_code 305 = .ok (.bipush 100, 2) := by decide +kernel
theorem d1_307 : decode method_2_code 307 = .ok (.castore, 1) := by decide +kernel
theorem d1_308 : decode method_2_code 308 = .ok (.dup, 1) := by decide +kernel
theorem d1_309 : decode method_2_code 309 = .ok (.iconst 2, 1) := by decide +kernel
theorem d1_310 : decode method_2_code 310 = .ok (.bipush 109, 2) := by decide +kernel
theorem d1_312 : decode method_2_code 312 = .ok (.castore, 1) := by decide +kernel
theorem d1_313 : decode method_2_code 313 = .ok (.dup, 1) := by decide +kernel
theorem d1_314 : decode method_2_code 314 = .ok (.iconst 3, 1) := by decide +kernel
theorem d1_315 : decode method_2_code 315 = .ok (.bipush 105, 2) := by decide +kernel
theorem d1_317 : decode method_2_code 317 = .ok (.castore, 1) := by decide +kernel
theorem d1_318 : decode method_2_code 318 = .ok (.dup, 1) := by decide +kernel
theorem d1_319 : decode method_2_code 319 = .ok (.iconst 4, 1) := by decide +kernel
theorem d1_320 : decode method_2_code 320 = .ok (.bipush 110, 2) := by decide +kernel
theorem d1_322 : decode method_2_code 322 = .ok (.castore, 1) := by decide +kernel
theorem d1_323 : decode method_2_code 323 = .ok (.dup, 1) := by decide +kernel
theorem d1_324 : decode method_2_code 324 = .ok (.iconst 5, 1) := by decide +kernel
theorem d1_325 : decode method_2_code 325 = .ok (.bipush 120, 2) := by decide +kernel
theorem d1_327 : decode method_2_code 327 = .ok (.castore, 1) := by decide +kernel
theorem d1_328 : decode method_2_code 328 = .ok (.areturn, 1) := by decide +kernel
theorem d1_329 : decode method_2_code 329 = .ok (.iconst 3, 1) := by decide +kernel
theorem d1_330 : decode method_2_code 330 = .ok (.newarray .char, 2) := by decide +kernel
theorem d1_332 : decode method_2_code 332 = .ok (.dup, 1) := by decide +kernel
theorem d1_333 : decode method_2_code 333 = .ok (.iconst 0, 1) := by decide +kernel
theorem d1_334 : decode method_2_code 334 = .ok (.iload_n 1, 1) := by decide +kernel
theorem d1_335 : decode method_2_code 335 = .ok (.sipush 255, 3) := by decide +kernel
theorem d1_338 : decode method_2_code 338 = .ok (.iand, 1) := by decide +kernel
theorem d1_339 : decode method_2_code 339 = .ok (.i2c, 1) := by decide +kernel
theorem d1_340 : decode method_2_code 340 = .ok (.castore, 1) := by decide +kernel
theorem d1_341 : decode method_2_code 341 = .ok (.dup, 1) := by decide +kernel
theorem d1_342 : decode method_2_code 342 = .ok (.iconst 1, 1) := by decide +kernel
theorem d1_343 : decode method_2_code 343 = .ok (.iload_n 2, 1) := by decide +kernel
theorem d1_344 : decode method_2_code 344 = .ok (.sipush 255, 3) := by decide +kernel
theorem d1_347 : decode method_2_code 347 = .ok (.iand, 1) := by decide +kernel
theorem d1_348 : decode method_2_code 348 = .ok (.i2c, 1) := by decide +kernel
theorem d1_349 : decode method_2_code 349 = .ok (.castore, 1) := by decide +kernel
theorem d1_350 : decode method_2_code 350 = .ok (.dup, 1) := by decide +kernel
theorem d1_351 : decode method_2_code 351 = .ok (.iconst 2, 1) := by decide +kernel
theorem d1_352 : decode method_2_code 352 = .ok (.iload_n 3, 1) := by decide +kernel
theorem d1_353 : decode method_2_code 353 = .ok (.sipush 255, 3) := by decide +kernel
theorem d1_356 : decode method_2_code 356 = .ok (.iand, 1) := by decide +kernel
theorem d1_357 : decode method_2_code 357 = .ok (.i2c, 1) := by decide +kernel
theorem d1_358 : decode method_2_code 358 = .ok (.castore, 1) := by decide +kernel
theorem d1_359 : decode method_2_code 359 = .ok (.areturn, 1) := by decide +kernel
set_option maxRecDepth 65536 in
set_option maxHeartbeats 40000000 in
theorem rmB (l : Launch) (Z : State) (a0 : Array Value) (hw : ∀ d ∈ tables_1, d.before a0 Z = true) (ws : List Jvm.Cond) (qz1 : Int32) (qz2 : Int32) (qz3 : Int32) (qz4 : Int32) (h0 : Heap) (n0 : Nat) (O0 : Old Z n0 h0)  :
    Con l Z mq12 method_2_code 4 (some (.array .char)) ws ({ frames := 0, cells := 1, slots := 14, locals := 0 } : Room) #[(.int qz1), (.int qz2), (.int qz3), (.int qz4)] h0 (fun v h L => ∃ (b : Addr) (kb : ClassId) (n : Int32) (cs : List Value), v = some (.ref b) ∧ Fr n0 L ∧ h0.size ≤ b ∧ Keep h0 h [] ∧ Arv Z h b kb .char n cs (.int 0) ∧ Ln n cs ∧ Ch cs ∧ (¬ n = (0 : Int32)) ∧ n.toNatClampNeg ≤ 14) := by
  refine own_body (plainFor_of_name pn_com_example_naysay_naysay_access_RoleNamedPinLaw) ?_
  intro p e s m below meth c s₁ hx hby hml hZ hown hnm hlk hret X0 e0
  have N0 := Fr.nil n0
  have D := @hb _ _ hby
  have K0 : Keep h0 h0 [] := Keep.refl _ _
  refine Go.st (T' := s₁) (f' := (mkF m 0 #[iv qz1, iv qz2, iv qz3, iv qz4] [])) (fun _ k => castTop (by first | (simp [entryFrame, mkF, argsToLocals, Value.category]; done) | rfl) k) ?_
  refine zin 1 X0 hx (D d1_0) rfl ?_
  by_cases cd1 : qz1 = (0 : Int32)
  · refine zfn 4 X0 hx (D d1_1) ((if0 _ _).trans (teq cd1).2) ?_
    refine zbp 6 14 X0 hx (D d1_4) ?_
    obtain ⟨T2, h2, kc2, X2, e2, E2, A2, st2⟩ := newP X0 hx hZ (ww hw 5 rfl) e0 (g := (mkF m 6 #[iv qz1, iv qz2, iv qz3, iv qz4] [(.int 14)])) rfl (D d1_6) rfl (by decide) (cap := 14) (by decide) (by decide) (by decide) (by decide)
    obtain ⟨b2, g2⟩ : ∃ z, z = h0.size := ⟨_, rfl⟩
    rw [← g2] at A2 st2
    have g_b2 : n0 ≤ b2 := Nat.le_trans (O0.1 ▸ O0.2.1) (Nat.le_of_eq g2.symm)
    have O2 : Old Z n0 h2 := O0.ext E2
    have sz_b2 : h0.size ≤ b2 := Nat.le_trans K0.1 (Nat.le_of_eq g2.symm)
    have K2 : Keep h0 h2 [] := K0.ext E2
    have V_b2 : Arv Z h2 b2 kc2 .char (14 : Int32) [(.int (0 : Int32)), (.int (0 : Int32)), (.int (0 : Int32)), (.int (0 : Int32)), (.int (0 : Int32)), (.int (0 : Int32)), (.int (0 : Int32)), (.int (0 : Int32)), (.int (0 : Int32)), (.int (0 : Int32)), (.int (0 : Int32)), (.int (0 : Int32)), (.int (0 : Int32)), (.int (0 : Int32))] (.int (0 : Int32)) := (Arv.new A2 (by decide)).pad (pad_rep [] (.int (0 : Int32)) 14)
    have lt_b2 := V_b2.lt
    refine zst 8 #[iv qz1, iv qz2, iv qz3, iv qz4] [(.ref b2)] st2 ?_
    refine Go.st (f' := (mkF m 9 #[iv qz1, iv qz2, iv qz3, iv qz4] [(.ref b2), (.ref b2)])) (fun _ k => XS.dup X2.here hx rfl (D d1_8) rfl rfl k) ?_
    refine zic 10 0 X2 hx (D d1_9) ?_
    refine zbp 12 112 X2 hx (D d1_10) ?_
    obtain ⟨cl3, Ar3, q3, S3, Nx3, H3, G3⟩ := id V_b2
    have hin3 : ¬ ((0 : Int32) < 0 ∨ cl3.slots.size ≤ ((0 : Int32)).toNatClampNeg) := inb_of S3 ⟨by decide, by decide⟩
    obtain ⟨T4, h4, X4, e4, W4, st4⟩ := stC X2 hx hZ e2 Ar3 (j := (0 : Int32)) hin3 (g := (mkF m 12 #[iv qz1, iv qz2, iv qz3, iv qz4] [(.int 112), (.int 0), (.ref b2), (.ref b2)])) rfl rfl (D d1_12)
    have V_b2_4 : Arv Z h4 b2 kc2 .char (14 : Int32) [(.int (112 : Int32)), (.int (0 : Int32)), (.int (0 : Int32)), (.int (0 : Int32)), (.int (0 : Int32)), (.int (0 : Int32)), (.int (0 : Int32)), (.int (0 : Int32)), (.int (0 : Int32)), (.int (0 : Int32)), (.int (0 : Int32)), (.int (0 : Int32)), (.int (0 : Int32)), (.int (0 : Int32))] (.int (0 : Int32)) := Arv.set Ar3 q3 S3 Nx3 H3 G3 (by decide) W4 0 rfl (Nat.le_of_ble_eq_true rfl)
    have N4 := Fr.snoc X4 N0 g_b2
    have O4 : Old Z n0 h4 := O2.wr W4 g_b2
    have K4 : Keep h0 h4 [] := K2.wr W4 (Or.inr sz_b2)
    refine zst 13 #[iv qz1, iv qz2, iv qz3, iv qz4] [(.ref b2)] st4 ?_
    refine Go.st (f' := (mkF m 14 #[iv qz1, iv qz2, iv qz3, iv qz4] [(.ref b2), (.ref b2)])) (fun _ k => XS.dup X4.here hx rfl (D d1_13) rfl rfl k) ?_
    refine zic 15 1 X4 hx (D d1_14) ?_
    refine zbp 17 97 X4 hx (D d1_15) ?_
    obtain ⟨cl5, Ar5, q5, S5, Nx5, H5, G5⟩ := id V_b2_4
    have hin5 : ¬ ((1 : Int32) < 0 ∨ cl5.slots.size ≤ ((1 : Int32)).toNatClampNeg) := inb_of S5 ⟨by decide, by decide⟩
    obtain ⟨T6, h6, X6, e6, W6, st6⟩ := stC X4 hx hZ e4 Ar5 (j := (1 : Int32)) hin5 (g := (mkF m 17 #[iv qz1, iv qz2, iv qz3, iv qz4] [(.int 97), (.int 1), (.ref b2), (.ref b2)])) rfl rfl (D d1_17)
    have V_b2_6 : Arv Z h6 b2 kc2 .char (14 : Int32) [(.int (112 : Int32)), (.int (97 : Int32)), (.int (0 : Int32)), (.int (0 : Int32)), (.int (0 : Int32)), (.int (0 : Int32)), (.int (0 : Int32)), (.int (0 : Int32)), (.int (0 : Int32)), (.int (0 : Int32)), (.int (0 : Int32)), (.int (0 : Int32)), (.int (0 : Int32)), (.int (0 : Int32))] (.int (0 : Int32)) := Arv.set Ar5 q5 S5 Nx5 H5 G5 (by decide) W6 1 rfl (Nat.le_of_ble_eq_true rfl)
    have N6 := Fr.snoc X6 N4 g_b2
    have O6 : Old Z n0 h6 := O4.wr W6 g_b2
    have K6 : Keep h0 h6 [] := K4.wr W6 (Or.inr sz_b2)
    refine zst 18 #[iv qz1, iv qz2, iv qz3, iv qz4] [(.ref b2)] st6 ?_
    refine Go.st (f' := (mkF m 19 #[iv qz1, iv qz2, iv qz3, iv qz4] [(.ref b2), (.ref b2)])) (fun _ k => XS.dup X6.here hx rfl (D d1_18) rfl rfl k) ?_
    refine zic 20 2 X6 hx (D d1_19) ?_
    refine zbp 22 121 X6 hx (D d1_20) ?_
    obtain ⟨cl7, Ar7, q7, S7, Nx7, H7, G7⟩ := id V_b2_6
    have hin7 : ¬ ((2 : Int32) < 0 ∨ cl7.slots.size ≤ ((2 : Int32)).toNatClampNeg) := inb_of S7 ⟨by decide, by decide⟩
    obtain ⟨T8, h8, X8, e8, W8, st8⟩ := stC X6 hx hZ e6 Ar7 (j := (2 : Int32)) hin7 (g := (mkF m 22 #[iv qz1, iv qz2, iv qz3, iv qz4] [(.int 121), (.int 2), (.ref b2), (.ref b2)])) rfl rfl (D d1_22)
    have V_b2_8 : Arv Z h8 b2 kc2 .char (14 : Int32) [(.int (112 : Int32)), (.int (97 : Int32)), (.int (121 : Int32)), (.int (0 : Int32)), (.int (0 : Int32)), (.int (0 : Int32)), (.int (0 : Int32)), (.int (0 : Int32)), (.int (0 : Int32)), (.int (0 : Int32)), (.int (0 : Int32)), (.int (0 : Int32)), (.int (0 : Int32)), (.int (0 : Int32))] (.int (0 : Int32)) := Arv.set Ar7 q7 S7 Nx7 H7 G7 (by decide) W8 2 rfl (Nat.le_of_ble_eq_true rfl)
    have N8 := Fr.snoc X8 N6 g_b2
    have O8 : Old Z n0 h8 := O6.wr W8 g_b2
    have K8 : Keep h0 h8 [] := K6.wr W8 (Or.inr sz_b2)
    refine zst 23 #[iv qz1, iv qz2, iv qz3, iv qz4] [(.ref b2)] st8 ?_
    refine Go.st (f' := (mkF m 24 #[iv qz1, iv qz2, iv qz3, iv qz4] [(.ref b2), (.ref b2)])) (fun _ k => XS.dup X8.here hx rfl (D d1_23) rfl rfl k) ?_
    refine zic 25 3 X8 hx (D d1_24) ?_
    refine zbp 27 109 X8 hx (D d1_25) ?_
    obtain ⟨cl9, Ar9, q9, S9, Nx9, H9, G9⟩ := id V_b2_8
    have hin9 : ¬ ((3 : Int32) < 0 ∨ cl9.slots.size ≤ ((3 : Int32)).toNatClampNeg) := inb_of S9 ⟨by decide, by decide⟩
    obtain ⟨T10, h10, X10, e10, W10, st10⟩ := stC X8 hx hZ e8 Ar9 (j := (3 : Int32)) hin9 (g := (mkF m 27 #[iv qz1, iv qz2, iv qz3, iv qz4] [(.int 109), (.int 3), (.ref b2), (.ref b2)])) rfl rfl (D d1_27)
    have V_b2_10 : Arv Z h10 b2 kc2 .char (14 : Int32) [(.int (112 : Int32)), (.int (97 : Int32)), (.int (121 : Int32)), (.int (109 : Int32)), (.int (0 : Int32)), (.int (0 : Int32)), (.int (0 : Int32)), (.int (0 : Int32)), (.int (0 : Int32)), (.int (0 : Int32)), (.int (0 : Int32)), (.int (0 : Int32)), (.int (0 : Int32)), (.int (0 : Int32))] (.int (0 : Int32)) := Arv.set Ar9 q9 S9 Nx9 H9 G9 (by decide) W10 3 rfl (Nat.le_of_ble_eq_true rfl)
    have N10 := Fr.snoc X10 N8 g_b2
    have O10 : Old Z n0 h10 := O8.wr W10 g_b2
    have K10 : Keep h0 h10 [] := K8.wr W10 (Or.inr sz_b2)
    refine zst 28 #[iv qz1, iv qz2, iv qz3, iv qz4] [(.ref b2)] st10 ?_
    refine Go.st (f' := (mkF m 29 #[iv qz1, iv qz2, iv qz3, iv qz4] [(.ref b2), (.ref b2)])) (fun _ k => XS.dup X10.here hx rfl (D d1_28) rfl rfl k) ?_
    refine zic 30 4 X10 hx (D d1_29) ?_
    refine zbp 32 101 X10 hx (D d1_30) ?_
    obtain ⟨cl11, Ar11, q11, S11, Nx11, H11, G11⟩ := id V_b2_10
    have hin11 : ¬ ((4 : Int32) < 0 ∨ cl11.slots.size ≤ ((4 : Int32)).toNatClampNeg) := inb_of S11 ⟨by decide, by decide⟩
    obtain ⟨T12, h12, X12, e12, W12, st12⟩ := stC X10 hx hZ e10 Ar11 (j := (4 : Int32)) hin11 (g := (mkF m 32 #[iv qz1, iv qz2, iv qz3, iv qz4] [(.int 101), (.int 4), (.ref b2), (.ref b2)])) rfl rfl (D d1_32)
    have V_b2_12 : Arv Z h12 b2 kc2 .char (14 : Int32) [(.int (112 : Int32)), (.int (97 : Int32)), (.int (121 : Int32)), (.int (109 : Int32)), (.int (101 : Int32)), (.int (0 : Int32)), (.int (0 : Int32)), (.int (0 : Int32)), (.int (0 : Int32)), (.int (0 : Int32)), (.int (0 : Int32)), (.int (0 : Int32)), (.int (0 : Int32)), (.int (0 : Int32))] (.int (0 : Int32)) := Arv.set Ar11 q11 S11 Nx11 H11 G11 (by decide) W12 4 rfl (Nat.le_of_ble_eq_true rfl)
    have N12 := Fr.snoc X12 N10 g_b2
    have O12 : Old Z n0 h12 := O10.wr W12 g_b2
    have K12 : Keep h0 h12 [] := K10.wr W12 (Or.inr sz_b2)
    refine zst 33 #[iv qz1, iv qz2, iv qz3, iv qz4] [(.ref b2)] st12 ?_
    refine Go.st (f' := (mkF m 34 #[iv qz1, iv qz2, iv qz3, iv qz4] [(.ref b2), (.ref b2)])) (fun _ k => XS.dup X12.here hx rfl (D d1_33) rfl rfl k) ?_
    refine zic 35 5 X12 hx (D d1_34) ?_
    refine zbp 37 110 X12 hx (D d1_35) ?_
    obtain ⟨cl13, Ar13, q13, S13, Nx13, H13, G13⟩ := id V_b2_12
    have hin13 : ¬ ((5 : Int32) < 0 ∨ cl13.slots.size ≤ ((5 : Int32)).toNatClampNeg) := inb_of S13 ⟨by decide, by decide⟩
    obtain ⟨T14, h14, X14, e14, W14, st14⟩ := stC X12 hx hZ e12 Ar13 (j := (5 : Int32)) hin13 (g := (mkF m 37 #[iv qz1, iv qz2, iv qz3, iv qz4] [(.int 110), (.int 5), (.ref b2), (.ref b2)])) rfl rfl (D d1_37)
    have V_b2_14 : Arv Z h14 b2 kc2 .char (14 : Int32) [(.int (112 : Int32)), (.int (97 : Int32)), (.int (121 : Int32)), (.int (109 : Int32)), (.int (101 : Int32)), (.int (110 : Int32)), (.int (0 : Int32)), (.int (0 : Int32)), (.int (0 : Int32)), (.int (0 : Int32)), (.int (0 : Int32)), (.int (0 : Int32)), (.int (0 : Int32)), (.int (0 : Int32))] (.int (0 : Int32)) := Arv.set Ar13 q13 S13 Nx13 H13 G13 (by decide) W14 5 rfl (Nat.le_of_ble_eq_true rfl)
    have N14 := Fr.snoc X14 N12 g_b2
    have O14 : Old Z n0 h14 := O12.wr W14 g_b2
    have K14 : Keep h0 h14 [] := K12.wr W14 (Or.inr sz_b2)
    refine zst 38 #[iv qz1, iv qz2, iv qz3, iv qz4] [(.ref b2)] st14 ?_
    refine Go.st (f' := (mkF m 39 #[iv qz1, iv qz2, iv qz3, iv qz4] [(.ref b2), (.ref b2)])) (fun _ k => XS.dup X14.here hx rfl (D d1_38) rfl rfl k) ?_
    refine zbp 41 6 X14 hx (D d1_39) ?_
    refine zbp 43 116 X14 hx (D d1_41) ?_
    obtain ⟨cl15, Ar15, q15, S15, Nx15, H15, G15⟩ := id V_b2_14
    have hin15 : ¬ ((6 : Int32) < 0 ∨ cl15.slots.size ≤ ((6 : Int32)).toNatClampNeg) := inb_of S15 ⟨by decide, by decide⟩
    obtain ⟨T16, h16, X16, e16, W16, st16⟩ := stC X14 hx hZ e14 Ar15 (j := (6 : Int32)) hin15 (g := (mkF m 43 #[iv qz1, iv qz2, iv qz3, iv qz4] [(.int 116), (.int 6), (.ref b2), (.ref b2)])) rfl rfl (D d1_43)
    have V_b2_16 : Arv Z h16 b2 kc2 .char (14 : Int32) [(.int (112 : Int32)), (.int (97 : Int32)), (.int (121 : Int32)), (.int (109 : Int32)), (.int (101 : Int32)), (.int (110 : Int32)), (.int (116 : Int32)), (.int (0 : Int32)), (.int (0 : Int32)), (.int (0 : Int32)), (.int (0 : Int32)), (.int (0 : Int32)), (.int (0 : Int32)), (.int (0 : Int32))] (.int (0 : Int32)) := Arv.set Ar15 q15 S15 Nx15 H15 G15 (by decide) W16 6 rfl (Nat.le_of_ble_eq_true rfl)
    have N16 := Fr.snoc X16 N14 g_b2
    have O16 : Old Z n0 h16 := O14.wr W16 g_b2
    have K16 : Keep h0 h16 [] := K14.wr W16 (Or.inr sz_b2)
    refine zst 44 #[iv qz1, iv qz2, iv qz3, iv qz4] [(.ref b2)] st16 ?_
    refine Go.st (f' := (mkF m 45 #[iv qz1, iv qz2, iv qz3, iv qz4] [(.ref b2), (.ref b2)])) (fun _ k => XS.dup X16.here hx rfl (D d1_44) rfl rfl k) ?_
    refine zbp 47 7 X16 hx (D d1_45) ?_
    refine zbp 49 32 X16 hx (D d1_47) ?_
    obtain ⟨cl17, Ar17, q17, S17, Nx17, H17, G17⟩ := id V_b2_16
    have hin17 : ¬ ((7 : Int32) < 0 ∨ cl17.slots.size ≤ ((7 : Int32)).toNatClampNeg) := inb_of S17 ⟨by decide, by decide⟩
    obtain ⟨T18, h18, X18, e18, W18, st18⟩ := stC X16 hx hZ e16 Ar17 (j := (7 : Int32)) hin17 (g := (mkF m 49 #[iv qz1, iv qz2, iv qz3, iv qz4] [(.int 32), (.int 7), (.ref b2), (.ref b2)])) rfl rfl (D d1_49)
    have V_b2_18 : Arv Z h18 b2 kc2 .char (14 : Int32) [(.int (112 : Int32)), (.int (97 : Int32)), (.int (121 : Int32)), (.int (109 : Int32)), (.int (101 : Int32)), (.int (110 : Int32)), (.int (116 : Int32)), (.int (32 : Int32)), (.int (0 : Int32)), (.int (0 : Int32)), (.int (0 : Int32)), (.int (0 : Int32)), (.int (0 : Int32)), (.int (0 : Int32))] (.int (0 : Int32)) := Arv.set Ar17 q17 S17 Nx17 H17 G17 (by decide) W18 7 rfl (Nat.le_of_ble_eq_true rfl)
    have N18 := Fr.snoc X18 N16 g_b2
    have O18 : Old Z n0 h18 := O16.wr W18 g_b2
    have K18 : Keep h0 h18 [] := K16.wr W18 (Or.inr sz_b2)
    refine zst 50 #[iv qz1, iv qz2, iv qz3, iv qz4] [(.ref b2)] st18 ?_
    refine Go.st (f' := (mkF m 51 #[iv qz1, iv qz2, iv qz3, iv qz4] [(.ref b2), (.ref b2)])) (fun _ k => XS.dup X18.here hx rfl (D d1_50) rfl rfl k) ?_
    refine zbp 53 8 X18 hx (D d1_51) ?_
    refine zbp 55 115 X18 hx (D d1_53) ?_
    obtain ⟨cl19, Ar19, q19, S19, Nx19, H19, G19⟩ := id V_b2_18
    have hin19 : ¬ ((8 : Int32) < 0 ∨ cl19.slots.size ≤ ((8 : Int32)).toNatClampNeg) := inb_of S19 ⟨by decide, by decide⟩
    obtain ⟨T20, h20, X20, e20, W20, st20⟩ := stC X18 hx hZ e18 Ar19 (j := (8 : Int32)) hin19 (g := (mkF m 55 #[iv qz1, iv qz2, iv qz3, iv qz4] [(.int 115), (.int 8), (.ref b2), (.ref b2)])) rfl rfl (D d1_55)
    have V_b2_20 : Arv Z h20 b2 kc2 .char (14 : Int32) [(.int (112 : Int32)), (.int (97 : Int32)), (.int (121 : Int32)), (.int (109 : Int32)), (.int (101 : Int32)), (.int (110 : Int32)), (.int (116 : Int32)), (.int (32 : Int32)), (.int (115 : Int32)), (.int (0 : Int32)), (.int (0 : Int32)), (.int (0 : Int32)), (.int (0 : Int32)), (.int (0 : Int32))] (.int (0 : Int32)) := Arv.set Ar19 q19 S19 Nx19 H19 G19 (by decide) W20 8 rfl (Nat.le_of_ble_eq_true rfl)
    have N20 := Fr.snoc X20 N18 g_b2
    have O20 : Old Z n0 h20 := O18.wr W20 g_b2
    have K20 : Keep h0 h20 [] := K18.wr W20 (Or.inr sz_b2)
    refine zst 56 #[iv qz1, iv qz2, iv qz3, iv qz4] [(.ref b2)] st20 ?_
    refine Go.st (f' := (mkF m 57 #[iv qz1, iv qz2, iv qz3, iv qz4] [(.ref b2), (.ref b2)])) (fun _ k => XS.dup X20.here hx rfl (D d1_56) rfl rfl k) ?_
    refine zbp 59 9 X20 hx (D d1_57) ?_
    refine zbp 61 121 X20 hx (D d1_59) ?_
    obtain ⟨cl21, Ar21, q21, S21, Nx21, H21, G21⟩ := id V_b2_20
    have hin21 : ¬ ((9 : Int32) < 0 ∨ cl21.slots.size ≤ ((9 : Int32)).toNatClampNeg) := inb_of S21 ⟨by decide, by decide⟩
    obtain ⟨T22, h22, X22, e22, W22, st22⟩ := stC X20 hx hZ e20 Ar21 (j := (9 : Int32)) hin21 (g := (mkF m 61 #[iv qz1, iv qz2, iv qz3, iv qz4] [(.int 121), (.int 9), (.ref b2), (.ref b2)])) rfl rfl (D d1_61)
    have V_b2_22 : Arv Z h22 b2 kc2 .char (14 : Int32) [(.int (112 : Int32)), (.int (97 : Int32)), (.int (121 : Int32)), (.int (109 : Int32)), (.int (101 : Int32)), (.int (110 : Int32)), (.int (116 : Int32)), (.int (32 : Int32)), (.int (115 : Int32)), (.int (121 : Int32)), (.int (0 : Int32)), (.int (0 : Int32)), (.int (0 : Int32)), (.int (0 : Int32))] (.int (0 : Int32)) := Arv.set Ar21 q21 S21 Nx21 H21 G21 (by decide) W22 9 rfl (Nat.le_of_ble_eq_true rfl)
    have N22 := Fr.snoc X22 N20 g_b2
    have O22 : Old Z n0 h22 := O20.wr W22 g_b2
    have K22 : Keep h0 h22 [] := K20.wr W22 (Or.inr sz_b2)
    refine zst 62 #[iv qz1, iv qz2, iv qz3, iv qz4] [(.ref b2)] st22 ?_
    refine Go.st (f' := (mkF m 63 #[iv qz1, iv qz2, iv qz3, iv qz4] [(.ref b2), (.ref b2)])) (fun _ k => XS.dup X22.here hx rfl (D d1_62) rfl rfl k) ?_
    refine zbp 65 10 X22 hx (D d1_63) ?_
    refine zbp 67 115 X22 hx (D d1_65) ?_
    obtain ⟨cl23, Ar23, q23, S23, Nx23, H23, G23⟩ := id V_b2_22
    have hin23 : ¬ ((10 : Int32) < 0 ∨ cl23.slots.size ≤ ((10 : Int32)).toNatClampNeg) := inb_of S23 ⟨by decide, by decide⟩
    obtain ⟨T24, h24, X24, e24, W24, st24⟩ := stC X22 hx hZ e22 Ar23 (j := (10 : Int32)) hin23 (g := (mkF m 67 #[iv qz1, iv qz2, iv qz3, iv qz4] [(.int 115), (.int 10), (.ref b2), (.ref b2)])) rfl rfl (D d1_67)
    have V_b2_24 : Arv Z h24 b2 kc2 .char (14 : Int32) [(.int (112 : Int32)), (.int (97 : Int32)), (.int (121 : Int32)), (.int (109 : Int32)), (.int (101 : Int32)), (.int (110 : Int32)), (.int (116 : Int32)), (.int (32 : Int32)), (.int (115 : Int32)), (.int (121 : Int32)), (.int (115 : Int32)), (.int (0 : Int32)), (.int (0 : Int32)), (.int (0 : Int32))] (.int (0 : Int32)) := Arv.set Ar23 q23 S23 Nx23 H23 G23 (by decide) W24 10 rfl (Nat.le_of_ble_eq_true rfl)
    have N24 := Fr.snoc X24 N22 g_b2
    have O24 : Old Z n0 h24 := O22.wr W24 g_b2
    have K24 : Keep h0 h24 [] := K22.wr W24 (Or.inr sz_b2)
    refine zst 68 #[iv qz1, iv qz2, iv qz3, iv qz4] [(.ref b2)] st24 ?_
    refine Go.st (f' := (mkF m 69 #[iv qz1, iv qz2, iv qz3, iv qz4] [(.ref b2), (.ref b2)])) (fun _ k => XS.dup X24.here hx rfl (D d1_68) rfl rfl k) ?_
    refine zbp 71 11 X24 hx (D d1_69) ?_
    refine zbp 73 116 X24 hx (D d1_71) ?_
    obtain ⟨cl25, Ar25, q25, S25, Nx25, H25, G25⟩ := id V_b2_24
    have hin25 : ¬ ((11 : Int32) < 0 ∨ cl25.slots.size ≤ ((11 : Int32)).toNatClampNeg) := inb_of S25 ⟨by decide, by decide⟩
    obtain ⟨T26, h26, X26, e26, W26, st26⟩ := stC X24 hx hZ e24 Ar25 (j := (11 : Int32)) hin25 (g := (mkF m 73 #[iv qz1, iv qz2, iv qz3, iv qz4] [(.int 116), (.int 11), (.ref b2), (.ref b2)])) rfl rfl (D d1_73)
    have V_b2_26 : Arv Z h26 b2 kc2 .char (14 : Int32) [(.int (112 : Int32)), (.int (97 : Int32)), (.int (121 : Int32)), (.int (109 : Int32)), (.int (101 : Int32)), (.int (110 : Int32)), (.int (116 : Int32)), (.int (32 : Int32)), (.int (115 : Int32)), (.int (121 : Int32)), (.int (115 : Int32)), (.int (116 : Int32)), (.int (0 : Int32)), (.int (0 : Int32))] (.int (0 : Int32)) := Arv.set Ar25 q25 S25 Nx25 H25 G25 (by decide) W26 11 rfl (Nat.le_of_ble_eq_true rfl)
    have N26 := Fr.snoc X26 N24 g_b2
    have O26 : Old Z n0 h26 := O24.wr W26 g_b2
    have K26 : Keep h0 h26 [] := K24.wr W26 (Or.inr sz_b2)
    refine zst 74 #[iv qz1, iv qz2, iv qz3, iv qz4] [(.ref b2)] st26 ?_
    refine Go.st (f' := (mkF m 75 #[iv qz1, iv qz2, iv qz3, iv qz4] [(.ref b2), (.ref b2)])) (fun _ k => XS.dup X26.here hx rfl (D d1_74) rfl rfl k) ?_
    refine zbp 77 12 X26 hx (D d1_75) ?_
    refine zbp 79 101 X26 hx (D d1_77) ?_
    obtain ⟨cl27, Ar27, q27, S27, Nx27, H27, G27⟩ := id V_b2_26
    have hin27 : ¬ ((12 : Int32) < 0 ∨ cl27.slots.size ≤ ((12 : Int32)).toNatClampNeg) := inb_of S27 ⟨by decide, by decide⟩
    obtain ⟨T28, h28, X28, e28, W28, st28⟩ := stC X26 hx hZ e26 Ar27 (j := (12 : Int32)) hin27 (g := (mkF m 79 #[iv qz1, iv qz2, iv qz3, iv qz4] [(.int 101), (.int 12), (.ref b2), (.ref b2)])) rfl rfl (D d1_79)
    have V_b2_28 : Arv Z h28 b2 kc2 .char (14 : Int32) [(.int (112 : Int32)), (.int (97 : Int32)), (.int (121 : Int32)), (.int (109 : Int32)), (.int (101 : Int32)), (.int (110 : Int32)), (.int (116 : Int32)), (.int (32 : Int32)), (.int (115 : Int32)), (.int (121 : Int32)), (.int (115 : Int32)), (.int (116 : Int32)), (.int (101 : Int32)), (.int (0 : Int32))] (.int (0 : Int32)) := Arv.set Ar27 q27 S27 Nx27 H27 G27 (by decide) W28 12 rfl (Nat.le_of_ble_eq_true rfl)
    have N28 := Fr.snoc X28 N26 g_b2
    have O28 : Old Z n0 h28 := O26.wr W28 g_b2
    have K28 : Keep h0 h28 [] := K26.wr W28 (Or.inr sz_b2)
    refine zst 80 #[iv qz1, iv qz2, iv qz3, iv qz4] [(.ref b2)] st28 ?_
    refine Go.st (f' := (mkF m 81 #[iv qz1, iv qz2, iv qz3, iv qz4] [(.ref b2), (.ref b2)])) (fun _ k => XS.dup X28.here hx rfl (D d1_80) rfl rfl k) ?_
    refine zbp 83 13 X28 hx (D d1_81) ?_
    refine zbp 85 109 X28 hx (D d1_83) ?_
    obtain ⟨cl29, Ar29, q29, S29, Nx29, H29, G29⟩ := id V_b2_28
    have hin29 : ¬ ((13 : Int32) < 0 ∨ cl29.slots.size ≤ ((13 : Int32)).toNatClampNeg) := inb_of S29 ⟨by decide, by decide⟩
    obtain ⟨T30, h30, X30, e30, W30, st30⟩ := stC X28 hx hZ e28 Ar29 (j := (13 : Int32)) hin29 (g := (mkF m 85 #[iv qz1, iv qz2, iv qz3, iv qz4] [(.int 109), (.int 13), (.ref b2), (.ref b2)])) rfl rfl (D d1_85)
    have V_b2_30 : Arv Z h30 b2 kc2 .char (14 : Int32) [(.int (112 : Int32)), (.int (97 : Int32)), (.int (121 : Int32)), (.int (109 : Int32)), (.int (101 : Int32)), (.int (110 : Int32)), (.int (116 : Int32)), (.int (32 : Int32)), (.int (115 : Int32)), (.int (121 : Int32)), (.int (115 : Int32)), (.int (116 : Int32)), (.int (101 : Int32)), (.int (109 : Int32))] (.int (0 : Int32)) := Arv.set Ar29 q29 S29 Nx29 H29 G29 (by decide) W30 13 rfl (Nat.le_of_ble_eq_true rfl)
    have N30 := Fr.snoc X30 N28 g_b2
    have O30 : Old Z n0 h30 := O28.wr W30 g_b2
    have K30 : Keep h0 h30 [] := K28.wr W30 (Or.inr sz_b2)
    refine zst 86 #[iv qz1, iv qz2, iv qz3, iv qz4] [(.ref b2)] st30 ?_
    refine Go.retV X30 hlk hx (t := (.array .char)) hret rfl (Or.inr (Or.inr (Or.inr (Or.inr ⟨rfl, rfl, rfl⟩)))) (D d1_86) e30 ?_ (by decide) (by decide)
    exact ⟨b2, kc2, (14 : Int32), _, rfl, N30, sz_b2, K30, V_b2_30, ⟨by decide, by show _ = ((14 : Nat) : Int); decide⟩, (ch_lit rfl (by decide) (ch_lit rfl (by decide) (ch_lit rfl (by decide) (ch_lit rfl (by decide) (ch_lit rfl (by decide) (ch_lit rfl (by decide) (ch_lit rfl (by decide) (ch_lit rfl (by decide) (ch_lit rfl (by decide) (ch_lit rfl (by decide) (ch_lit rfl (by decide) (ch_lit rfl (by decide) (ch_lit rfl (by decide) (ch_lit rfl (by decide) ch_nil)))))))))))))), by decide, by decide⟩
  · refine zfy 87 X0 hx (D d1_1) ((if0 _ _).trans (feq cd1).2) ?_
    refine zin 88 X0 hx (D d1_87) rfl ?_
    refine zic 89 1 X0 hx (D d1_88) ?_
    by_cases cd31 : qz1 = (1 : Int32)
    · refine zcn 92 X0 hx (D d1_89) (teq cd31).2 ?_
      refine zbp 94 7 X0 hx (D d1_92) ?_
      obtain ⟨T32, h32, kc32, X32, e32, E32, A32, st32⟩ := newP X0 hx hZ (ww hw 5 rfl) e0 (g := (mkF m 94 #[iv qz1, iv qz2, iv qz3, iv qz4] [(.int 7)])) rfl (D d1_94) rfl (by decide) (cap := 7) (by decide) (by decide) (by decide) (by decide)
      obtain ⟨b32, g32⟩ : ∃ z, z = h0.size := ⟨_, rfl⟩
      rw [← g32] at A32 st32
      have g_b32 : n0 ≤ b32 := Nat.le_trans (O0.1 ▸ O0.2.1) (Nat.le_of_eq g32.symm)
      have O32 : Old Z n0 h32 := O0.ext E32
      have sz_b32 : h0.size ≤ b32 := Nat.le_trans K0.1 (Nat.le_of_eq g32.symm)
      have K32 : Keep h0 h32 [] := K0.ext E32
      have V_b32 : Arv Z h32 b32 kc32 .char (7 : Int32) [(.int (0 : Int32)), (.int (0 : Int32)), (.int (0 : Int32)), (.int (0 : Int32)), (.int (0 : Int32)), (.int (0 : Int32)), (.int (0 : Int32))] (.int (0 : Int32)) := (Arv.new A32 (by decide)).pad (pad_rep [] (.int (0 : Int32)) 7)
      have lt_b32 := V_b32.lt
      refine zst 96 #[iv qz1, iv qz2, iv qz3, iv qz4] [(.ref b32)] st32 ?_
      refine Go.st (f' := (mkF m 97 #[iv qz1, iv qz2, iv qz3, iv qz4] [(.ref b32), (.ref b32)])) (fun _ k => XS.dup X32.here hx rfl (D d1_96) rfl rfl k) ?_
      refine zic 98 0 X32 hx (D d1_97) ?_
      refine zbp 100 97 X32 hx (D d1_98) ?_
      obtain ⟨cl33, Ar33, q33, S33, Nx33, H33, G33⟩ := id V_b32
      have hin33 : ¬ ((0 : Int32) < 0 ∨ cl33.slots.size ≤ ((0 : Int32)).toNatClampNeg) := inb_of S33 ⟨by decide, by decide⟩
      obtain ⟨T34, h34, X34, e34, W34, st34⟩ := stC X32 hx hZ e32 Ar33 (j := (0 : Int32)) hin33 (g := (mkF m 100 #[iv qz1, iv qz2, iv qz3, iv qz4] [(.int 97), (.int 0), (.ref b32), (.ref b32)])) rfl rfl (D d1_100)
      have V_b32_34 : Arv Z h34 b32 kc32 .char (7 : Int32) [(.int (97 : Int32)), (.int (0 : Int32)), (.int (0 : Int32)), (.int (0 : Int32)), (.int (0 : Int32)), (.int (0 : Int32)), (.int (0 : Int32))] (.int (0 : Int32)) := Arv.set Ar33 q33 S33 Nx33 H33 G33 (by decide) W34 0 rfl (Nat.le_of_ble_eq_true rfl)
      have N34 := Fr.snoc X34 N0 g_b32
      have O34 : Old Z n0 h34 := O32.wr W34 g_b32
      have K34 : Keep h0 h34 [] := K32.wr W34 (Or.inr sz_b32)
      refine zst 101 #[iv qz1, iv qz2, iv qz3, iv qz4] [(.ref b32)] st34 ?_
      refine Go.st (f' := (mkF m 102 #[iv qz1, iv qz2, iv qz3, iv qz4] [(.ref b32), (.ref b32)])) (fun _ k => XS.dup X34.here hx rfl (D d1_101) rfl rfl k) ?_
      refine zic 103 1 X34 hx (D d1_102) ?_
      refine zbp 105 110 X34 hx (D d1_103) ?_
      obtain ⟨cl35, Ar35, q35, S35, Nx35, H35, G35⟩ := id V_b32_34
      have hin35 : ¬ ((1 : Int32) < 0 ∨ cl35.slots.size ≤ ((1 : Int32)).toNatClampNeg) := inb_of S35 ⟨by decide, by decide⟩
      obtain ⟨T36, h36, X36, e36, W36, st36⟩ := stC X34 hx hZ e34 Ar35 (j := (1 : Int32)) hin35 (g := (mkF m 105 #[iv qz1, iv qz2, iv qz3, iv qz4] [(.int 110), (.int 1), (.ref b32), (.ref b32)])) rfl rfl (D d1_105)
      have V_b32_36 : Arv Z h36 b32 kc32 .char (7 : Int32) [(.int (97 : Int32)), (.int (110 : Int32)), (.int (0 : Int32)), (.int (0 : Int32)), (.int (0 : Int32)), (.int (0 : Int32)), (.int (0 : Int32))] (.int (0 : Int32)) := Arv.set Ar35 q35 S35 Nx35 H35 G35 (by decide) W36 1 rfl (Nat.le_of_ble_eq_true rfl)
      have N36 := Fr.snoc X36 N34 g_b32
      have O36 : Old Z n0 h36 := O34.wr W36 g_b32
      have K36 : Keep h0 h36 [] := K34.wr W36 (Or.inr sz_b32)
      refine zst 106 #[iv qz1, iv qz2, iv qz3, iv qz4] [(.ref b32)] st36 ?_
      refine Go.st (f' := (mkF m 107 #[iv qz1, iv qz2, iv qz3, iv qz4] [(.ref b32), (.ref b32)])) (fun _ k => XS.dup X36.here hx rfl (D d1_106) rfl rfl k) ?_
      refine zic 108 2 X36 hx (D d1_107) ?_
      refine zbp 110 97 X36 hx (D d1_108) ?_
      obtain ⟨cl37, Ar37, q37, S37, Nx37, H37, G37⟩ := id V_b32_36
      have hin37 : ¬ ((2 : Int32) < 0 ∨ cl37.slots.size ≤ ((2 : Int32)).toNatClampNeg) := inb_of S37 ⟨by decide, by decide⟩
      obtain ⟨T38, h38, X38, e38, W38, st38⟩ := stC X36 hx hZ e36 Ar37 (j := (2 : Int32)) hin37 (g := (mkF m 110 #[iv qz1, iv qz2, iv qz3, iv qz4] [(.int 97), (.int 2), (.ref b32), (.ref b32)])) rfl rfl (D d1_110)
      have V_b32_38 : Arv Z h38 b32 kc32 .char (7 : Int32) [(.int (97 : Int32)), (.int (110 : Int32)), (.int (97 : Int32)), (.int (0 : Int32)), (.int (0 : Int32)), (.int (0 : Int32)), (.int (0 : Int32))] (.int (0 : Int32)) := Arv.set Ar37 q37 S37 Nx37 H37 G37 (by decide) W38 2 rfl (Nat.le_of_ble_eq_true rfl)
      have N38 := Fr.snoc X38 N36 g_b32
      have O38 : Old Z n0 h38 := O36.wr W38 g_b32
      have K38 : Keep h0 h38 [] := K36.wr W38 (Or.inr sz_b32)
      refine zst 111 #[iv qz1, iv qz2, iv qz3, iv qz4] [(.ref b32)] st38 ?_
      refine Go.st (f' := (mkF m 112 #[iv qz1, iv qz2, iv qz3, iv qz4] [(.ref b32), (.ref b32)])) (fun _ k => XS.dup X38.here hx rfl (D d1_111) rfl rfl k) ?_
      refine zic 113 3 X38 hx (D d1_112) ?_
      refine zbp 115 108 X38 hx (D d1_113) ?_
      obtain ⟨cl39, Ar39, q39, S39, Nx39, H39, G39⟩ := id V_b32_38
      have hin39 : ¬ ((3 : Int32) < 0 ∨ cl39.slots.size ≤ ((3 : Int32)).toNatClampNeg) := inb_of S39 ⟨by decide, by decide⟩
      obtain ⟨T40, h40, X40, e40, W40, st40⟩ := stC X38 hx hZ e38 Ar39 (j := (3 : Int32)) hin39 (g := (mkF m 115 #[iv qz1, iv qz2, iv qz3, iv qz4] [(.int 108), (.int 3), (.ref b32), (.ref b32)])) rfl rfl (D d1_115)
      have V_b32_40 : Arv Z h40 b32 kc32 .char (7 : Int32) [(.int (97 : Int32)), (.int (110 : Int32)), (.int (97 : Int32)), (.int (108 : Int32)), (.int (0 : Int32)), (.int (0 : Int32)), (.int (0 : Int32))] (.int (0 : Int32)) := Arv.set Ar39 q39 S39 Nx39 H39 G39 (by decide) W40 3 rfl (Nat.le_of_ble_eq_true rfl)
      have N40 := Fr.snoc X40 N38 g_b32
      have O40 : Old Z n0 h40 := O38.wr W40 g_b32
      have K40 : Keep h0 h40 [] := K38.wr W40 (Or.inr sz_b32)
      refine zst 116 #[iv qz1, iv qz2, iv qz3, iv qz4] [(.ref b32)] st40 ?_
      refine Go.st (f' := (mkF m 117 #[iv qz1, iv qz2, iv qz3, iv qz4] [(.ref b32), (.ref b32)])) (fun _ k => XS.dup X40.here hx rfl (D d1_116) rfl rfl k) ?_
      refine zic 118 4 X40 hx (D d1_117) ?_
      refine zbp 120 121 X40 hx (D d1_118) ?_
      obtain ⟨cl41, Ar41, q41, S41, Nx41, H41, G41⟩ := id V_b32_40
      have hin41 : ¬ ((4 : Int32) < 0 ∨ cl41.slots.size ≤ ((4 : Int32)).toNatClampNeg) := inb_of S41 ⟨by decide, by decide⟩
      obtain ⟨T42, h42, X42, e42, W42, st42⟩ := stC X40 hx hZ e40 Ar41 (j := (4 : Int32)) hin41 (g := (mkF m 120 #[iv qz1, iv qz2, iv qz3, iv qz4] [(.int 121), (.int 4), (.ref b32), (.ref b32)])) rfl rfl (D d1_120)
      have V_b32_42 : Arv Z h42 b32 kc32 .char (7 : Int32) [(.int (97 : Int32)), (.int (110 : Int32)), (.int (97 : Int32)), (.int (108 : Int32)), (.int (121 : Int32)), (.int (0 : Int32)), (.int (0 : Int32))] (.int (0 : Int32)) := Arv.set Ar41 q41 S41 Nx41 H41 G41 (by decide) W42 4 rfl (Nat.le_of_ble_eq_true rfl)
      have N42 := Fr.snoc X42 N40 g_b32
      have O42 : Old Z n0 h42 := O40.wr W42 g_b32
      have K42 : Keep h0 h42 [] := K40.wr W42 (Or.inr sz_b32)
      refine zst 121 #[iv qz1, iv qz2, iv qz3, iv qz4] [(.ref b32)] st42 ?_
      refine Go.st (f' := (mkF m 122 #[iv qz1, iv qz2, iv qz3, iv qz4] [(.ref b32), (.ref b32)])) (fun _ k => XS.dup X42.here hx rfl (D d1_121) rfl rfl k) ?_
      refine zic 123 5 X42 hx (D d1_122) ?_
      refine zbp 125 115 X42 hx (D d1_123) ?_
      obtain ⟨cl43, Ar43, q43, S43, Nx43, H43, G43⟩ := id V_b32_42
      have hin43 : ¬ ((5 : Int32) < 0 ∨ cl43.slots.size ≤ ((5 : Int32)).toNatClampNeg) := inb_of S43 ⟨by decide, by decide⟩
      obtain ⟨T44, h44, X44, e44, W44, st44⟩ := stC X42 hx hZ e42 Ar43 (j := (5 : Int32)) hin43 (g := (mkF m 125 #[iv qz1, iv qz2, iv qz3, iv qz4] [(.int 115), (.int 5), (.ref b32), (.ref b32)])) rfl rfl (D d1_125)
      have V_b32_44 : Arv Z h44 b32 kc32 .char (7 : Int32) [(.int (97 : Int32)), (.int (110 : Int32)), (.int (97 : Int32)), (.int (108 : Int32)), (.int (121 : Int32)), (.int (115 : Int32)), (.int (0 : Int32))] (.int (0 : Int32)) := Arv.set Ar43 q43 S43 Nx43 H43 G43 (by decide) W44 5 rfl (Nat.le_of_ble_eq_true rfl)
      have N44 := Fr.snoc X44 N42 g_b32
      have O44 : Old Z n0 h44 := O42.wr W44 g_b32
      have K44 : Keep h0 h44 [] := K42.wr W44 (Or.inr sz_b32)
      refine zst 126 #[iv qz1, iv qz2, iv qz3, iv qz4] [(.ref b32)] st44 ?_
      refine Go.st (f' := (mkF m 127 #[iv qz1, iv qz2, iv qz3, iv qz4] [(.ref b32), (.ref b32)])) (fun _ k => XS.dup X44.here hx rfl (D d1_126) rfl rfl k) ?_
      refine zbp 129 6 X44 hx (D d1_127) ?_
      refine zbp 131 116 X44 hx (D d1_129) ?_
      obtain ⟨cl45, Ar45, q45, S45, Nx45, H45, G45⟩ := id V_b32_44
      have hin45 : ¬ ((6 : Int32) < 0 ∨ cl45.slots.size ≤ ((6 : Int32)).toNatClampNeg) := inb_of S45 ⟨by decide, by decide⟩
      obtain ⟨T46, h46, X46, e46, W46, st46⟩ := stC X44 hx hZ e44 Ar45 (j := (6 : Int32)) hin45 (g := (mkF m 131 #[iv qz1, iv qz2, iv qz3, iv qz4] [(.int 116), (.int 6), (.ref b32), (.ref b32)])) rfl rfl (D d1_131)
      have V_b32_46 : Arv Z h46 b32 kc32 .char (7 : Int32) [(.int (97 : Int32)), (.int (110 : Int32)), (.int (97 : Int32)), (.int (108 : Int32)), (.int (121 : Int32)), (.int (115 : Int32)), (.int (116 : Int32))] (.int (0 : Int32)) := Arv.set Ar45 q45 S45 Nx45 H45 G45 (by decide) W46 6 rfl (Nat.le_of_ble_eq_true rfl)
      have N46 := Fr.snoc X46 N44 g_b32
      have O46 : Old Z n0 h46 := O44.wr W46 g_b32
      have K46 : Keep h0 h46 [] := K44.wr W46 (Or.inr sz_b32)
      refine zst 132 #[iv qz1, iv qz2, iv qz3, iv qz4] [(.ref b32)] st46 ?_
      refine Go.retV X46 hlk hx (t := (.array .char)) hret rfl (Or.inr (Or.inr (Or.inr (Or.inr ⟨rfl, rfl, rfl⟩)))) (D d1_132) e46 ?_ (by decide) (by decide)
      exact ⟨b32, kc32, (7 : Int32), _, rfl, N46, sz_b32, K46, V_b32_46, ⟨by decide, by show _ = ((7 : Nat) : Int); decide⟩, (ch_lit rfl (by decide) (ch_lit rfl (by decide) (ch_lit rfl (by decide) (ch_lit rfl (by decide) (ch_lit rfl (by decide) (ch_lit rfl (by decide) (ch_lit rfl (by decide) ch_nil))))))), by decide, by decide⟩
    · refine zcy 133 X0 hx (D d1_89) (feq cd31).2 ?_
      refine zin 134 X0 hx (D d1_133) rfl ?_
      refine zic 135 2 X0 hx (D d1_134) ?_
      by_cases cd47 : qz1 = (2 : Int32)
      · refine zcn 138 X0 hx (D d1_135) (teq cd47).2 ?_
        refine zic 139 5 X0 hx (D d1_138) ?_
        obtain ⟨T48, h48, kc48, X48, e48, E48, A48, st48⟩ := newP X0 hx hZ (ww hw 5 rfl) e0 (g := (mkF m 139 #[iv qz1, iv qz2, iv qz3, iv qz4] [(.int 5)])) rfl (D d1_139) rfl (by decide) (cap := 5) (by decide) (by decide) (by decide) (by decide)
        obtain ⟨b48, g48⟩ : ∃ z, z = h0.size := ⟨_, rfl⟩
        rw [← g48] at A48 st48
        have g_b48 : n0 ≤ b48 := Nat.le_trans (O0.1 ▸ O0.2.1) (Nat.le_of_eq g48.symm)
        have O48 : Old Z n0 h48 := O0.ext E48
        have sz_b48 : h0.size ≤ b48 := Nat.le_trans K0.1 (Nat.le_of_eq g48.symm)
        have K48 : Keep h0 h48 [] := K0.ext E48
        have V_b48 : Arv Z h48 b48 kc48 .char (5 : Int32) [(.int (0 : Int32)), (.int (0 : Int32)), (.int (0 : Int32)), (.int (0 : Int32)), (.int (0 : Int32))] (.int (0 : Int32)) := (Arv.new A48 (by decide)).pad (pad_rep [] (.int (0 : Int32)) 5)
        have lt_b48 := V_b48.lt
        refine zst 141 #[iv qz1, iv qz2, iv qz3, iv qz4] [(.ref b48)] st48 ?_
        refine Go.st (f' := (mkF m 142 #[iv qz1, iv qz2, iv qz3, iv qz4] [(.ref b48), (.ref b48)])) (fun _ k => XS.dup X48.here hx rfl (D d1_141) rfl rfl k) ?_
        refine zic 143 0 X48 hx (D d1_142) ?_
        refine zbp 145 97 X48 hx (D d1_143) ?_
        obtain ⟨cl49, Ar49, q49, S49, Nx49, H49, G49⟩ := id V_b48
        have hin49 : ¬ ((0 : Int32) < 0 ∨ cl49.slots.size ≤ ((0 : Int32)).toNatClampNeg) := inb_of S49 ⟨by decide, by decide⟩
        obtain ⟨T50, h50, X50, e50, W50, st50⟩ := stC X48 hx hZ e48 Ar49 (j := (0 : Int32)) hin49 (g := (mkF m 145 #[iv qz1, iv qz2, iv qz3, iv qz4] [(.int 97), (.int 0), (.ref b48), (.ref b48)])) rfl rfl (D d1_145)
        have V_b48_50 : Arv Z h50 b48 kc48 .char (5 : Int32) [(.int (97 : Int32)), (.int (0 : Int32)), (.int (0 : Int32)), (.int (0 : Int32)), (.int (0 : Int32))] (.int (0 : Int32)) := Arv.set Ar49 q49 S49 Nx49 H49 G49 (by decide) W50 0 rfl (Nat.le_of_ble_eq_true rfl)
        have N50 := Fr.snoc X50 N0 g_b48
        have O50 : Old Z n0 h50 := O48.wr W50 g_b48
        have K50 : Keep h0 h50 [] := K48.wr W50 (Or.inr sz_b48)
        refine zst 146 #[iv qz1, iv qz2, iv qz3, iv qz4] [(.ref b48)] st50 ?_
        refine Go.st (f' := (mkF m 147 #[iv qz1, iv qz2, iv qz3, iv qz4] [(.ref b48), (.ref b48)])) (fun _ k => XS.dup X50.here hx rfl (D d1_146) rfl rfl k) ?_
        refine zic 148 1 X50 hx (D d1_147) ?_
        refine zbp 150 100 X50 hx (D d1_148) ?_
        obtain ⟨cl51, Ar51, q51, S51, Nx51, H51, G51⟩ := id V_b48_50
        have hin51 : ¬ ((1 : Int32) < 0 ∨ cl51.slots.size ≤ ((1 : Int32)).toNatClampNeg) := inb_of S51 ⟨by decide, by decide⟩
        obtain ⟨T52, h52, X52, e52, W52, st52⟩ := stC X50 hx hZ e50 Ar51 (j := (1 : Int32)) hin51 (g := (mkF m 150 #[iv qz1, iv qz2, iv qz3, iv qz4] [(.int 100), (.int 1), (.ref b48), (.ref b48)])) rfl rfl (D d1_150)
        have V_b48_52 : Arv Z h52 b48 kc48 .char (5 : Int32) [(.int (97 : Int32)), (.int (100 : Int32)), (.int (0 : Int32)), (.int (0 : Int32)), (.int (0 : Int32))] (.int (0 : Int32)) := Arv.set Ar51 q51 S51 Nx51 H51 G51 (by decide) W52 1 rfl (Nat.le_of_ble_eq_true rfl)
        have N52 := Fr.snoc X52 N50 g_b48
        have O52 : Old Z n0 h52 := O50.wr W52 g_b48
        have K52 : Keep h0 h52 [] := K50.wr W52 (Or.inr sz_b48)
        refine zst 151 #[iv qz1, iv qz2, iv qz3, iv qz4] [(.ref b48)] st52 ?_
        refine Go.st (f' := (mkF m 152 #[iv qz1, iv qz2, iv qz3, iv qz4] [(.ref b48), (.ref b48)])) (fun _ k => XS.dup X52.here hx rfl (D d1_151) rfl rfl k) ?_
        refine zic 153 2 X52 hx (D d1_152) ?_
        refine zbp 155 109 X52 hx (D d1_153) ?_
        obtain ⟨cl53, Ar53, q53, S53, Nx53, H53, G53⟩ := id V_b48_52
        have hin53 : ¬ ((2 : Int32) < 0 ∨ cl53.slots.size ≤ ((2 : Int32)).toNatClampNeg) := inb_of S53 ⟨by decide, by decide⟩
        obtain ⟨T54, h54, X54, e54, W54, st54⟩ := stC X52 hx hZ e52 Ar53 (j := (2 : Int32)) hin53 (g := (mkF m 155 #[iv qz1, iv qz2, iv qz3, iv qz4] [(.int 109), (.int 2), (.ref b48), (.ref b48)])) rfl rfl (D d1_155)
        have V_b48_54 : Arv Z h54 b48 kc48 .char (5 : Int32) [(.int (97 : Int32)), (.int (100 : Int32)), (.int (109 : Int32)), (.int (0 : Int32)), (.int (0 : Int32))] (.int (0 : Int32)) := Arv.set Ar53 q53 S53 Nx53 H53 G53 (by decide) W54 2 rfl (Nat.le_of_ble_eq_true rfl)
        have N54 := Fr.snoc X54 N52 g_b48
        have O54 : Old Z n0 h54 := O52.wr W54 g_b48
        have K54 : Keep h0 h54 [] := K52.wr W54 (Or.inr sz_b48)
        refine zst 156 #[iv qz1, iv qz2, iv qz3, iv qz4] [(.ref b48)] st54 ?_
        refine Go.st (f' := (mkF m 157 #[iv qz1, iv qz2, iv qz3, iv qz4] [(.ref b48), (.ref b48)])) (fun _ k => XS.dup X54.here hx rfl (D d1_156) rfl rfl k) ?_
        refine zic 158 3 X54 hx (D d1_157) ?_
        refine zbp 160 105 X54 hx (D d1_158) ?_
        obtain ⟨cl55, Ar55, q55, S55, Nx55, H55, G55⟩ := id V_b48_54
        have hin55 : ¬ ((3 : Int32) < 0 ∨ cl55.slots.size ≤ ((3 : Int32)).toNatClampNeg) := inb_of S55 ⟨by decide, by decide⟩
        obtain ⟨T56, h56, X56, e56, W56, st56⟩ := stC X54 hx hZ e54 Ar55 (j := (3 : Int32)) hin55 (g := (mkF m 160 #[iv qz1, iv qz2, iv qz3, iv qz4] [(.int 105), (.int 3), (.ref b48), (.ref b48)])) rfl rfl (D d1_160)
        have V_b48_56 : Arv Z h56 b48 kc48 .char (5 : Int32) [(.int (97 : Int32)), (.int (100 : Int32)), (.int (109 : Int32)), (.int (105 : Int32)), (.int (0 : Int32))] (.int (0 : Int32)) := Arv.set Ar55 q55 S55 Nx55 H55 G55 (by decide) W56 3 rfl (Nat.le_of_ble_eq_true rfl)
        have N56 := Fr.snoc X56 N54 g_b48
        have O56 : Old Z n0 h56 := O54.wr W56 g_b48
        have K56 : Keep h0 h56 [] := K54.wr W56 (Or.inr sz_b48)
        refine zst 161 #[iv qz1, iv qz2, iv qz3, iv qz4] [(.ref b48)] st56 ?_
        refine Go.st (f' := (mkF m 162 #[iv qz1, iv qz2, iv qz3, iv qz4] [(.ref b48), (.ref b48)])) (fun _ k => XS.dup X56.here hx rfl (D d1_161) rfl rfl k) ?_
        refine zic 163 4 X56 hx (D d1_162) ?_
        refine zbp 165 110 X56 hx (D d1_163) ?_
        obtain ⟨cl57, Ar57, q57, S57, Nx57, H57, G57⟩ := id V_b48_56
        have hin57 : ¬ ((4 : Int32) < 0 ∨ cl57.slots.size ≤ ((4 : Int32)).toNatClampNeg) := inb_of S57 ⟨by decide, by decide⟩
        obtain ⟨T58, h58, X58, e58, W58, st58⟩ := stC X56 hx hZ e56 Ar57 (j := (4 : Int32)) hin57 (g := (mkF m 165 #[iv qz1, iv qz2, iv qz3, iv qz4] [(.int 110), (.int 4), (.ref b48), (.ref b48)])) rfl rfl (D d1_165)
        have V_b48_58 : Arv Z h58 b48 kc48 .char (5 : Int32) [(.int (97 : Int32)), (.int (100 : Int32)), (.int (109 : Int32)), (.int (105 : Int32)), (.int (110 : Int32))] (.int (0 : Int32)) := Arv.set Ar57 q57 S57 Nx57 H57 G57 (by decide) W58 4 rfl (Nat.le_of_ble_eq_true rfl)
        have N58 := Fr.snoc X58 N56 g_b48
        have O58 : Old Z n0 h58 := O56.wr W58 g_b48
        have K58 : Keep h0 h58 [] := K56.wr W58 (Or.inr sz_b48)
        refine zst 166 #[iv qz1, iv qz2, iv qz3, iv qz4] [(.ref b48)] st58 ?_
        refine Go.retV X58 hlk hx (t := (.array .char)) hret rfl (Or.inr (Or.inr (Or.inr (Or.inr ⟨rfl, rfl, rfl⟩)))) (D d1_166) e58 ?_ (by decide) (by decide)
        exact ⟨b48, kc48, (5 : Int32), _, rfl, N58, sz_b48, K58, V_b48_58, ⟨by decide, by show _ = ((5 : Nat) : Int); decide⟩, (ch_lit rfl (by decide) (ch_lit rfl (by decide) (ch_lit rfl (by decide) (ch_lit rfl (by decide) (ch_lit rfl (by decide) ch_nil))))), by decide, by decide⟩
      · refine zcy 167 X0 hx (D d1_135) (feq cd47).2 ?_
        refine zin 168 X0 hx (D d1_167) rfl ?_
        refine zic 169 3 X0 hx (D d1_168) ?_
        by_cases cd59 : qz1 = (3 : Int32)
        · refine zcn 172 X0 hx (D d1_169) (teq cd59).2 ?_
          refine zbp 174 6 X0 hx (D d1_172) ?_
          obtain ⟨T60, h60, kc60, X60, e60, E60, A60, st60⟩ := newP X0 hx hZ (ww hw 5 rfl) e0 (g := (mkF m 174 #[iv qz1, iv qz2, iv qz3, iv qz4] [(.int 6)])) rfl (D d1_174) rfl (by decide) (cap := 6) (by decide) (by decide) (by decide) (by decide)
          obtain ⟨b60, g60⟩ : ∃ z, z = h0.size := ⟨_, rfl⟩
          rw [← g60] at A60 st60
          have g_b60 : n0 ≤ b60 := Nat.le_trans (O0.1 ▸ O0.2.1) (Nat.le_of_eq g60.symm)
          have O60 : Old Z n0 h60 := O0.ext E60
          have sz_b60 : h0.size ≤ b60 := Nat.le_trans K0.1 (Nat.le_of_eq g60.symm)
          have K60 : Keep h0 h60 [] := K0.ext E60
          have V_b60 : Arv Z h60 b60 kc60 .char (6 : Int32) [(.int (0 : Int32)), (.int (0 : Int32)), (.int (0 : Int32)), (.int (0 : Int32)), (.int (0 : Int32)), (.int (0 : Int32))] (.int (0 : Int32)) := (Arv.new A60 (by decide)).pad (pad_rep [] (.int (0 : Int32)) 6)
          have lt_b60 := V_b60.lt
          refine zst 176 #[iv qz1, iv qz2, iv qz3, iv qz4] [(.ref b60)] st60 ?_
          refine Go.st (f' := (mkF m 177 #[iv qz1, iv qz2, iv qz3, iv qz4] [(.ref b60), (.ref b60)])) (fun _ k => XS.dup X60.here hx rfl (D d1_176) rfl rfl k) ?_
          refine zic 178 0 X60 hx (D d1_177) ?_
          refine zbp 180 97 X60 hx (D d1_178) ?_
          obtain ⟨cl61, Ar61, q61, S61, Nx61, H61, G61⟩ := id V_b60
          have hin61 : ¬ ((0 : Int32) < 0 ∨ cl61.slots.size ≤ ((0 : Int32)).toNatClampNeg) := inb_of S61 ⟨by decide, by decide⟩
          obtain ⟨T62, h62, X62, e62, W62, st62⟩ := stC X60 hx hZ e60 Ar61 (j := (0 : Int32)) hin61 (g := (mkF m 180 #[iv qz1, iv qz2, iv qz3, iv qz4] [(.int 97), (.int 0), (.ref b60), (.ref b60)])) rfl rfl (D d1_180)
          have V_b60_62 : Arv Z h62 b60 kc60 .char (6 : Int32) [(.int (97 : Int32)), (.int (0 : Int32)), (.int (0 : Int32)), (.int (0 : Int32)), (.int (0 : Int32)), (.int (0 : Int32))] (.int (0 : Int32)) := Arv.set Ar61 q61 S61 Nx61 H61 G61 (by decide) W62 0 rfl (Nat.le_of_ble_eq_true rfl)
          have N62 := Fr.snoc X62 N0 g_b60
          have O62 : Old Z n0 h62 := O60.wr W62 g_b60
          have K62 : Keep h0 h62 [] := K60.wr W62 (Or.inr sz_b60)
          refine zst 181 #[iv qz1, iv qz2, iv qz3, iv qz4] [(.ref b60)] st62 ?_
          refine Go.st (f' := (mkF m 182 #[iv qz1, iv qz2, iv qz3, iv qz4] [(.ref b60), (.ref b60)])) (fun _ k => XS.dup X62.here hx rfl (D d1_181) rfl rfl k) ?_
          refine zic 183 1 X62 hx (D d1_182) ?_
          refine zbp 185 110 X62 hx (D d1_183) ?_
          obtain ⟨cl63, Ar63, q63, S63, Nx63, H63, G63⟩ := id V_b60_62
          have hin63 : ¬ ((1 : Int32) < 0 ∨ cl63.slots.size ≤ ((1 : Int32)).toNatClampNeg) := inb_of S63 ⟨by decide, by decide⟩
          obtain ⟨T64, h64, X64, e64, W64, st64⟩ := stC X62 hx hZ e62 Ar63 (j := (1 : Int32)) hin63 (g := (mkF m 185 #[iv qz1, iv qz2, iv qz3, iv qz4] [(.int 110), (.int 1), (.ref b60), (.ref b60)])) rfl rfl (D d1_185)
          have V_b60_64 : Arv Z h64 b60 kc60 .char (6 : Int32) [(.int (97 : Int32)), (.int (110 : Int32)), (.int (0 : Int32)), (.int (0 : Int32)), (.int (0 : Int32)), (.int (0 : Int32))] (.int (0 : Int32)) := Arv.set Ar63 q63 S63 Nx63 H63 G63 (by decide) W64 1 rfl (Nat.le_of_ble_eq_true rfl)
          have N64 := Fr.snoc X64 N62 g_b60
          have O64 : Old Z n0 h64 := O62.wr W64 g_b60
          have K64 : Keep h0 h64 [] := K62.wr W64 (Or.inr sz_b60)
          refine zst 186 #[iv qz1, iv qz2, iv qz3, iv qz4] [(.ref b60)] st64 ?_
          refine Go.st (f' := (mkF m 187 #[iv qz1, iv qz2, iv qz3, iv qz4] [(.ref b60), (.ref b60)])) (fun _ k => XS.dup X64.here hx rfl (D d1_186) rfl rfl k) ?_
          refine zic 188 2 X64 hx (D d1_187) ?_
          refine zbp 190 97 X64 hx (D d1_188) ?_
          obtain ⟨cl65, Ar65, q65, S65, Nx65, H65, G65⟩ := id V_b60_64
          have hin65 : ¬ ((2 : Int32) < 0 ∨ cl65.slots.size ≤ ((2 : Int32)).toNatClampNeg) := inb_of S65 ⟨by decide, by decide⟩
          obtain ⟨T66, h66, X66, e66, W66, st66⟩ := stC X64 hx hZ e64 Ar65 (j := (2 : Int32)) hin65 (g := (mkF m 190 #[iv qz1, iv qz2, iv qz3, iv qz4] [(.int 97), (.int 2), (.ref b60), (.ref b60)])) rfl rfl (D d1_190)
          have V_b60_66 : Arv Z h66 b60 kc60 .char (6 : Int32) [(.int (97 : Int32)), (.int (110 : Int32)), (.int (97 : Int32)), (.int (0 : Int32)), (.int (0 : Int32)), (.int (0 : Int32))] (.int (0 : Int32)) := Arv.set Ar65 q65 S65 Nx65 H65 G65 (by decide) W66 2 rfl (Nat.le_of_ble_eq_true rfl)
          have N66 := Fr.snoc X66 N64 g_b60
          have O66 : Old Z n0 h66 := O64.wr W66 g_b60
          have K66 : Keep h0 h66 [] := K64.wr W66 (Or.inr sz_b60)
          refine zst 191 #[iv qz1, iv qz2, iv qz3, iv qz4] [(.ref b60)] st66 ?_
          refine Go.st (f' := (mkF m 192 #[iv qz1, iv qz2, iv qz3, iv qz4] [(.ref b60), (.ref b60)])) (fun _ k => XS.dup X66.here hx rfl (D d1_191) rfl rfl k) ?_
          refine zic 193 3 X66 hx (D d1_192) ?_
          refine zbp 195 108 X66 hx (D d1_193) ?_
          obtain ⟨cl67, Ar67, q67, S67, Nx67, H67, G67⟩ := id V_b60_66
          have hin67 : ¬ ((3 : Int32) < 0 ∨ cl67.slots.size ≤ ((3 : Int32)).toNatClampNeg) := inb_of S67 ⟨by decide, by decide⟩
          obtain ⟨T68, h68, X68, e68, W68, st68⟩ := stC X66 hx hZ e66 Ar67 (j := (3 : Int32)) hin67 (g := (mkF m 195 #[iv qz1, iv qz2, iv qz3, iv qz4] [(.int 108), (.int 3), (.ref b60), (.ref b60)])) rfl rfl (D d1_195)
          have V_b60_68 : Arv Z h68 b60 kc60 .char (6 : Int32) [(.int (97 : Int32)), (.int (110 : Int32)), (.int (97 : Int32)), (.int (108 : Int32)), (.int (0 : Int32)), (.int (0 : Int32))] (.int (0 : Int32)) := Arv.set Ar67 q67 S67 Nx67 H67 G67 (by decide) W68 3 rfl (Nat.le_of_ble_eq_true rfl)
          have N68 := Fr.snoc X68 N66 g_b60
          have O68 : Old Z n0 h68 := O66.wr W68 g_b60
          have K68 : Keep h0 h68 [] := K66.wr W68 (Or.inr sz_b60)
          refine zst 196 #[iv qz1, iv qz2, iv qz3, iv qz4] [(.ref b60)] st68 ?_
          refine Go.st (f' := (mkF m 197 #[iv qz1, iv qz2, iv qz3, iv qz4] [(.ref b60), (.ref b60)])) (fun _ k => XS.dup X68.here hx rfl (D d1_196) rfl rfl k) ?_
          refine zic 198 4 X68 hx (D d1_197) ?_
          refine zbp 200 121 X68 hx (D d1_198) ?_
          obtain ⟨cl69, Ar69, q69, S69, Nx69, H69, G69⟩ := id V_b60_68
          have hin69 : ¬ ((4 : Int32) < 0 ∨ cl69.slots.size ≤ ((4 : Int32)).toNatClampNeg) := inb_of S69 ⟨by decide, by decide⟩
          obtain ⟨T70, h70, X70, e70, W70, st70⟩ := stC X68 hx hZ e68 Ar69 (j := (4 : Int32)) hin69 (g := (mkF m 200 #[iv qz1, iv qz2, iv qz3, iv qz4] [(.int 121), (.int 4), (.ref b60), (.ref b60)])) rfl rfl (D d1_200)
          have V_b60_70 : Arv Z h70 b60 kc60 .char (6 : Int32) [(.int (97 : Int32)), (.int (110 : Int32)), (.int (97 : Int32)), (.int (108 : Int32)), (.int (121 : Int32)), (.int (0 : Int32))] (.int (0 : Int32)) := Arv.set Ar69 q69 S69 Nx69 H69 G69 (by decide) W70 4 rfl (Nat.le_of_ble_eq_true rfl)
          have N70 := Fr.snoc X70 N68 g_b60
          have O70 : Old Z n0 h70 := O68.wr W70 g_b60
          have K70 : Keep h0 h70 [] := K68.wr W70 (Or.inr sz_b60)
          refine zst 201 #[iv qz1, iv qz2, iv qz3, iv qz4] [(.ref b60)] st70 ?_
          refine Go.st (f' := (mkF m 202 #[iv qz1, iv qz2, iv qz3, iv qz4] [(.ref b60), (.ref b60)])) (fun _ k => XS.dup X70.here hx rfl (D d1_201) rfl rfl k) ?_
          refine zic 203 5 X70 hx (D d1_202) ?_
          refine zbp 205 115 X70 hx (D d1_203) ?_
          obtain ⟨cl71, Ar71, q71, S71, Nx71, H71, G71⟩ := id V_b60_70
          have hin71 : ¬ ((5 : Int32) < 0 ∨ cl71.slots.size ≤ ((5 : Int32)).toNatClampNeg) := inb_of S71 ⟨by decide, by decide⟩
          obtain ⟨T72, h72, X72, e72, W72, st72⟩ := stC X70 hx hZ e70 Ar71 (j := (5 : Int32)) hin71 (g := (mkF m 205 #[iv qz1, iv qz2, iv qz3, iv qz4] [(.int 115), (.int 5), (.ref b60), (.ref b60)])) rfl rfl (D d1_205)
          have V_b60_72 : Arv Z h72 b60 kc60 .char (6 : Int32) [(.int (97 : Int32)), (.int (110 : Int32)), (.int (97 : Int32)), (.int (108 : Int32)), (.int (121 : Int32)), (.int (115 : Int32))] (.int (0 : Int32)) := Arv.set Ar71 q71 S71 Nx71 H71 G71 (by decide) W72 5 rfl (Nat.le_of_ble_eq_true rfl)
          have N72 := Fr.snoc X72 N70 g_b60
          have O72 : Old Z n0 h72 := O70.wr W72 g_b60
          have K72 : Keep h0 h72 [] := K70.wr W72 (Or.inr sz_b60)
          refine zst 206 #[iv qz1, iv qz2, iv qz3, iv qz4] [(.ref b60)] st72 ?_
          refine Go.retV X72 hlk hx (t := (.array .char)) hret rfl (Or.inr (Or.inr (Or.inr (Or.inr ⟨rfl, rfl, rfl⟩)))) (D d1_206) e72 ?_ (by decide) (by decide)
          exact ⟨b60, kc60, (6 : Int32), _, rfl, N72, sz_b60, K72, V_b60_72, ⟨by decide, by show _ = ((6 : Nat) : Int); decide⟩, (ch_lit rfl (by decide) (ch_lit rfl (by decide) (ch_lit rfl (by decide) (ch_lit rfl (by decide) (ch_lit rfl (by decide) (ch_lit rfl (by decide) ch_nil)))))), by decide, by decide⟩
        · refine zcy 207 X0 hx (D d1_169) (feq cd59).2 ?_
          refine zin 208 X0 hx (D d1_207) rfl ?_
          refine zic 209 4 X0 hx (D d1_208) ?_
          by_cases cd73 : qz1 = (4 : Int32)
          · refine zcn 212 X0 hx (D d1_209) (teq cd73).2 ?_
            refine zbp 214 8 X0 hx (D d1_212) ?_
            obtain ⟨T74, h74, kc74, X74, e74, E74, A74, st74⟩ := newP X0 hx hZ (ww hw 5 rfl) e0 (g := (mkF m 214 #[iv qz1, iv qz2, iv qz3, iv qz4] [(.int 8)])) rfl (D d1_214) rfl (by decide) (cap := 8) (by decide) (by decide) (by decide) (by decide)
            obtain ⟨b74, g74⟩ : ∃ z, z = h0.size := ⟨_, rfl⟩
            rw [← g74] at A74 st74
            have g_b74 : n0 ≤ b74 := Nat.le_trans (O0.1 ▸ O0.2.1) (Nat.le_of_eq g74.symm)
            have O74 : Old Z n0 h74 := O0.ext E74
            have sz_b74 : h0.size ≤ b74 := Nat.le_trans K0.1 (Nat.le_of_eq g74.symm)
            have K74 : Keep h0 h74 [] := K0.ext E74
            have V_b74 : Arv Z h74 b74 kc74 .char (8 : Int32) [(.int (0 : Int32)), (.int (0 : Int32)), (.int (0 : Int32)), (.int (0 : Int32)), (.int (0 : Int32)), (.int (0 : Int32)), (.int (0 : Int32)), (.int (0 : Int32))] (.int (0 : Int32)) := (Arv.new A74 (by decide)).pad (pad_rep [] (.int (0 : Int32)) 8)
            have lt_b74 := V_b74.lt
            refine zst 216 #[iv qz1, iv qz2, iv qz3, iv qz4] [(.ref b74)] st74 ?_
            refine Go.st (f' := (mkF m 217 #[iv qz1, iv qz2, iv qz3, iv qz4] [(.ref b74), (.ref b74)])) (fun _ k => XS.dup X74.here hx rfl (D d1_216) rfl rfl k) ?_
            refine zic 218 0 X74 hx (D d1_217) ?_
            refine zbp 220 97 X74 hx (D d1_218) ?_
            obtain ⟨cl75, Ar75, q75, S75, Nx75, H75, G75⟩ := id V_b74
            have hin75 : ¬ ((0 : Int32) < 0 ∨ cl75.slots.size ≤ ((0 : Int32)).toNatClampNeg) := inb_of S75 ⟨by decide, by decide⟩
            obtain ⟨T76, h76, X76, e76, W76, st76⟩ := stC X74 hx hZ e74 Ar75 (j := (0 : Int32)) hin75 (g := (mkF m 220 #[iv qz1, iv qz2, iv qz3, iv qz4] [(.int 97), (.int 0), (.ref b74), (.ref b74)])) rfl rfl (D d1_220)
            have V_b74_76 : Arv Z h76 b74 kc74 .char (8 : Int32) [(.int (97 : Int32)), (.int (0 : Int32)), (.int (0 : Int32)), (.int (0 : Int32)), (.int (0 : Int32)), (.int (0 : Int32)), (.int (0 : Int32)), (.int (0 : Int32))] (.int (0 : Int32)) := Arv.set Ar75 q75 S75 Nx75 H75 G75 (by decide) W76 0 rfl (Nat.le_of_ble_eq_true rfl)
            have N76 := Fr.snoc X76 N0 g_b74
            have O76 : Old Z n0 h76 := O74.wr W76 g_b74
            have K76 : Keep h0 h76 [] := K74.wr W76 (Or.inr sz_b74)
            refine zst 221 #[iv qz1, iv qz2, iv qz3, iv qz4] [(.ref b74)] st76 ?_
            refine Go.st (f' := (mkF m 222 #[iv qz1, iv qz2, iv qz3, iv qz4] [(.ref b74), (.ref b74)])) (fun _ k => XS.dup X76.here hx rfl (D d1_221) rfl rfl k) ?_
            refine zic 223 1 X76 hx (D d1_222) ?_
            refine zbp 225 110 X76 hx (D d1_223) ?_
            obtain ⟨cl77, Ar77, q77, S77, Nx77, H77, G77⟩ := id V_b74_76
            have hin77 : ¬ ((1 : Int32) < 0 ∨ cl77.slots.size ≤ ((1 : Int32)).toNatClampNeg) := inb_of S77 ⟨by decide, by decide⟩
            obtain ⟨T78, h78, X78, e78, W78, st78⟩ := stC X76 hx hZ e76 Ar77 (j := (1 : Int32)) hin77 (g := (mkF m 225 #[iv qz1, iv qz2, iv qz3, iv qz4] [(.int 110), (.int 1), (.ref b74), (.ref b74)])) rfl rfl (D d1_225)
            have V_b74_78 : Arv Z h78 b74 kc74 .char (8 : Int32) [(.int (97 : Int32)), (.int (110 : Int32)), (.int (0 : Int32)), (.int (0 : Int32)), (.int (0 : Int32)), (.int (0 : Int32)), (.int (0 : Int32)), (.int (0 : Int32))] (.int (0 : Int32)) := Arv.set Ar77 q77 S77 Nx77 H77 G77 (by decide) W78 1 rfl (Nat.le_of_ble_eq_true rfl)
            have N78 := Fr.snoc X78 N76 g_b74
            have O78 : Old Z n0 h78 := O76.wr W78 g_b74
            have K78 : Keep h0 h78 [] := K76.wr W78 (Or.inr sz_b74)
            refine zst 226 #[iv qz1, iv qz2, iv qz3, iv qz4] [(.ref b74)] st78 ?_
            refine Go.st (f' := (mkF m 227 #[iv qz1, iv qz2, iv qz3, iv qz4] [(.ref b74), (.ref b74)])) (fun _ k => XS.dup X78.here hx rfl (D d1_226) rfl rfl k) ?_
            refine zic 228 2 X78 hx (D d1_227) ?_
            refine zbp 230 97 X78 hx (D d1_228) ?_
            obtain ⟨cl79, Ar79, q79, S79, Nx79, H79, G79⟩ := id V_b74_78
            have hin79 : ¬ ((2 : Int32) < 0 ∨ cl79.slots.size ≤ ((2 : Int32)).toNatClampNeg) := inb_of S79 ⟨by decide, by decide⟩
            obtain ⟨T80, h80, X80, e80, W80, st80⟩ := stC X78 hx hZ e78 Ar79 (j := (2 : Int32)) hin79 (g := (mkF m 230 #[iv qz1, iv qz2, iv qz3, iv qz4] [(.int 97), (.int 2), (.ref b74), (.ref b74)])) rfl rfl (D d1_230)
            have V_b74_80 : Arv Z h80 b74 kc74 .char (8 : Int32) [(.int (97 : Int32)), (.int (110 : Int32)), (.int (97 : Int32)), (.int (0 : Int32)), (.int (0 : Int32)), (.int (0 : Int32)), (.int (0 : Int32)), (.int (0 : Int32))] (.int (0 : Int32)) := Arv.set Ar79 q79 S79 Nx79 H79 G79 (by decide) W80 2 rfl (Nat.le_of_ble_eq_true rfl)
            have N80 := Fr.snoc X80 N78 g_b74
            have O80 : Old Z n0 h80 := O78.wr W80 g_b74
            have K80 : Keep h0 h80 [] := K78.wr W80 (Or.inr sz_b74)
            refine zst 231 #[iv qz1, iv qz2, iv qz3, iv qz4] [(.ref b74)] st80 ?_
            refine Go.st (f' := (mkF m 232 #[iv qz1, iv qz2, iv qz3, iv qz4] [(.ref b74), (.ref b74)])) (fun _ k => XS.dup X80.here hx rfl (D d1_231) rfl rfl k) ?_
            refine zic 233 3 X80 hx (D d1_232) ?_
            refine zbp 235 108 X80 hx (D d1_233) ?_
            obtain ⟨cl81, Ar81, q81, S81, Nx81, H81, G81⟩ := id V_b74_80
            have hin81 : ¬ ((3 : Int32) < 0 ∨ cl81.slots.size ≤ ((3 : Int32)).toNatClampNeg) := inb_of S81 ⟨by decide, by decide⟩
            obtain ⟨T82, h82, X82, e82, W82, st82⟩ := stC X80 hx hZ e80 Ar81 (j := (3 : Int32)) hin81 (g := (mkF m 235 #[iv qz1, iv qz2, iv qz3, iv qz4] [(.int 108), (.int 3), (.ref b74), (.ref b74)])) rfl rfl (D d1_235)
            have V_b74_82 : Arv Z h82 b74 kc74 .char (8 : Int32) [(.int (97 : Int32)), (.int (110 : Int32)), (.int (97 : Int32)), (.int (108 : Int32)), (.int (0 : Int32)), (.int (0 : Int32)), (.int (0 : Int32)), (.int (0 : Int32))] (.int (0 : Int32)) := Arv.set Ar81 q81 S81 Nx81 H81 G81 (by decide) W82 3 rfl (Nat.le_of_ble_eq_true rfl)
            have N82 := Fr.snoc X82 N80 g_b74
            have O82 : Old Z n0 h82 := O80.wr W82 g_b74
            have K82 : Keep h0 h82 [] := K80.wr W82 (Or.inr sz_b74)
            refine zst 236 #[iv qz1, iv qz2, iv qz3, iv qz4] [(.ref b74)] st82 ?_
            refine Go.st (f' := (mkF m 237 #[iv qz1, iv qz2, iv qz3, iv qz4] [(.ref b74), (.ref b74)])) (fun _ k => XS.dup X82.here hx rfl (D d1_236) rfl rfl k) ?_
            refine zic 238 4 X82 hx (D d1_237) ?_
            refine zbp 240 121 X82 hx (D d1_238) ?_
            obtain ⟨cl83, Ar83, q83, S83, Nx83, H83, G83⟩ := id V_b74_82
            have hin83 : ¬ ((4 : Int32) < 0 ∨ cl83.slots.size ≤ ((4 : Int32)).toNatClampNeg) := inb_of S83 ⟨by decide, by decide⟩
            obtain ⟨T84, h84, X84, e84, W84, st84⟩ := stC X82 hx hZ e82 Ar83 (j := (4 : Int32)) hin83 (g := (mkF m 240 #[iv qz1, iv qz2, iv qz3, iv qz4] [(.int 121), (.int 4), (.ref b74), (.ref b74)])) rfl rfl (D d1_240)
            have V_b74_84 : Arv Z h84 b74 kc74 .char (8 : Int32) [(.int (97 : Int32)), (.int (110 : Int32)), (.int (97 : Int32)), (.int (108 : Int32)), (.int (121 : Int32)), (.int (0 : Int32)), (.int (0 : Int32)), (.int (0 : Int32))] (.int (0 : Int32)) := Arv.set Ar83 q83 S83 Nx83 H83 G83 (by decide) W84 4 rfl (Nat.le_of_ble_eq_true rfl)
            have N84 := Fr.snoc X84 N82 g_b74
            have O84 : Old Z n0 h84 := O82.wr W84 g_b74
            have K84 : Keep h0 h84 [] := K82.wr W84 (Or.inr sz_b74)
            refine zst 241 #[iv qz1, iv qz2, iv qz3, iv qz4] [(.ref b74)] st84 ?_
            refine Go.st (f' := (mkF m 242 #[iv qz1, iv qz2, iv qz3, iv qz4] [(.ref b74), (.ref b74)])) (fun _ k => XS.dup X84.here hx rfl (D d1_241) rfl rfl k) ?_
            refine zic 243 5 X84 hx (D d1_242) ?_
            refine zbp 245 115 X84 hx (D d1_243) ?_
            obtain ⟨cl85, Ar85, q85, S85, Nx85, H85, G85⟩ := id V_b74_84
            have hin85 : ¬ ((5 : Int32) < 0 ∨ cl85.slots.size ≤ ((5 : Int32)).toNatClampNeg) := inb_of S85 ⟨by decide, by decide⟩
            obtain ⟨T86, h86, X86, e86, W86, st86⟩ := stC X84 hx hZ e84 Ar85 (j := (5 : Int32)) hin85 (g := (mkF m 245 #[iv qz1, iv qz2, iv qz3, iv qz4] [(.int 115), (.int 5), (.ref b74), (.ref b74)])) rfl rfl (D d1_245)
            have V_b74_86 : Arv Z h86 b74 kc74 .char (8 : Int32) [(.int (97 : Int32)), (.int (110 : Int32)), (.int (97 : Int32)), (.int (108 : Int32)), (.int (121 : Int32)), (.int (115 : Int32)), (.int (0 : Int32)), (.int (0 : Int32))] (.int (0 : Int32)) := Arv.set Ar85 q85 S85 Nx85 H85 G85 (by decide) W86 5 rfl (Nat.le_of_ble_eq_true rfl)
            have N86 := Fr.snoc X86 N84 g_b74
            have O86 : Old Z n0 h86 := O84.wr W86 g_b74
            have K86 : Keep h0 h86 [] := K84.wr W86 (Or.inr sz_b74)
            refine zst 246 #[iv qz1, iv qz2, iv qz3, iv qz4] [(.ref b74)] st86 ?_
            refine Go.st (f' := (mkF m 247 #[iv qz1, iv qz2, iv qz3, iv qz4] [(.ref b74), (.ref b74)])) (fun _ k => XS.dup X86.here hx rfl (D d1_246) rfl rfl k) ?_
            refine zbp 249 6 X86 hx (D d1_247) ?_
            refine zbp 251 116 X86 hx (D d1_249) ?_
            obtain ⟨cl87, Ar87, q87, S87, Nx87, H87, G87⟩ := id V_b74_86
            have hin87 : ¬ ((6 : Int32) < 0 ∨ cl87.slots.size ≤ ((6 : Int32)).toNatClampNeg) := inb_of S87 ⟨by decide, by decide⟩
            obtain ⟨T88, h88, X88, e88, W88, st88⟩ := stC X86 hx hZ e86 Ar87 (j := (6 : Int32)) hin87 (g := (mkF m 251 #[iv qz1, iv qz2, iv qz3, iv qz4] [(.int 116), (.int 6), (.ref b74), (.ref b74)])) rfl rfl (D d1_251)
            have V_b74_88 : Arv Z h88 b74 kc74 .char (8 : Int32) [(.int (97 : Int32)), (.int (110 : Int32)), (.int (97 : Int32)), (.int (108 : Int32)), (.int (121 : Int32)), (.int (115 : Int32)), (.int (116 : Int32)), (.int (0 : Int32))] (.int (0 : Int32)) := Arv.set Ar87 q87 S87 Nx87 H87 G87 (by decide) W88 6 rfl (Nat.le_of_ble_eq_true rfl)
            have N88 := Fr.snoc X88 N86 g_b74
            have O88 : Old Z n0 h88 := O86.wr W88 g_b74
            have K88 : Keep h0 h88 [] := K86.wr W88 (Or.inr sz_b74)
            refine zst 252 #[iv qz1, iv qz2, iv qz3, iv qz4] [(.ref b74)] st88 ?_
            refine Go.st (f' := (mkF m 253 #[iv qz1, iv qz2, iv qz3, iv qz4] [(.ref b74), (.ref b74)])) (fun _ k => XS.dup X88.here hx rfl (D d1_252) rfl rfl k) ?_
            refine zbp 255 7 X88 hx (D d1_253) ?_
            refine zbp 257 115 X88 hx (D d1_255) ?_
            obtain ⟨cl89, Ar89, q89, S89, Nx89, H89, G89⟩ := id V_b74_88
            have hin89 : ¬ ((7 : Int32) < 0 ∨ cl89.slots.size ≤ ((7 : Int32)).toNatClampNeg) := inb_of S89 ⟨by decide, by decide⟩
            obtain ⟨T90, h90, X90, e90, W90, st90⟩ := stC X88 hx hZ e88 Ar89 (j := (7 : Int32)) hin89 (g := (mkF m 257 #[iv qz1, iv qz2, iv qz3, iv qz4] [(.int 115), (.int 7), (.ref b74), (.ref b74)])) rfl rfl (D d1_257)
            have V_b74_90 : Arv Z h90 b74 kc74 .char (8 : Int32) [(.int (97 : Int32)), (.int (110 : Int32)), (.int (97 : Int32)), (.int (108 : Int32)), (.int (121 : Int32)), (.int (115 : Int32)), (.int (116 : Int32)), (.int (115 : Int32))] (.int (0 : Int32)) := Arv.set Ar89 q89 S89 Nx89 H89 G89 (by decide) W90 7 rfl (Nat.le_of_ble_eq_true rfl)
            have N90 := Fr.snoc X90 N88 g_b74
            have O90 : Old Z n0 h90 := O88.wr W90 g_b74
            have K90 : Keep h0 h90 [] := K88.wr W90 (Or.inr sz_b74)
            refine zst 258 #[iv qz1, iv qz2, iv qz3, iv qz4] [(.ref b74)] st90 ?_
            refine Go.retV X90 hlk hx (t := (.array .char)) hret rfl (Or.inr (Or.inr (Or.inr (Or.inr ⟨rfl, rfl, rfl⟩)))) (D d1_258) e90 ?_ (by decide) (by decide)
            exact ⟨b74, kc74, (8 : Int32), _, rfl, N90, sz_b74, K90, V_b74_90, ⟨by decide, by show _ = ((8 : Nat) : Int); decide⟩, (ch_lit rfl (by decide) (ch_lit rfl (by decide) (ch_lit rfl (by decide) (ch_lit rfl (by decide) (ch_lit rfl (by decide) (ch_lit rfl (by decide) (ch_lit rfl (by decide) (ch_lit rfl (by decide) ch_nil)))))))), by decide, by decide⟩
          · refine zcy 259 X0 hx (D d1_209) (feq cd73).2 ?_
            refine zin 260 X0 hx (D d1_259) rfl ?_
            refine zic 261 5 X0 hx (D d1_260) ?_
            by_cases cd91 : qz1 = (5 : Int32)
            · refine zcn 264 X0 hx (D d1_261) (teq cd91).2 ?_
              refine zic 265 4 X0 hx (D d1_264) ?_
              obtain ⟨T92, h92, kc92, X92, e92, E92, A92, st92⟩ := newP X0 hx hZ (ww hw 5 rfl) e0 (g := (mkF m 265 #[iv qz1, iv qz2, iv qz3, iv qz4] [(.int 4)])) rfl (D d1_265) rfl (by decide) (cap := 4) (by decide) (by decide) (by decide) (by decide)
              obtain ⟨b92, g92⟩ : ∃ z, z = h0.size := ⟨_, rfl⟩
              rw [← g92] at A92 st92
              have g_b92 : n0 ≤ b92 := Nat.le_trans (O0.1 ▸ O0.2.1) (Nat.le_of_eq g92.symm)
              have O92 : Old Z n0 h92 := O0.ext E92
              have sz_b92 : h0.size ≤ b92 := Nat.le_trans K0.1 (Nat.le_of_eq g92.symm)
              have K92 : Keep h0 h92 [] := K0.ext E92
              have V_b92 : Arv Z h92 b92 kc92 .char (4 : Int32) [(.int (0 : Int32)), (.int (0 : Int32)), (.int (0 : Int32)), (.int (0 : Int32))] (.int (0 : Int32)) := (Arv.new A92 (by decide)).pad (pad_rep [] (.int (0 : Int32)) 4)
              have lt_b92 := V_b92.lt
              refine zst 267 #[iv qz1, iv qz2, iv qz3, iv qz4] [(.ref b92)] st92 ?_
              refine Go.st (f' := (mkF m 268 #[iv qz1, iv qz2, iv qz3, iv qz4] [(.ref b92), (.ref b92)])) (fun _ k => XS.dup X92.here hx rfl (D d1_267) rfl rfl k) ?_
              refine zic 269 0 X92 hx (D d1_268) ?_
              refine zbp 271 97 X92 hx (D d1_269) ?_
              obtain ⟨cl93, Ar93, q93, S93, Nx93, H93, G93⟩ := id V_b92
              have hin93 : ¬ ((0 : Int32) < 0 ∨ cl93.slots.size ≤ ((0 : Int32)).toNatClampNeg) := inb_of S93 ⟨by decide, by decide⟩
              obtain ⟨T94, h94, X94, e94, W94, st94⟩ := stC X92 hx hZ e92 Ar93 (j := (0 : Int32)) hin93 (g := (mkF m 271 #[iv qz1, iv qz2, iv qz3, iv qz4] [(.int 97), (.int 0), (.ref b92), (.ref b92)])) rfl rfl (D d1_271)
              have V_b92_94 : Arv Z h94 b92 kc92 .char (4 : Int32) [(.int (97 : Int32)), (.int (0 : Int32)), (.int (0 : Int32)), (.int (0 : Int32))] (.int (0 : Int32)) := Arv.set Ar93 q93 S93 Nx93 H93 G93 (by decide) W94 0 rfl (Nat.le_of_ble_eq_true rfl)
              have N94 := Fr.snoc X94 N0 g_b92
              have O94 : Old Z n0 h94 := O92.wr W94 g_b92
              have K94 : Keep h0 h94 [] := K92.wr W94 (Or.inr sz_b92)
              refine zst 272 #[iv qz1, iv qz2, iv qz3, iv qz4] [(.ref b92)] st94 ?_
              refine Go.st (f' := (mkF m 273 #[iv qz1, iv qz2, iv qz3, iv qz4] [(.ref b92), (.ref b92)])) (fun _ k => XS.dup X94.here hx rfl (D d1_272) rfl rfl k) ?_
              refine zic 274 1 X94 hx (D d1_273) ?_
              refine zbp 276 100 X94 hx (D d1_274) ?_
              obtain ⟨cl95, Ar95, q95, S95, Nx95, H95, G95⟩ := id V_b92_94
              have hin95 : ¬ ((1 : Int32) < 0 ∨ cl95.slots.size ≤ ((1 : Int32)).toNatClampNeg) := inb_of S95 ⟨by decide, by decide⟩
              obtain ⟨T96, h96, X96, e96, W96, st96⟩ := stC X94 hx hZ e94 Ar95 (j := (1 : Int32)) hin95 (g := (mkF m 276 #[iv qz1, iv qz2, iv qz3, iv qz4] [(.int 100), (.int 1), (.ref b92), (.ref b92)])) rfl rfl (D d1_276)
              have V_b92_96 : Arv Z h96 b92 kc92 .char (4 : Int32) [(.int (97 : Int32)), (.int (100 : Int32)), (.int (0 : Int32)), (.int (0 : Int32))] (.int (0 : Int32)) := Arv.set Ar95 q95 S95 Nx95 H95 G95 (by decide) W96 1 rfl (Nat.le_of_ble_eq_true rfl)
              have N96 := Fr.snoc X96 N94 g_b92
              have O96 : Old Z n0 h96 := O94.wr W96 g_b92
              have K96 : Keep h0 h96 [] := K94.wr W96 (Or.inr sz_b92)
              refine zst 277 #[iv qz1, iv qz2, iv qz3, iv qz4] [(.ref b92)] st96 ?_
              refine Go.st (f' := (mkF m 278 #[iv qz1, iv qz2, iv qz3, iv qz4] [(.ref b92), (.ref b92)])) (fun _ k => XS.dup X96.here hx rfl (D d1_277) rfl rfl k) ?_
              refine zic 279 2 X96 hx (D d1_278) ?_
              refine zbp 281 109 X96 hx (D d1_279) ?_
              obtain ⟨cl97, Ar97, q97, S97, Nx97, H97, G97⟩ := id V_b92_96
              have hin97 : ¬ ((2 : Int32) < 0 ∨ cl97.slots.size ≤ ((2 : Int32)).toNatClampNeg) := inb_of S97 ⟨by decide, by decide⟩
              obtain ⟨T98, h98, X98, e98, W98, st98⟩ := stC X96 hx hZ e96 Ar97 (j := (2 : Int32)) hin97 (g := (mkF m 281 #[iv qz1, iv qz2, iv qz3, iv qz4] [(.int 109), (.int 2), (.ref b92), (.ref b92)])) rfl rfl (D d1_281)
              have V_b92_98 : Arv Z h98 b92 kc92 .char (4 : Int32) [(.int (97 : Int32)), (.int (100 : Int32)), (.int (109 : Int32)), (.int (0 : Int32))] (.int (0 : Int32)) := Arv.set Ar97 q97 S97 Nx97 H97 G97 (by decide) W98 2 rfl (Nat.le_of_ble_eq_true rfl)
              have N98 := Fr.snoc X98 N96 g_b92
              have O98 : Old Z n0 h98 := O96.wr W98 g_b92
              have K98 : Keep h0 h98 [] := K96.wr W98 (Or.inr sz_b92)
              refine zst 282 #[iv qz1, iv qz2, iv qz3, iv qz4] [(.ref b92)] st98 ?_
              refine Go.st (f' := (mkF m 283 #[iv qz1, iv qz2, iv qz3, iv qz4] [(.ref b92), (.ref b92)])) (fun _ k => XS.dup X98.here hx rfl (D d1_282) rfl rfl k) ?_
              refine zic 284 3 X98 hx (D d1_283) ?_
              refine zbp 286 105 X98 hx (D d1_284) ?_
              obtain ⟨cl99, Ar99, q99, S99, Nx99, H99, G99⟩ := id V_b92_98
              have hin99 : ¬ ((3 : Int32) < 0 ∨ cl99.slots.size ≤ ((3 : Int32)).toNatClampNeg) := inb_of S99 ⟨by decide, by decide⟩
              obtain ⟨T100, h100, X100, e100, W100, st100⟩ := stC X98 hx hZ e98 Ar99 (j := (3 : Int32)) hin99 (g := (mkF m 286 #[iv qz1, iv qz2, iv qz3, iv qz4] [(.int 105), (.int 3), (.ref b92), (.ref b92)])) rfl rfl (D d1_286)
              have V_b92_100 : Arv Z h100 b92 kc92 .char (4 : Int32) [(.int (97 : Int32)), (.int (100 : Int32)), (.int (109 : Int32)), (.int (105 : Int32))] (.int (0 : Int32)) := Arv.set Ar99 q99 S99 Nx99 H99 G99 (by decide) W100 3 rfl (Nat.le_of_ble_eq_true rfl)
              have N100 := Fr.snoc X100 N98 g_b92
              have O100 : Old Z n0 h100 := O98.wr W100 g_b92
              have K100 : Keep h0 h100 [] := K98.wr W100 (Or.inr sz_b92)
              refine zst 287 #[iv qz1, iv qz2, iv qz3, iv qz4] [(.ref b92)] st100 ?_
              refine Go.retV X100 hlk hx (t := (.array .char)) hret rfl (Or.inr (Or.inr (Or.inr (Or.inr ⟨rfl, rfl, rfl⟩)))) (D d1_287) e100 ?_ (by decide) (by decide)
              exact ⟨b92, kc92, (4 : Int32), _, rfl, N100, sz_b92, K100, V_b92_100, ⟨by decide, by show _ = ((4 : Nat) : Int); decide⟩, (ch_lit rfl (by decide) (ch_lit rfl (by decide) (ch_lit rfl (by decide) (ch_lit rfl (by decide) ch_nil)))), by decide, by decide⟩
            · refine zcy 288 X0 hx (D d1_261) (feq cd91).2 ?_
              refine zin 289 X0 hx (D d1_288) rfl ?_
              refine zbp 291 6 X0 hx (D d1_289) ?_
              by_cases cd101 : qz1 = (6 : Int32)
              · refine zcn 294 X0 hx (D d1_291) (teq cd101).2 ?_
                refine zbp 296 6 X0 hx (D d1_294) ?_
                obtain ⟨T102, h102, kc102, X102, e102, E102, A102, st102⟩ := newP X0 hx hZ (ww hw 5 rfl) e0 (g := (mkF m 296 #[iv qz1, iv qz2, iv qz3, iv qz4] [(.int 6)])) rfl (D d1_296) rfl (by decide) (cap := 6) (by decide) (by decide) (by decide) (by decide)
                obtain ⟨b102, g102⟩ : ∃ z, z = h0.size := ⟨_, rfl⟩
                rw [← g102] at A102 st102
                have g_b102 : n0 ≤ b102 := Nat.le_trans (O0.1 ▸ O0.2.1) (Nat.le_of_eq g102.symm)
                have O102 : Old Z n0 h102 := O0.ext E102
                have sz_b102 : h0.size ≤ b102 := Nat.le_trans K0.1 (Nat.le_of_eq g102.symm)
                have K102 : Keep h0 h102 [] := K0.ext E102
                have V_b102 : Arv Z h102 b102 kc102 .char (6 : Int32) [(.int (0 : Int32)), (.int (0 : Int32)), (.int (0 : Int32)), (.int (0 : Int32)), (.int (0 : Int32)), (.int (0 : Int32))] (.int (0 : Int32)) := (Arv.new A102 (by decide)).pad (pad_rep [] (.int (0 : Int32)) 6)
                have lt_b102 := V_b102.lt
                refine zst 298 #[iv qz1, iv qz2, iv qz3, iv qz4] [(.ref b102)] st102 ?_
                refine Go.st (f' := (mkF m 299 #[iv qz1, iv qz2, iv qz3, iv qz4] [(.ref b102), (.ref b102)])) (fun _ k => XS.dup X102.here hx rfl (D d1_298) rfl rfl k) ?_
                refine zic 300 0 X102 hx (D d1_299) ?_
                refine zbp 302 97 X102 hx (D d1_300) ?_
                obtain ⟨cl103, Ar103, q103, S103, Nx103, H103, G103⟩ := id V_b102
                have hin103 : ¬ ((0 : Int32) < 0 ∨ cl103.slots.size ≤ ((0 : Int32)).toNatClampNeg) := inb_of S103 ⟨by decide, by decide⟩
                obtain ⟨T104, h104, X104, e104, W104, st104⟩ := stC X102 hx hZ e102 Ar103 (j := (0 : Int32)) hin103 (g := (mkF m 302 #[iv qz1, iv qz2, iv qz3, iv qz4] [(.int 97), (.int 0), (.ref b102), (.ref b102)])) rfl rfl (D d1_302)
                have V_b102_104 : Arv Z h104 b102 kc102 .char (6 : Int32) [(.int (97 : Int32)), (.int (0 : Int32)), (.int (0 : Int32)), (.int (0 : Int32)), (.int (0 : Int32)), (.int (0 : Int32))] (.int (0 : Int32)) := Arv.set Ar103 q103 S103 Nx103 H103 G103 (by decide) W104 0 rfl (Nat.le_of_ble_eq_true rfl)
                have N104 := Fr.snoc X104 N0 g_b102
                have O104 : Old Z n0 h104 := O102.wr W104 g_b102
                have K104 : Keep h0 h104 [] := K102.wr W104 (Or.inr sz_b102)
                refine zst 303 #[iv qz1, iv qz2, iv qz3, iv qz4] [(.ref b102)] st104 ?_
                refine Go.st (f' := (mkF m 304 #[iv qz1, iv qz2, iv qz3, iv qz4] [(.ref b102), (.ref b102)])) (fun _ k => XS.dup X104.here hx rfl (D d1_303) rfl rfl k) ?_
                refine zic 305 1 X104 hx (D d1_304) ?_
                refine zbp 307 100 X104 hx (D d1_305) ?_
                obtain ⟨cl105, Ar105, q105, S105, Nx105, H105, G105⟩ := id V_b102_104
                have hin105 : ¬ ((1 : Int32) < 0 ∨ cl105.slots.size ≤ ((1 : Int32)).toNatClampNeg) := inb_of S105 ⟨by decide, by decide⟩
                obtain ⟨T106, h106, X106, e106, W106, st106⟩ := stC X104 hx hZ e104 Ar105 (j := (1 : Int32)) hin105 (g := (mkF m 307 #[iv qz1, iv qz2, iv qz3, iv qz4] [(.int 100), (.int 1), (.ref b102), (.ref b102)])) rfl rfl (D d1_307)
                have V_b102_106 : Arv Z h106 b102 kc102 .char (6 : Int32) [(.int (97 : Int32)), (.int (100 : Int32)), (.int (0 : Int32)), (.int (0 : Int32)), (.int (0 : Int32)), (.int (0 : Int32))] (.int (0 : Int32)) := Arv.set Ar105 q105 S105 Nx105 H105 G105 (by decide) W106 1 rfl (Nat.le_of_ble_eq_true rfl)
                have N106 := Fr.snoc X106 N104 g_b102
                have O106 : Old Z n0 h106 := O104.wr W106 g_b102
                have K106 : Keep h0 h106 [] := K104.wr W106 (Or.inr sz_b102)
                refine zst 308 #[iv qz1, iv qz2, iv qz3, iv qz4] [(.ref b102)] st106 ?_
                refine Go.st (f' := (mkF m 309 #[iv qz1, iv qz2, iv qz3, iv qz4] [(.ref b102), (.ref b102)])) (fun _ k => XS.dup X106.here hx rfl (D d1_308) rfl rfl k) ?_
                refine zic 310 2 X106 hx (D d1_309) ?_
                refine zbp 312 109 X106 hx (D d1_310) ?_
                obtain ⟨cl107, Ar107, q107, S107, Nx107, H107, G107⟩ := id V_b102_106
                have hin107 : ¬ ((2 : Int32) < 0 ∨ cl107.slots.size ≤ ((2 : Int32)).toNatClampNeg) := inb_of S107 ⟨by decide, by decide⟩
                obtain ⟨T108, h108, X108, e108, W108, st108⟩ := stC X106 hx hZ e106 Ar107 (j := (2 : Int32)) hin107 (g := (mkF m 312 #[iv qz1, iv qz2, iv qz3, iv qz4] [(.int 109), (.int 2), (.ref b102), (.ref b102)])) rfl rfl (D d1_312)
                have V_b102_108 : Arv Z h108 b102 kc102 .char (6 : Int32) [(.int (97 : Int32)), (.int (100 : Int32)), (.int (109 : Int32)), (.int (0 : Int32)), (.int (0 : Int32)), (.int (0 : Int32))] (.int (0 : Int32)) := Arv.set Ar107 q107 S107 Nx107 H107 G107 (by decide) W108 2 rfl (Nat.le_of_ble_eq_true rfl)
                have N108 := Fr.snoc X108 N106 g_b102
                have O108 : Old Z n0 h108 := O106.wr W108 g_b102
                have K108 : Keep h0 h108 [] := K106.wr W108 (Or.inr sz_b102)
                refine zst 313 #[iv qz1, iv qz2, iv qz3, iv qz4] [(.ref b102)] st108 ?_
                refine Go.st (f' := (mkF m 314 #[iv qz1, iv qz2, iv qz3, iv qz4] [(.ref b102), (.ref b102)])) (fun _ k => XS.dup X108.here hx rfl (D d1_313) rfl rfl k) ?_
                refine zic 315 3 X108 hx (D d1_314) ?_
                refine zbp 317 105 X108 hx (D d1_315) ?_
                obtain ⟨cl109, Ar109, q109, S109, Nx109, H109, G109⟩ := id V_b102_108
                have hin109 : ¬ ((3 : Int32) < 0 ∨ cl109.slots.size ≤ ((3 : Int32)).toNatClampNeg) := inb_of S109 ⟨by decide, by decide⟩
                obtain ⟨T110, h110, X110, e110, W110, st110⟩ := stC X108 hx hZ e108 Ar109 (j := (3 : Int32)) hin109 (g := (mkF m 317 #[iv qz1, iv qz2, iv qz3, iv qz4] [(.int 105), (.int 3), (.ref b102), (.ref b102)])) rfl rfl (D d1_317)
                have V_b102_110 : Arv Z h110 b102 kc102 .char (6 : Int32) [(.int (97 : Int32)), (.int (100 : Int32)), (.int (109 : Int32)), (.int (105 : Int32)), (.int (0 : Int32)), (.int (0 : Int32))] (.int (0 : Int32)) := Arv.set Ar109 q109 S109 Nx109 H109 G109 (by decide) W110 3 rfl (Nat.le_of_ble_eq_true rfl)
                have N110 := Fr.snoc X110 N108 g_b102
                have O110 : Old Z n0 h110 := O108.wr W110 g_b102
                have K110 : Keep h0 h110 [] := K108.wr W110 (Or.inr sz_b102)
                refine zst 318 #[iv qz1, iv qz2, iv qz3, iv qz4] [(.ref b102)] st110 ?_
                refine Go.st (f' := (mkF m 319 #[iv qz1, iv qz2, iv qz3, iv qz4] [(.ref b102), (.ref b102)])) (fun _ k => XS.dup X110.here hx rfl (D d1_318) rfl rfl k) ?_
                refine zic 320 4 X110 hx (D d1_319) ?_
                refine zbp 322 110 X110 hx (D d1_320) ?_
                obtain ⟨cl111, Ar111, q111, S111, Nx111, H111, G111⟩ := id V_b102_110
                have hin111 : ¬ ((4 : Int32) < 0 ∨ cl111.slots.size ≤ ((4 : Int32)).toNatClampNeg) := inb_of S111 ⟨by decide, by decide⟩
                obtain ⟨T112, h112, X112, e112, W112, st112⟩ := stC X110 hx hZ e110 Ar111 (j := (4 : Int32)) hin111 (g := (mkF m 322 #[iv qz1, iv qz2, iv qz3, iv qz4] [(.int 110), (.int 4), (.ref b102), (.ref b102)])) rfl rfl (D d1_322)
                have V_b102_112 : Arv Z h112 b102 kc102 .char (6 : Int32) [(.int (97 : Int32)), (.int (100 : Int32)), (.int (109 : Int32)), (.int (105 : Int32)), (.int (110 : Int32)), (.int (0 : Int32))] (.int (0 : Int32)) := Arv.set Ar111 q111 S111 Nx111 H111 G111 (by decide) W112 4 rfl (Nat.le_of_ble_eq_true rfl)
                have N112 := Fr.snoc X112 N110 g_b102
                have O112 : Old Z n0 h112 := O110.wr W112 g_b102
                have K112 : Keep h0 h112 [] := K110.wr W112 (Or.inr sz_b102)
                refine zst 323 #[iv qz1, iv qz2, iv qz3, iv qz4] [(.ref b102)] st112 ?_
                refine Go.st (f' := (mkF m 324 #[iv qz1, iv qz2, iv qz3, iv qz4] [(.ref b102), (.ref b102)])) (fun _ k => XS.dup X112.here hx rfl (D d1_323) rfl rfl k) ?_
                refine zic 325 5 X112 hx (D d1_324) ?_
                refine zbp 327 120 X112 hx (D d1_325) ?_
                obtain ⟨cl113, Ar113, q113, S113, Nx113, H113, G113⟩ := id V_b102_112
                have hin113 : ¬ ((5 : Int32) < 0 ∨ cl113.slots.size ≤ ((5 : Int32)).toNatClampNeg) := inb_of S113 ⟨by decide, by decide⟩
                obtain ⟨T114, h114, X114, e114, W114, st114⟩ := stC X112 hx hZ e112 Ar113 (j := (5 : Int32)) hin113 (g := (mkF m 327 #[iv qz1, iv qz2, iv qz3, iv qz4] [(.int 120), (.int 5), (.ref b102), (.ref b102)])) rfl rfl (D d1_327)
                have V_b102_114 : Arv Z h114 b102 kc102 .char (6 : Int32) [(.int (97 : Int32)), (.int (100 : Int32)), (.int (109 : Int32)), (.int (105 : Int32)), (.int (110 : Int32)), (.int (120 : Int32))] (.int (0 : Int32)) := Arv.set Ar113 q113 S113 Nx113 H113 G113 (by decide) W114 5 rfl (Nat.le_of_ble_eq_true rfl)
                have N114 := Fr.snoc X114 N112 g_b102
                have O114 : Old Z n0 h114 := O112.wr W114 g_b102
                have K114 : Keep h0 h114 [] := K112.wr W114 (Or.inr sz_b102)
                refine zst 328 #[iv qz1, iv qz2, iv qz3, iv qz4] [(.ref b102)] st114 ?_
                refine Go.retV X114 hlk hx (t := (.array .char)) hret rfl (Or.inr (Or.inr (Or.inr (Or.inr ⟨rfl, rfl, rfl⟩)))) (D d1_328) e114 ?_ (by decide) (by decide)
                exact ⟨b102, kc102, (6 : Int32), _, rfl, N114, sz_b102, K114, V_b102_114, ⟨by decide, by show _ = ((6 : Nat) : Int); decide⟩, (ch_lit rfl (by decide) (ch_lit rfl (by decide) (ch_lit rfl (by decide) (ch_lit rfl (by decide) (ch_lit rfl (by decide) (ch_lit rfl (by decide) ch_nil)))))), by decide, by decide⟩
              · refine zcy 329 X0 hx (D d1_291) (feq cd101).2 ?_
                refine zic 330 3 X0 hx (D d1_329) ?_
                obtain ⟨T115, h115, kc115, X115, e115, E115, A115, st115⟩ := newP X0 hx hZ (ww hw 5 rfl) e0 (g := (mkF m 330 #[iv qz1, iv qz2, iv qz3, iv qz4] [(.int 3)])) rfl (D d1_330) rfl (by decide) (cap := 3) (by decide) (by decide) (by decide) (by decide)
                obtain ⟨b115, g115⟩ : ∃ z, z = h0.size := ⟨_, rfl⟩
                rw [← g115] at A115 st115
                have g_b115 : n0 ≤ b115 := Nat.le_trans (O0.1 ▸ O0.2.1) (Nat.le_of_eq g115.symm)
                have O115 : Old Z n0 h115 := O0.ext E115
                have sz_b115 : h0.size ≤ b115 := Nat.le_trans K0.1 (Nat.le_of_eq g115.symm)
                have K115 : Keep h0 h115 [] := K0.ext E115
                have V_b115 : Arv Z h115 b115 kc115 .char (3 : Int32) [(.int (0 : Int32)), (.int (0 : Int32)), (.int (0 : Int32))] (.int (0 : Int32)) := (Arv.new A115 (by decide)).pad (pad_rep [] (.int (0 : Int32)) 3)
                have lt_b115 := V_b115.lt
                refine zst 332 #[iv qz1, iv qz2, iv qz3, iv qz4] [(.ref b115)] st115 ?_
                refine Go.st (f' := (mkF m 333 #[iv qz1, iv qz2, iv qz3, iv qz4] [(.ref b115), (.ref b115)])) (fun _ k => XS.dup X115.here hx rfl (D d1_332) rfl rfl k) ?_
                refine zic 334 0 X115 hx (D d1_333) ?_
                refine zin 335 X115 hx (D d1_334) rfl ?_
                refine Go.st (f' := (mkF m 338 #[iv qz1, iv qz2, iv qz3, iv qz4] [(.int 255), (.int qz2), (.int 0), (.ref b115), (.ref b115)])) (fun _ k => XS.sipush X115.here hx rfl (D d1_335) k) ?_
                refine Go.st (f' := (mkF m 339 #[iv qz1, iv qz2, iv qz3, iv qz4] [(.int (qz2 &&& (255 : Int32))), (.int 0), (.ref b115), (.ref b115)])) (fun _ k => XS.iand X115.here hx rfl (D d1_338) rfl k) ?_
                refine Go.st (f' := (mkF m 340 #[iv qz1, iv qz2, iv qz3, iv qz4] [(.int ((qz2 &&& (255 : Int32)).toUInt32.toUInt16.toUInt32.toInt32)), (.int 0), (.ref b115), (.ref b115)])) (fun _ k => XS.i2c X115.here hx rfl (D d1_339) rfl k) ?_
                obtain ⟨cl116, Ar116, q116, S116, Nx116, H116, G116⟩ := id V_b115
                have hin116 : ¬ ((0 : Int32) < 0 ∨ cl116.slots.size ≤ ((0 : Int32)).toNatClampNeg) := inb_of S116 ⟨by decide, by decide⟩
                obtain ⟨T117, h117, X117, e117, W117, st117⟩ := stC X115 hx hZ e115 Ar116 (j := (0 : Int32)) hin116 (g := (mkF m 340 #[iv qz1, iv qz2, iv qz3, iv qz4] [(.int ((qz2 &&& (255 : Int32)).toUInt32.toUInt16.toUInt32.toInt32)), (.int 0), (.ref b115), (.ref b115)])) rfl rfl (D d1_340)
                have V_b115_117 : Arv Z h117 b115 kc115 .char (3 : Int32) [(.int (nar .char ((qz2 &&& (255 : Int32)).toUInt32.toUInt16.toUInt32.toInt32))), (.int (0 : Int32)), (.int (0 : Int32))] (.int (0 : Int32)) := Arv.set Ar116 q116 S116 Nx116 H116 G116 (fits_nar_char _) W117 0 rfl (Nat.le_of_ble_eq_true rfl)
                have N117 := Fr.snoc X117 N0 g_b115
                have O117 : Old Z n0 h117 := O115.wr W117 g_b115
                have K117 : Keep h0 h117 [] := K115.wr W117 (Or.inr sz_b115)
                refine zst 341 #[iv qz1, iv qz2, iv qz3, iv qz4] [(.ref b115)] st117 ?_
                refine Go.st (f' := (mkF m 342 #[iv qz1, iv qz2, iv qz3, iv qz4] [(.ref b115), (.ref b115)])) (fun _ k => XS.dup X117.here hx rfl (D d1_341) rfl rfl k) ?_
                refine zic 343 1 X117 hx (D d1_342) ?_
                refine zin 344 X117 hx (D d1_343) rfl ?_
                refine Go.st (f' := (mkF m 347 #[iv qz1, iv qz2, iv qz3, iv qz4] [(.int 255), (.int qz3), (.int 1), (.ref b115), (.ref b115)])) (fun _ k => XS.sipush X117.here hx rfl (D d1_344) k) ?_
                refine Go.st (f' := (mkF m 348 #[iv qz1, iv qz2, iv qz3, iv qz4] [(.int (qz3 &&& (255 : Int32))), (.int 1), (.ref b115), (.ref b115)])) (fun _ k => XS.iand X117.here hx rfl (D d1_347) rfl k) ?_
                refine Go.st (f' := (mkF m 349 #[iv qz1, iv qz2, iv qz3, iv qz4] [(.int ((qz3 &&& (255 : Int32)).toUInt32.toUInt16.toUInt32.toInt32)), (.int 1), (.ref b115), (.ref b115)])) (fun _ k => XS.i2c X117.here hx rfl (D d1_348) rfl k) ?_
                obtain ⟨cl118, Ar118, q118, S118, Nx118, H118, G118⟩ := id V_b115_117
                have hin118 : ¬ ((1 : Int32) < 0 ∨ cl118.slots.size ≤ ((1 : Int32)).toNatClampNeg) := inb_of S118 ⟨by decide, by decide⟩
                obtain ⟨T119, h119, X119, e119, W119, st119⟩ := stC X117 hx hZ e117 Ar118 (j := (1 : Int32)) hin118 (g := (mkF m 349 #[iv qz1, iv qz2, iv qz3, iv qz4] [(.int ((qz3 &&& (255 : Int32)).toUInt32.toUInt16.toUInt32.toInt32)), (.int 1), (.ref b115), (.ref b115)])) rfl rfl (D d1_349)
                have V_b115_119 : Arv Z h119 b115 kc115 .char (3 : Int32) [(.int (nar .char ((qz2 &&& (255 : Int32)).toUInt32.toUInt16.toUInt32.toInt32))), (.int (nar .char ((qz3 &&& (255 : Int32)).toUInt32.toUInt16.toUInt32.toInt32))), (.int (0 : Int32))] (.int (0 : Int32)) := Arv.set Ar118 q118 S118 Nx118 H118 G118 (fits_nar_char _) W119 1 rfl (Nat.le_of_ble_eq_true rfl)
                have N119 := Fr.snoc X119 N117 g_b115
                have O119 : Old Z n0 h119 := O117.wr W119 g_b115
                have K119 : Keep h0 h119 [] := K117.wr W119 (Or.inr sz_b115)
                refine zst 350 #[iv qz1, iv qz2, iv qz3, iv qz4] [(.ref b115)] st119 ?_
                refine Go.st (f' := (mkF m 351 #[iv qz1, iv qz2, iv qz3, iv qz4] [(.ref b115), (.ref b115)])) (fun _ k => XS.dup X119.here hx rfl (D d1_350) rfl rfl k) ?_
                refine zic 352 2 X119 hx (D d1_351) ?_
                refine zin 353 X119 hx (D d1_352) rfl ?_
                refine Go.st (f' := (mkF m 356 #[iv qz1, iv qz2, iv qz3, iv qz4] [(.int 255), (.int qz4), (.int 2), (.ref b115), (.ref b115)])) (fun _ k => XS.sipush X119.here hx rfl (D d1_353) k) ?_
                refine Go.st (f' := (mkF m 357 #[iv qz1, iv qz2, iv qz3, iv qz4] [(.int (qz4 &&& (255 : Int32))), (.int 2), (.ref b115), (.ref b115)])) (fun _ k => XS.iand X119.here hx rfl (D d1_356) rfl k) ?_
                refine Go.st (f' := (mkF m 358 #[iv qz1, iv qz2, iv qz3, iv qz4] [(.int ((qz4 &&& (255 : Int32)).toUInt32.toUInt16.toUInt32.toInt32)), (.int 2), (.ref b115), (.ref b115)])) (fun _ k => XS.i2c X119.here hx rfl (D d1_357) rfl k) ?_
                obtain ⟨cl120, Ar120, q120, S120, Nx120, H120, G120⟩ := id V_b115_119
                have hin120 : ¬ ((2 : Int32) < 0 ∨ cl120.slots.size ≤ ((2 : Int32)).toNatClampNeg) := inb_of S120 ⟨by decide, by decide⟩
                obtain ⟨T121, h121, X121, e121, W121, st121⟩ := stC X119 hx hZ e119 Ar120 (j := (2 : Int32)) hin120 (g := (mkF m 358 #[iv qz1, iv qz2, iv qz3, iv qz4] [(.int ((qz4 &&& (255 : Int32)).toUInt32.toUInt16.toUInt32.toInt32)), (.int 2), (.ref b115), (.ref b115)])) rfl rfl (D d1_358)
                have V_b115_121 : Arv Z h121 b115 kc115 .char (3 : Int32) [(.int (nar .char ((qz2 &&& (255 : Int32)).toUInt32.toUInt16.toUInt32.toInt32))), (.int (nar .char ((qz3 &&& (255 : Int32)).toUInt32.toUInt16.toUInt32.toInt32))), (.int (nar .char ((qz4 &&& (255 : Int32)).toUInt32.toUInt16.toUInt32.toInt32)))] (.int (0 : Int32)) := Arv.set Ar120 q120 S120 Nx120 H120 G120 (fits_nar_char _) W121 2 rfl (Nat.le_of_ble_eq_true rfl)
                have N121 := Fr.snoc X121 N119 g_b115
                have O121 : Old Z n0 h121 := O119.wr W121 g_b115
                have K121 : Keep h0 h121 [] := K119.wr W121 (Or.inr sz_b115)
                refine zst 359 #[iv qz1, iv qz2, iv qz3, iv qz4] [(.ref b115)] st121 ?_
                refine Go.retV X121 hlk hx (t := (.array .char)) hret rfl (Or.inr (Or.inr (Or.inr (Or.inr ⟨rfl, rfl, rfl⟩)))) (D d1_359) e121 ?_ (by decide) (by decide)
                exact ⟨b115, kc115, (3 : Int32), _, rfl, N121, sz_b115, K121, V_b115_121, ⟨by decide, by show _ = ((3 : Nat) : Int); decide⟩, (ch_lit rfl (own_ch _) (ch_lit rfl (own_ch _) (ch_lit rfl (own_ch _) ch_nil))), by decide, by decide⟩
def QL (n0 : Nat) : Option Value → Heap → List Loc → Prop := fun v h L => v = some (.int (1 : Int32)) ∧ Fr n0 L
theorem pd__IIII__C : parseMethodDescriptor "(IIII)[C" = some ⟨[.int, .int, .int, .int], some (.array .char)⟩ := by decide +kernel
theorem pd___C_V : parseMethodDescriptor "([C)V" = some ⟨[(.array .char)], none⟩ := by decide +kernel
theorem pd__Ljava_lang_String__Lcom_example_naysay_naysay_access_Role_ : parseMethodDescriptor "(Ljava/lang/String;)Lcom/example/naysay/naysay/access/Role;" = some ⟨[(.object "java/lang/String")], some (.object "com/example/naysay/naysay/access/Role")⟩ := by decide +kernel
set_option maxRecDepth 65536 in
set_option maxHeartbeats 40000000 in
theorem rm0 (l : Launch) (Z : State) (a0 : Array Value) (hw : ∀ d ∈ tables_1, d.before a0 Z = true) (ws : List Jvm.Cond) (p1 : Int32) (p2 : Int32) (p3 : Int32) (p4 : Int32) (p5 : Int32) (p6 : Int32) (la : Addr) (lk : ClassId) (wV : Addr) (w1_ : Addr) (w2_ : Addr) (w3_ : Addr) (kV : ClassId) (iC : Int32) (vF : Value) (lS1 : Addr) (lT1 : Addr) (lK1 : ClassId) (lS2 : Addr) (lT2 : Addr) (lK2 : ClassId) (lS3 : Addr) (lT3 : Addr) (lK3 : ClassId) (h0 : Heap) (n0 : Nat) (O0 : Old Z n0 h0) (LF : LamF Z la lk) (WW : World1 Z wV w1_ w2_ w3_ kV iC vF lS1 lT1 lK1 lS2 lT2 lK2 lS3 lT3 lK3) :
    ConW l Z EL x code maxLocals ret ws room_1 #[(.int p1), (.int p2), (.int p3), (.int p4), (.int p5), (.int p6)] h0 (QL n0) := by
  refine own_bodyW (plainFor_of_name pn_com_example_naysay_naysay_access_RoleNamedPinLaw) ?_
  intro p e s m below meth c s₁ hx hby hml hZ hown hnm hlk hret X0 e0 hh hS CR0
  have hEL := own_EL hw
  have wS := own_wS hw
  have N0 := Fr.nil n0
  have D := @hb _ _ hby
  refine Go.st (T' := s₁) (f' := (mkF m 0 #[iv p1, iv p2, iv p3, iv p4, iv p5, iv p6, .unset, .unset, .unset, .unset] [])) (fun _ k => castTop (by first | (simp [entryFrame, mkF, argsToLocals, Value.category, maxLocals]; done) | rfl) k) ?_
  have ⟨S_iC, nz_iC, S_vF, r_vF, S_wV, E_wV, S_w1_, E_w1_, S_w2_, E_w2_, S_w3_, E_w3_, V_wV, F_w1__label, E_lS1, F_lS1_coder, F_lS1_value, V_lT1, F_w2__label, E_lS2, F_lS2_coder, F_lS2_value, V_lT2, F_w3__label, E_lS3, F_lS3_coder, F_lS3_value, V_lT3⟩ := WW
  have lt_wV := E_wV.lt
  have lt_w1_ := E_w1_.lt
  have lt_w2_ := E_w2_.lt
  have lt_w3_ := E_w3_.lt
  have lt_lS1 := E_lS1.lt
  have lt_lT1 := V_lT1.lt
  have lt_lS2 := E_lS2.lt
  have lt_lT2 := V_lT2.lt
  have lt_lS3 := E_lS3.lt
  have lt_lT3 := V_lT3.lt
  refine zin 1 X0 hx (D at_0) rfl ?_
  refine Go.st (f' := (mkF m 3 #[iv p1, iv p2, iv p3, iv p4, iv p5, iv p6, .unset, .unset, .unset, .unset] [(.int 2147483647), (.int p1)])) (fun _ k => X0.ldcInt hx hown (mvT hZ (ww hw 0 rfl)) (g := (mkF m 1 #[iv p1, iv p2, iv p3, iv p4, iv p5, iv p6, .unset, .unset, .unset, .unset] [(.int p1)])) rfl (D at_1) _ k) ?_
  refine Go.st (f' := (mkF m 4 #[iv p1, iv p2, iv p3, iv p4, iv p5, iv p6, .unset, .unset, .unset, .unset] [(.int (p1 &&& (2147483647 : Int32)))])) (fun _ k => XS.iand X0.here hx rfl (D at_3) rfl k) ?_
  refine zbp 6 8 X0 hx (D at_4) ?_
  refine Go.st (f' := (mkF m 7 #[iv p1, iv p2, iv p3, iv p4, iv p5, iv p6, .unset, .unset, .unset, .unset] [(.int ((p1 &&& (2147483647 : Int32)) % (8 : Int32)))])) (fun _ k => iremM (g := (mkF m 6 #[.val (.int p1), .val (.int p2), .val (.int p3), .val (.int p4), .val (.int p5), .val (.int p6), .unset, .unset, .unset, .unset] [(.int (8 : Int32)), (.int (p1 &&& (2147483647 : Int32)))])) X0 hx rfl (D at_6) rfl (by decide) k) ?_
  obtain ⟨yy1, hyy1⟩ : ∃ z, z = ((p1 &&& (2147483647 : Int32)) % (8 : Int32)) := ⟨_, rfl⟩
  rw [← hyy1]
  refine zsl 9 #[iv p1, iv p2, iv p3, iv p4, iv p5, iv p6, iv yy1, .unset, .unset, .unset] X0 hx (D at_7) ?_
  refine zil 11 X0 hx (D at_9) rfl ?_
  refine zin 12 X0 hx (D at_11) rfl ?_
  refine zil 14 X0 hx (D at_12) rfl ?_
  refine zil 16 X0 hx (D at_14) rfl ?_
  refine gS 19 0 1 14 X0 N0 hx hZ (y := mq12) hown hml (ww hw 1 rfl) (ww hw 2 rfl) (ww hw 3 rfl) (rmB l Z a0 hw [] yy1 p4 p5 p6 h0 n0 O0) (ww hw 4 rfl) e0 [(.int yy1), (.int p4), (.int p5), (.int p6)] [] (lenOf pd__IIII__C rfl) (D at_16) ?_
  rintro T2 L2 M2 _ X2 uu2 ⟨b2, kb2, n2, cs2, rfl, Nq2, zq2, kq2, vq2, lc2, hc2, hn2, h142⟩
  have N2 := uu2 Nq2
  have ne_wV_b2 : wV ≠ b2 := Nat.ne_of_lt (Nat.lt_of_lt_of_le lt_wV (Nat.le_trans O0.2.1 zq2))
  have ne_w1__b2 : w1_ ≠ b2 := Nat.ne_of_lt (Nat.lt_of_lt_of_le lt_w1_ (Nat.le_trans O0.2.1 zq2))
  have ne_w2__b2 : w2_ ≠ b2 := Nat.ne_of_lt (Nat.lt_of_lt_of_le lt_w2_ (Nat.le_trans O0.2.1 zq2))
  have ne_w3__b2 : w3_ ≠ b2 := Nat.ne_of_lt (Nat.lt_of_lt_of_le lt_w3_ (Nat.le_trans O0.2.1 zq2))
  have ne_lS1_b2 : lS1 ≠ b2 := Nat.ne_of_lt (Nat.lt_of_lt_of_le lt_lS1 (Nat.le_trans O0.2.1 zq2))
  have ne_lT1_b2 : lT1 ≠ b2 := Nat.ne_of_lt (Nat.lt_of_lt_of_le lt_lT1 (Nat.le_trans O0.2.1 zq2))
  have ne_lS2_b2 : lS2 ≠ b2 := Nat.ne_of_lt (Nat.lt_of_lt_of_le lt_lS2 (Nat.le_trans O0.2.1 zq2))
  have ne_lT2_b2 : lT2 ≠ b2 := Nat.ne_of_lt (Nat.lt_of_lt_of_le lt_lT2 (Nat.le_trans O0.2.1 zq2))
  have ne_lS3_b2 : lS3 ≠ b2 := Nat.ne_of_lt (Nat.lt_of_lt_of_le lt_lS3 (Nat.le_trans O0.2.1 zq2))
  have ne_lT3_b2 : lT3 ≠ b2 := Nat.ne_of_lt (Nat.lt_of_lt_of_le lt_lT3 (Nat.le_trans O0.2.1 zq2))
  have g_b2 : n0 ≤ b2 := Nat.le_trans (O0.1 ▸ O0.2.1) zq2
  have sn_b2 : Safe Z EL s.vm h0 b2 := Safe.new zq2
  have O2 : Old Z n0 T2.heap := O0.keep kq2 all0
  have CR2 : CHr Z EL s.vm h0 s.vm T2.heap := CR0.trans (CHr.keep kq2 sf0 CR0.1)
  have lt_b2 := vq2.lt
  refine zsk [(.ref b2)] ?_
  refine zrl 21 #[iv p1, iv p2, iv p3, iv p4, iv p5, iv p6, iv yy1, rv b2, .unset, .unset] X2 hx (D at_19) rfl ?_
  refine zin 22 X2 hx (D at_21) rfl ?_
  refine zic 23 3 X2 hx (D at_22) ?_
  refine Go.st (f' := (mkF m 24 #[iv p1, iv p2, iv p3, iv p4, iv p5, iv p6, iv yy1, rv b2, .unset, .unset] [(.int ((p1.toUInt32 >>> ((3 : Int32) &&& 31).toUInt32).toInt32))])) (fun _ k => XS.iushr X2.here hx rfl (D at_23) rfl k) ?_
  refine zic 25 1 X2 hx (D at_24) ?_
  refine Go.st (f' := (mkF m 26 #[iv p1, iv p2, iv p3, iv p4, iv p5, iv p6, iv yy1, rv b2, .unset, .unset] [(.int (((p1.toUInt32 >>> ((3 : Int32) &&& 31).toUInt32).toInt32) &&& (1 : Int32)))])) (fun _ k => XS.iand X2.here hx rfl (D at_25) rfl k) ?_
  by_cases cd3 : (((p1.toUInt32 >>> ((3 : Int32) &&& 31).toUInt32).toInt32) &&& (1 : Int32)) = (0 : Int32)
  · refine zfy 50 X2 hx (D at_26) ((if0 _ _).trans (teq cd3).1) ?_
    obtain ⟨T4, h4, X4, e4, E4, A4, D4, -, st4⟩ := newO X2 hx hZ hown (ww hw 6 rfl) (ww hw 7 rfl) (ww hw 8 rfl) rfl (g := (mkF m 50 #[iv p1, iv p2, iv p3, iv p4, iv p5, iv p6, iv yy1, rv b2, .unset, .unset] [])) rfl (D at_50) (by decide) (by decide)
    obtain ⟨b4, g4⟩ : ∃ z, z = T2.heap.size := ⟨_, rfl⟩
    rw [← g4] at A4 D4 st4
    have ne_b2_b4 : b2 ≠ b4 := Nat.ne_of_lt (Nat.lt_of_lt_of_eq lt_b2 g4.symm)
    have ne_wV_b4 : wV ≠ b4 := Nat.ne_of_lt (Nat.lt_of_lt_of_le lt_wV (Nat.le_trans O2.2.1 (Nat.le_of_eq g4.symm)))
    have ne_w1__b4 : w1_ ≠ b4 := Nat.ne_of_lt (Nat.lt_of_lt_of_le lt_w1_ (Nat.le_trans O2.2.1 (Nat.le_of_eq g4.symm)))
    have ne_w2__b4 : w2_ ≠ b4 := Nat.ne_of_lt (Nat.lt_of_lt_of_le lt_w2_ (Nat.le_trans O2.2.1 (Nat.le_of_eq g4.symm)))
    have ne_w3__b4 : w3_ ≠ b4 := Nat.ne_of_lt (Nat.lt_of_lt_of_le lt_w3_ (Nat.le_trans O2.2.1 (Nat.le_of_eq g4.symm)))
    have ne_lS1_b4 : lS1 ≠ b4 := Nat.ne_of_lt (Nat.lt_of_lt_of_le lt_lS1 (Nat.le_trans O2.2.1 (Nat.le_of_eq g4.symm)))
    have ne_lT1_b4 : lT1 ≠ b4 := Nat.ne_of_lt (Nat.lt_of_lt_of_le lt_lT1 (Nat.le_trans O2.2.1 (Nat.le_of_eq g4.symm)))
    have ne_lS2_b4 : lS2 ≠ b4 := Nat.ne_of_lt (Nat.lt_of_lt_of_le lt_lS2 (Nat.le_trans O2.2.1 (Nat.le_of_eq g4.symm)))
    have ne_lT2_b4 : lT2 ≠ b4 := Nat.ne_of_lt (Nat.lt_of_lt_of_le lt_lT2 (Nat.le_trans O2.2.1 (Nat.le_of_eq g4.symm)))
    have ne_lS3_b4 : lS3 ≠ b4 := Nat.ne_of_lt (Nat.lt_of_lt_of_le lt_lS3 (Nat.le_trans O2.2.1 (Nat.le_of_eq g4.symm)))
    have ne_lT3_b4 : lT3 ≠ b4 := Nat.ne_of_lt (Nat.lt_of_lt_of_le lt_lT3 (Nat.le_trans O2.2.1 (Nat.le_of_eq g4.symm)))
    have g_b4 : n0 ≤ b4 := Nat.le_trans (O2.1 ▸ O2.2.1) (Nat.le_of_eq g4.symm)
    have O4 : Old Z n0 h4 := O2.ext E4
    have CR4 : CHr Z EL s.vm h0 s.vm h4 := CR2.trans (CHr.ext E4 CR2.1)
    have sf_b4 : Safe Z EL s.vm h4 b4 := (Safe.new (Nat.le_of_eq g4.symm)).ext E4 CR2.1
    have lt_b4 := A4.lt
    have F_coder_b4 : Fld Z h4 b4 "java/lang/String" "coder" "B" (.int (0 : Int32)) := D4 (Or.inr (ww hw 32 rfl)) (ty := .byte) (by decide)
    have F_value_b4 : Fld Z h4 b4 "java/lang/String" "value" "[B" .null := D4 (Or.inr (ww hw 34 rfl)) (ty := (.array .byte)) (by decide)
    refine zst 53 #[iv p1, iv p2, iv p3, iv p4, iv p5, iv p6, iv yy1, rv b2, .unset, .unset] [(.ref b4)] st4 ?_
    refine Go.st (f' := (mkF m 54 #[iv p1, iv p2, iv p3, iv p4, iv p5, iv p6, iv yy1, rv b2, .unset, .unset] [(.ref b4), (.ref b4)])) (fun _ k => XS.dup X4.here hx rfl (D at_53) rfl rfl k) ?_
    refine zal 56 X4 hx (D at_54) rfl rfl ?_
    have ft6 := (vq2.ext E4)
    obtain ⟨_, _, ⟨T5, L5, kk5, nn5⟩, -, X5, ⟨Lc5, hQ5, lq5, yq5, zz5⟩, st5⟩ := X4.specialBack hx (y := mq4) rfl hown (mvT hZ (ww hw 9 rfl)) (mvT hZ (ww hw 10 rfl)) (mvT hZ (ww hw 11 rfl)) (by decide) (own_back (W := 1) (nc1 l Z a0 hw [] b4 b2 kb2 n2 cs2 wV w1_ w2_ w3_ kV iC vF lS1 lT1 lK1 lS2 lT2 lK2 lS3 lT3 lK3 h4 n0 O4 lc2 hc2 hn2 h142 g_b4 (Ne.symm ne_b2_b4) A4 F_coder_b4 F_value_b4 ft6 WW) hZ (ww hw 11 rfl) (ww hw 8 rfl) (by decide) (by decide)) (g := (mkF m 56 #[iv p1, iv p2, iv p3, iv p4, iv p5, iv p6, iv yy1, rv b2, .unset, .unset] [(.ref b2), (.ref b4), (.ref b4)])) rfl (by rw [hml]; rfl) (Steps.refl _) (a := b4) (argsL := [(.ref b2)]) (rest := [(.ref b4)]) (lenOf pd___C_V rfl) rfl (by show 2 * 0 + _ ≤ _; exact Nat.le_of_eq rfl) (D at_56) (fun _ _ => ⟨rfl, e4, (by decide : 2 + 1 ≤ _), (by decide : 18 + 14 ≤ _)⟩)
    dsimp only [Pt.U, Pt.locs, Pt.cells, Pt.slots] at X5 lq5 yq5 zz5 st5 hQ5
    subst lq5 yq5 zz5
    obtain ⟨rfl, Nq5, kq5, eq5, cq5, tt5, kt5, zq5, fq5, vq5⟩ := hQ5
    have N5 := Fr.app N2 Nq5
    have ft7 := (Nat.lt_of_lt_of_le lt_b2 E4.1)
    have ne_b2_tt5 : b2 ≠ tt5 := Nat.ne_of_lt (Nat.lt_of_lt_of_le ft7 zq5)
    have ne_b4_tt5 : b4 ≠ tt5 := Nat.ne_of_lt (Nat.lt_of_lt_of_le lt_b4 zq5)
    have ne_wV_tt5 : wV ≠ tt5 := Nat.ne_of_lt (Nat.lt_of_lt_of_le lt_wV (Nat.le_trans O4.2.1 zq5))
    have ne_w1__tt5 : w1_ ≠ tt5 := Nat.ne_of_lt (Nat.lt_of_lt_of_le lt_w1_ (Nat.le_trans O4.2.1 zq5))
    have ne_w2__tt5 : w2_ ≠ tt5 := Nat.ne_of_lt (Nat.lt_of_lt_of_le lt_w2_ (Nat.le_trans O4.2.1 zq5))
    have ne_w3__tt5 : w3_ ≠ tt5 := Nat.ne_of_lt (Nat.lt_of_lt_of_le lt_w3_ (Nat.le_trans O4.2.1 zq5))
    have ne_lS1_tt5 : lS1 ≠ tt5 := Nat.ne_of_lt (Nat.lt_of_lt_of_le lt_lS1 (Nat.le_trans O4.2.1 zq5))
    have ne_lT1_tt5 : lT1 ≠ tt5 := Nat.ne_of_lt (Nat.lt_of_lt_of_le lt_lT1 (Nat.le_trans O4.2.1 zq5))
    have ne_lS2_tt5 : lS2 ≠ tt5 := Nat.ne_of_lt (Nat.lt_of_lt_of_le lt_lS2 (Nat.le_trans O4.2.1 zq5))
    have ne_lT2_tt5 : lT2 ≠ tt5 := Nat.ne_of_lt (Nat.lt_of_lt_of_le lt_lT2 (Nat.le_trans O4.2.1 zq5))
    have ne_lS3_tt5 : lS3 ≠ tt5 := Nat.ne_of_lt (Nat.lt_of_lt_of_le lt_lS3 (Nat.le_trans O4.2.1 zq5))
    have ne_lT3_tt5 : lT3 ≠ tt5 := Nat.ne_of_lt (Nat.lt_of_lt_of_le lt_lT3 (Nat.le_trans O4.2.1 zq5))
    have g_tt5 : n0 ≤ tt5 := Nat.le_trans (O4.1 ▸ O4.2.1) zq5
    have sn_tt5 : Safe Z EL s.vm h4 tt5 := Safe.new zq5
    have O5 : Old Z n0 T5.heap := O4.keep kq5 (allS g_b4 all0)
    have CR5 : CHr Z EL s.vm h0 s.vm T5.heap := CR4.trans (CHr.keep kq5 (sfS sf_b4 sf0) CR4.1)
    have lt_tt5 := vq5.lt
    refine Go.tr (f' := (mkF m 59 #[iv p1, iv p2, iv p3, iv p4, iv p5, iv p6, iv yy1, rv b2, .unset, .unset] [(.ref b4)])) st5 ?_
    refine zrl 61 #[iv p1, iv p2, iv p3, iv p4, iv p5, iv p6, iv yy1, rv b2, rv b4, .unset] X5 hx (D at_59) rfl ?_
    have lv8a := hc2
    have lv8c : Ln n2 cs2 := lc2
    have lv8b : Ln n2 (cs2.map byt) := ⟨lv8c.1, by rw [byt_len]; exact lv8c.2⟩
    refine zal 63 X5 hx (D at_61) rfl rfl ?_
    obtain ⟨_, _, ⟨T9, L9, kk9, nn9⟩, -, X9, ⟨Lc9, hQ9, lq9, yq9, zz9⟩, st9⟩ := Jvm.LawKit.callS X5 hx (y := mq10) hown (mvT hZ (ww hw 35 rfl)) (mvT hZ (ww hw 36 rfl)) (mvT hZ (ww hw 37 rfl)) (mvT hZ (ww hw 38 rfl)) (by decide) (own_back (W := 0) (rmN l Z a0 hw [] b4 tt5 kt5 n2 (cs2.map byt) la lk wV w1_ w2_ w3_ kV iC vF lS1 lT1 lK1 lS2 lT2 lK2 lS3 lT3 lK3 T5.heap n0 O5 lv8b (byt_iv lv8a) eq5 cq5 fq5 vq5 LF WW) hZ (ww hw 38 rfl) (ww hw 37 rfl) (by decide) (by decide)) (g := (mkF m 63 #[iv p1, iv p2, iv p3, iv p4, iv p5, iv p6, iv yy1, rv b2, rv b4, .unset] [(.ref b4)])) rfl (by rw [hml]; rfl) (argsL := [(.ref b4)]) (rest := []) (lenOf pd__Ljava_lang_String__Lcom_example_naysay_naysay_access_Role_ rfl) rfl (by show 2 * 0 + _ ≤ _; exact Nat.le_of_eq rfl) (D at_63) (fun _ _ => ⟨rfl, rfl, (by decide : 3 + 1 ≤ _), (by decide : 32 + 3 ≤ _)⟩)
    dsimp only [Pt.U, Pt.locs, Pt.cells, Pt.slots] at X9 lq9 yq9 zz9 st9 hQ9
    subst lq9 yq9 zz9
    obtain ⟨dd9, Nq9, kq9⟩ := hQ9
    have N9 := Fr.app N5 Nq9
    have O9 : Old Z n0 T9.heap := O5.keep kq9 all0
    have CR9 : CHr Z EL s.vm h0 s.vm T9.heap := CR5.trans (CHr.keep kq9 sf0 CR5.1)
    rcases dd9 with ⟨rfl, q09⟩ | ⟨rfl, q09, q19⟩ | ⟨rfl, q09, q19, q29⟩ | ⟨rfl, q09, q19, q29⟩
    · refine Go.st (f' := (mkF m 66 #[iv p1, iv p2, iv p3, iv p4, iv p5, iv p6, iv yy1, rv b2, rv b4, .unset] [(.ref w1_)])) (fun _ k => st9 _ k) ?_
      refine zrl 68 #[iv p1, iv p2, iv p3, iv p4, iv p5, iv p6, iv yy1, rv b2, rv b4, rv w1_] X9 hx (D at_66) rfl ?_
      refine zal 70 X9 hx (D at_68) rfl rfl ?_
      refine zal 72 X9 hx (D at_70) rfl rfl ?_
      have ft11 := (eq5.keep kq9)
      have ft12 := (cq5.keep kq9 nin0)
      have ft13 := (fq5.keep kq9 nin0)
      have ft14 := (vq5.keep kq9 nin0)
      obtain ⟨_, _, ⟨T10, L10, kk10, nn10⟩, -, Xw10, hSw10, hgw10, ⟨Lc10, hQ10, lq10, yq10, zz10, crw10⟩, st10⟩ := callSS X9 hx (y := mq11) hown (mvT hZ (ww hw 85 rfl)) (mvT hZ (ww hw 86 rfl)) (mvT hZ (ww hw 3 rfl)) (mvT hZ (ww hw 87 rfl)) (by decide) (own_backW (W := 1) (rmX l Z a0 hw [] b4 tt5 kt5 n2 (cs2.map byt) wV w1_ w2_ w3_ kV iC vF lS1 lT1 lK1 lS2 lT2 lK2 lS3 lT3 lK3 T9.heap n0 O9 lv8b (byt_iv lv8a) ft11 ft12 ft13 ft14 WW) hZ (ww hw 87 rfl) (ww hw 3 rfl) (by decide) (by decide) hEL CR9.1) (g := (mkF m 72 #[iv p1, iv p2, iv p3, iv p4, iv p5, iv p6, iv yy1, rv b2, rv b4, rv w1_] [(.ref b4), (.ref w1_)])) rfl (by rw [hml]; rfl) (argsL := [(.ref b4)]) (rest := [(.ref w1_)]) (lenOf pd__Ljava_lang_String__Lcom_example_naysay_naysay_access_Role_ rfl) rfl (by show 2 * 0 + _ ≤ _; exact Nat.le_of_eq rfl) (D at_72) (fun _ _ => ⟨rfl, rfl, (by decide : 4 + 6 ≤ _), (by decide : 35 + 116 ≤ _)⟩)
      dsimp only [Pt.U, Pt.locs, Pt.cells, Pt.slots] at Xw10 lq10 yq10 zz10 st10 hQ10 hSw10 hgw10 crw10
      subst lq10 yq10 zz10
      obtain ⟨X10, hS10, hZ10, hown10⟩ := rebS hS (Nat.zero_le _) Xw10 hSw10 hgw10 hZ hown
      obtain ⟨dd10, Nq10, kq10⟩ := hQ10
      have N10 := Fr.app N9 Nq10
      have ft15 := (Safe.keep kq9 sf0 CR5.1 (Safe.keep kq5 (sfS sf_b4 sf0) CR4.1 (Safe.ext E4 CR2.1 (Safe.keep kq2 sf0 CR0.1 sn_b2))))
      have ft16 := (Nat.lt_of_lt_of_le (Nat.lt_of_lt_of_le ft7 kq5.1) kq9.1)
      have ft17 := (Safe.keep kq9 sf0 CR5.1 (Safe.keep kq5 (sfS sf_b4 sf0) CR4.1 sf_b4))
      have ft18 := (Nat.lt_of_lt_of_le (Nat.lt_of_lt_of_le lt_b4 kq5.1) kq9.1)
      have ft19 := (Safe.keep kq9 sf0 CR5.1 (Safe.keep kq5 (sfS sf_b4 sf0) CR4.1 sn_tt5))
      have ft20 := (Nat.lt_of_lt_of_le lt_tt5 kq9.1)
      have O10 : Old Z n0 T10.heap := O9.keep kq10 all0
      have hk10 : T10.heap.size ≤ T10.heap.size := Nat.le_refl _
      have sf21 := crw10.safe ft16 ft15
      have sf22 := crw10.safe ft18 ft17
      have sf23 := crw10.safe ft20 ft19
      have CR10 := CR9.trans crw10
      rcases dd10 with ⟨rfl, q010⟩ | ⟨rfl, q010, q110⟩ | ⟨rfl, q010, q110, q210⟩ | ⟨rfl, q010, q110, q210⟩
      · refine Go.tr (f' := (mkF m 75 #[iv p1, iv p2, iv p3, iv p4, iv p5, iv p6, iv yy1, rv b2, rv b4, rv w1_] [(.ref w1_), (.ref w1_)])) st10 ?_
        refine Go.st (f' := (mkF m 78 #[iv p1, iv p2, iv p3, iv p4, iv p5, iv p6, iv yy1, rv b2, rv b4, rv w1_] [])) (fun _ k => Jvm.RoadKit.acmp (g := (mkF m 75 #[iv p1, iv p2, iv p3, iv p4, iv p5, iv p6, iv yy1, rv b2, rv b4, rv w1_] [(.ref w1_), (.ref w1_)])) X10 hx rfl rfl rfl (pc0 := 75) (pc' := 78) (same := true) rfl (D at_75) rfl (decide_eq_true rfl) (by decide) (by decide) k) ?_
        refine zic 79 1 X10 hx (D at_78) ?_
        refine zgo 83 X10 hx (D at_79) ?_
        refine GoW.retB X10 hlk hx (t := .boolean) hret (by simp) (D at_83) rfl hS10 hk10 hZ10 hEL CR10 hh ?_ (by decide) (by decide)
        exact ⟨rfl, N10⟩
      · exact absurd q09 q010
      · exact absurd q09 q010
      · exact absurd q09 q010
    · refine Go.st (f' := (mkF m 66 #[iv p1, iv p2, iv p3, iv p4, iv p5, iv p6, iv yy1, rv b2, rv b4, .unset] [(.ref w2_)])) (fun _ k => st9 _ k) ?_
      refine zrl 68 #[iv p1, iv p2, iv p3, iv p4, iv p5, iv p6, iv yy1, rv b2, rv b4, rv w2_] X9 hx (D at_66) rfl ?_
      refine zal 70 X9 hx (D at_68) rfl rfl ?_
      refine zal 72 X9 hx (D at_70) rfl rfl ?_
      have ft25 := (eq5.keep kq9)
      have ft26 := (cq5.keep kq9 nin0)
      have ft27 := (fq5.keep kq9 nin0)
      have ft28 := (vq5.keep kq9 nin0)
      obtain ⟨_, _, ⟨T24, L24, kk24, nn24⟩, -, Xw24, hSw24, hgw24, ⟨Lc24, hQ24, lq24, yq24, zz24, crw24⟩, st24⟩ := callSS X9 hx (y := mq11) hown (mvT hZ (ww hw 85 rfl)) (mvT hZ (ww hw 86 rfl)) (mvT hZ (ww hw 3 rfl)) (mvT hZ (ww hw 87 rfl)) (by decide) (own_backW (W := 1) (rmX l Z a0 hw [] b4 tt5 kt5 n2 (cs2.map byt) wV w1_ w2_ w3_ kV iC vF lS1 lT1 lK1 lS2 lT2 lK2 lS3 lT3 lK3 T9.heap n0 O9 lv8b (byt_iv lv8a) ft25 ft26 ft27 ft28 WW) hZ (ww hw 87 rfl) (ww hw 3 rfl) (by decide) (by decide) hEL CR9.1) (g := (mkF m 72 #[iv p1, iv p2, iv p3, iv p4, iv p5, iv p6, iv yy1, rv b2, rv b4, rv w2_] [(.ref b4), (.ref w2_)])) rfl (by rw [hml]; rfl) (argsL := [(.ref b4)]) (rest := [(.ref w2_)]) (lenOf pd__Ljava_lang_String__Lcom_example_naysay_naysay_access_Role_ rfl) rfl (by show 2 * 0 + _ ≤ _; exact Nat.le_of_eq rfl) (D at_72) (fun _ _ => ⟨rfl, rfl, (by decide : 4 + 6 ≤ _), (by decide : 35 + 116 ≤ _)⟩)
      dsimp only [Pt.U, Pt.locs, Pt.cells, Pt.slots] at Xw24 lq24 yq24 zz24 st24 hQ24 hSw24 hgw24 crw24
      subst lq24 yq24 zz24
      obtain ⟨X24, hS24, hZ24, hown24⟩ := rebS hS (Nat.zero_le _) Xw24 hSw24 hgw24 hZ hown
      obtain ⟨dd24, Nq24, kq24⟩ := hQ24
      have N24 := Fr.app N9 Nq24
      have ft29 := (Safe.keep kq9 sf0 CR5.1 (Safe.keep kq5 (sfS sf_b4 sf0) CR4.1 (Safe.ext E4 CR2.1 (Safe.keep kq2 sf0 CR0.1 sn_b2))))
      have ft30 := (Nat.lt_of_lt_of_le (Nat.lt_of_lt_of_le ft7 kq5.1) kq9.1)
      have ft31 := (Safe.keep kq9 sf0 CR5.1 (Safe.keep kq5 (sfS sf_b4 sf0) CR4.1 sf_b4))
      have ft32 := (Nat.lt_of_lt_of_le (Nat.lt_of_lt_of_le lt_b4 kq5.1) kq9.1)
      have ft33 := (Safe.keep kq9 sf0 CR5.1 (Safe.keep kq5 (sfS sf_b4 sf0) CR4.1 sn_tt5))
      have ft34 := (Nat.lt_of_lt_of_le lt_tt5 kq9.1)
      have O24 : Old Z n0 T24.heap := O9.keep kq24 all0
      have hk24 : T24.heap.size ≤ T24.heap.size := Nat.le_refl _
      have sf35 := crw24.safe ft30 ft29
      have sf36 := crw24.safe ft32 ft31
      have sf37 := crw24.safe ft34 ft33
      have CR24 := CR9.trans crw24
      rcases dd24 with ⟨rfl, q024⟩ | ⟨rfl, q024, q124⟩ | ⟨rfl, q024, q124, q224⟩ | ⟨rfl, q024, q124, q224⟩
      · exact absurd q024 q09
      · refine Go.tr (f' := (mkF m 75 #[iv p1, iv p2, iv p3, iv p4, iv p5, iv p6, iv yy1, rv b2, rv b4, rv w2_] [(.ref w2_), (.ref w2_)])) st24 ?_
        refine Go.st (f' := (mkF m 78 #[iv p1, iv p2, iv p3, iv p4, iv p5, iv p6, iv yy1, rv b2, rv b4, rv w2_] [])) (fun _ k => Jvm.RoadKit.acmp (g := (mkF m 75 #[iv p1, iv p2, iv p3, iv p4, iv p5, iv p6, iv yy1, rv b2, rv b4, rv w2_] [(.ref w2_), (.ref w2_)])) X24 hx rfl rfl rfl (pc0 := 75) (pc' := 78) (same := true) rfl (D at_75) rfl (decide_eq_true rfl) (by decide) (by decide) k) ?_
        refine zic 79 1 X24 hx (D at_78) ?_
        refine zgo 83 X24 hx (D at_79) ?_
        refine GoW.retB X24 hlk hx (t := .boolean) hret (by simp) (D at_83) rfl hS24 hk24 hZ24 hEL CR24 hh ?_ (by decide) (by decide)
        exact ⟨rfl, N24⟩
      · exact absurd q19 q124
      · exact absurd q19 q124
    · refine Go.st (f' := (mkF m 66 #[iv p1, iv p2, iv p3, iv p4, iv p5, iv p6, iv yy1, rv b2, rv b4, .unset] [(.ref w3_)])) (fun _ k => st9 _ k) ?_
      refine zrl 68 #[iv p1, iv p2, iv p3, iv p4, iv p5, iv p6, iv yy1, rv b2, rv b4, rv w3_] X9 hx (D at_66) rfl ?_
      refine zal 70 X9 hx (D at_68) rfl rfl ?_
      refine zal 72 X9 hx (D at_70) rfl rfl ?_
      have ft39 := (eq5.keep kq9)
      have ft40 := (cq5.keep kq9 nin0)
      have ft41 := (fq5.keep kq9 nin0)
      have ft42 := (vq5.keep kq9 nin0)
      obtain ⟨_, _, ⟨T38, L38, kk38, nn38⟩, -, Xw38, hSw38, hgw38, ⟨Lc38, hQ38, lq38, yq38, zz38, crw38⟩, st38⟩ := callSS X9 hx (y := mq11) hown (mvT hZ (ww hw 85 rfl)) (mvT hZ (ww hw 86 rfl)) (mvT hZ (ww hw 3 rfl)) (mvT hZ (ww hw 87 rfl)) (by decide) (own_backW (W := 1) (rmX l Z a0 hw [] b4 tt5 kt5 n2 (cs2.map byt) wV w1_ w2_ w3_ kV iC vF lS1 lT1 lK1 lS2 lT2 lK2 lS3 lT3 lK3 T9.heap n0 O9 lv8b (byt_iv lv8a) ft39 ft40 ft41 ft42 WW) hZ (ww hw 87 rfl) (ww hw 3 rfl) (by decide) (by decide) hEL CR9.1) (g := (mkF m 72 #[iv p1, iv p2, iv p3, iv p4, iv p5, iv p6, iv yy1, rv b2, rv b4, rv w3_] [(.ref b4), (.ref w3_)])) rfl (by rw [hml]; rfl) (argsL := [(.ref b4)]) (rest := [(.ref w3_)]) (lenOf pd__Ljava_lang_String__Lcom_example_naysay_naysay_access_Role_ rfl) rfl (by show 2 * 0 + _ ≤ _; exact Nat.le_of_eq rfl) (D at_72) (fun _ _ => ⟨rfl, rfl, (by decide : 4 + 6 ≤ _), (by decide : 35 + 116 ≤ _)⟩)
      dsimp only [Pt.U, Pt.locs, Pt.cells, Pt.slots] at Xw38 lq38 yq38 zz38 st38 hQ38 hSw38 hgw38 crw38
      subst lq38 yq38 zz38
      obtain ⟨X38, hS38, hZ38, hown38⟩ := rebS hS (Nat.zero_le _) Xw38 hSw38 hgw38 hZ hown
      obtain ⟨dd38, Nq38, kq38⟩ := hQ38
      have N38 := Fr.app N9 Nq38
      have ft43 := (Safe.keep kq9 sf0 CR5.1 (Safe.keep kq5 (sfS sf_b4 sf0) CR4.1 (Safe.ext E4 CR2.1 (Safe.keep kq2 sf0 CR0.1 sn_b2))))
      have ft44 := (Nat.lt_of_lt_of_le (Nat.lt_of_lt_of_le ft7 kq5.1) kq9.1)
      have ft45 := (Safe.keep kq9 sf0 CR5.1 (Safe.keep kq5 (sfS sf_b4 sf0) CR4.1 sf_b4))
      have ft46 := (Nat.lt_of_lt_of_le (Nat.lt_of_lt_of_le lt_b4 kq5.1) kq9.1)
      have ft47 := (Safe.keep kq9 sf0 CR5.1 (Safe.keep kq5 (sfS sf_b4 sf0) CR4.1 sn_tt5))
      have ft48 := (Nat.lt_of_lt_of_le lt_tt5 kq9.1)
      have O38 : Old Z n0 T38.heap := O9.keep kq38 all0
      have hk38 : T38.heap.size ≤ T38.heap.size := Nat.le_refl _
      have sf49 := crw38.safe ft44 ft43
      have sf50 := crw38.safe ft46 ft45
      have sf51 := crw38.safe ft48 ft47
      have CR38 := CR9.trans crw38
      rcases dd38 with ⟨rfl, q038⟩ | ⟨rfl, q038, q138⟩ | ⟨rfl, q038, q138, q238⟩ | ⟨rfl, q038, q138, q238⟩
      · exact absurd q038 q09
      · exact absurd q138 q19
      · refine Go.tr (f' := (mkF m 75 #[iv p1, iv p2, iv p3, iv p4, iv p5, iv p6, iv yy1, rv b2, rv b4, rv w3_] [(.ref w3_), (.ref w3_)])) st38 ?_
        refine Go.st (f' := (mkF m 78 #[iv p1, iv p2, iv p3, iv p4, iv p5, iv p6, iv yy1, rv b2, rv b4, rv w3_] [])) (fun _ k => Jvm.RoadKit.acmp (g := (mkF m 75 #[iv p1, iv p2, iv p3, iv p4, iv p5, iv p6, iv yy1, rv b2, rv b4, rv w3_] [(.ref w3_), (.ref w3_)])) X38 hx rfl rfl rfl (pc0 := 75) (pc' := 78) (same := true) rfl (D at_75) rfl (decide_eq_true rfl) (by decide) (by decide) k) ?_
        refine zic 79 1 X38 hx (D at_78) ?_
        refine zgo 83 X38 hx (D at_79) ?_
        refine GoW.retB X38 hlk hx (t := .boolean) hret (by simp) (D at_83) rfl hS38 hk38 hZ38 hEL CR38 hh ?_ (by decide) (by decide)
        exact ⟨rfl, N38⟩
      · exact absurd q29 q238
    · refine Go.st (f' := (mkF m 66 #[iv p1, iv p2, iv p3, iv p4, iv p5, iv p6, iv yy1, rv b2, rv b4, .unset] [.null])) (fun _ k => st9 _ k) ?_
      refine zrl 68 #[iv p1, iv p2, iv p3, iv p4, iv p5, iv p6, iv yy1, rv b2, rv b4, .val .null] X9 hx (D at_66) rfl ?_
      refine zal 70 X9 hx (D at_68) rfl rfl ?_
      refine zal 72 X9 hx (D at_70) rfl rfl ?_
      have ft53 := (eq5.keep kq9)
      have ft54 := (cq5.keep kq9 nin0)
      have ft55 := (fq5.keep kq9 nin0)
      have ft56 := (vq5.keep kq9 nin0)
      obtain ⟨_, _, ⟨T52, L52, kk52, nn52⟩, -, Xw52, hSw52, hgw52, ⟨Lc52, hQ52, lq52, yq52, zz52, crw52⟩, st52⟩ := callSS X9 hx (y := mq11) hown (mvT hZ (ww hw 85 rfl)) (mvT hZ (ww hw 86 rfl)) (mvT hZ (ww hw 3 rfl)) (mvT hZ (ww hw 87 rfl)) (by decide) (own_backW (W := 1) (rmX l Z a0 hw [] b4 tt5 kt5 n2 (cs2.map byt) wV w1_ w2_ w3_ kV iC vF lS1 lT1 lK1 lS2 lT2 lK2 lS3 lT3 lK3 T9.heap n0 O9 lv8b (byt_iv lv8a) ft53 ft54 ft55 ft56 WW) hZ (ww hw 87 rfl) (ww hw 3 rfl) (by decide) (by decide) hEL CR9.1) (g := (mkF m 72 #[iv p1, iv p2, iv p3, iv p4, iv p5, iv p6, iv yy1, rv b2, rv b4, .val .null] [(.ref b4), .null])) rfl (by rw [hml]; rfl) (argsL := [(.ref b4)]) (rest := [.null]) (lenOf pd__Ljava_lang_String__Lcom_example_naysay_naysay_access_Role_ rfl) rfl (by show 2 * 0 + _ ≤ _; exact Nat.le_of_eq rfl) (D at_72) (fun _ _ => ⟨rfl, rfl, (by decide : 4 + 6 ≤ _), (by decide : 35 + 116 ≤ _)⟩)
      dsimp only [Pt.U, Pt.locs, Pt.cells, Pt.slots] at Xw52 lq52 yq52 zz52 st52 hQ52 hSw52 hgw52 crw52
      subst lq52 yq52 zz52
      obtain ⟨X52, hS52, hZ52, hown52⟩ := rebS hS (Nat.zero_le _) Xw52 hSw52 hgw52 hZ hown
      obtain ⟨dd52, Nq52, kq52⟩ := hQ52
      have N52 := Fr.app N9 Nq52
      have ft57 := (Safe.keep kq9 sf0 CR5.1 (Safe.keep kq5 (sfS sf_b4 sf0) CR4.1 (Safe.ext E4 CR2.1 (Safe.keep kq2 sf0 CR0.1 sn_b2))))
      have ft58 := (Nat.lt_of_lt_of_le (Nat.lt_of_lt_of_le ft7 kq5.1) kq9.1)
      have ft59 := (Safe.keep kq9 sf0 CR5.1 (Safe.keep kq5 (sfS sf_b4 sf0) CR4.1 sf_b4))
      have ft60 := (Nat.lt_of_lt_of_le (Nat.lt_of_lt_of_le lt_b4 kq5.1) kq9.1)
      have ft61 := (Safe.keep kq9 sf0 CR5.1 (Safe.keep kq5 (sfS sf_b4 sf0) CR4.1 sn_tt5))
      have ft62 := (Nat.lt_of_lt_of_le lt_tt5 kq9.1)
      have O52 : Old Z n0 T52.heap := O9.keep kq52 all0
      have hk52 : T52.heap.size ≤ T52.heap.size := Nat.le_refl _
      have sf63 := crw52.safe ft58 ft57
      have sf64 := crw52.safe ft60 ft59
      have sf65 := crw52.safe ft62 ft61
      have CR52 := CR9.trans crw52
      rcases dd52 with ⟨rfl, q052⟩ | ⟨rfl, q052, q152⟩ | ⟨rfl, q052, q152, q252⟩ | ⟨rfl, q052, q152, q252⟩
      · exact absurd q052 q09
      · exact absurd q152 q19
      · exact absurd q252 q29
      · refine Go.tr (f' := (mkF m 75 #[iv p1, iv p2, iv p3, iv p4, iv p5, iv p6, iv yy1, rv b2, rv b4, .val .null] [.null, .null])) st52 ?_
        refine Go.st (f' := (mkF m 78 #[iv p1, iv p2, iv p3, iv p4, iv p5, iv p6, iv yy1, rv b2, rv b4, .val .null] [])) (fun _ k => Jvm.RoadKit.acmp (g := (mkF m 75 #[iv p1, iv p2, iv p3, iv p4, iv p5, iv p6, iv yy1, rv b2, rv b4, .val .null] [.null, .null])) X52 hx rfl rfl rfl (pc0 := 75) (pc' := 78) (same := true) rfl (D at_75) rfl (decide_eq_true rfl) (by decide) (by decide) k) ?_
        refine zic 79 1 X52 hx (D at_78) ?_
        refine zgo 83 X52 hx (D at_79) ?_
        refine GoW.retB X52 hlk hx (t := .boolean) hret (by simp) (D at_83) rfl hS52 hk52 hZ52 hEL CR52 hh ?_ (by decide) (by decide)
        exact ⟨rfl, N52⟩
  · refine zfn 29 X2 hx (D at_26) ((if0 _ _).trans (feq cd3).1) ?_
    refine zin 30 X2 hx (D at_29) rfl ?_
    refine Go.st (f' := (mkF m 32 #[iv p1, iv p2, iv p3, iv p4, iv p5, iv p6, iv yy1, rv b2, .unset, .unset] [(.int 2147483647), (.int p2)])) (fun _ k => X2.ldcInt hx hown (mvT hZ (ww hw 0 rfl)) (g := (mkF m 30 #[iv p1, iv p2, iv p3, iv p4, iv p5, iv p6, iv yy1, rv b2, .unset, .unset] [(.int p2)])) rfl (D at_30) _ k) ?_
    refine Go.st (f' := (mkF m 33 #[iv p1, iv p2, iv p3, iv p4, iv p5, iv p6, iv yy1, rv b2, .unset, .unset] [(.int (p2 &&& (2147483647 : Int32)))])) (fun _ k => XS.iand X2.here hx rfl (D at_32) rfl k) ?_
    refine zal 35 X2 hx (D at_33) rfl rfl ?_
    obtain ⟨cl66, Ar66, -, S66, Nx66, -, -⟩ := id vq2
    refine Go.st (T' := T2) (f' := (mkF m 36 #[iv p1, iv p2, iv p3, iv p4, iv p5, iv p6, iv yy1, rv b2, .unset, .unset] [(.int n2), (.int (p2 &&& (2147483647 : Int32)))])) (fun _ k => X2.arraylength hx Ar66.1 (State.isArrayOf_alike hZ.alike Ar66.2.1) (g := (mkF m 35 #[iv p1, iv p2, iv p3, iv p4, iv p5, iv p6, iv yy1, rv b2, .unset, .unset] [(.ref b2), (.int (p2 &&& (2147483647 : Int32)))])) rfl rfl (D at_35) _ (by rw [len_of S66 Nx66]; exact k)) ?_
    refine Go.st (f' := (mkF m 37 #[iv p1, iv p2, iv p3, iv p4, iv p5, iv p6, iv yy1, rv b2, .unset, .unset] [(.int ((p2 &&& (2147483647 : Int32)) % n2))])) (fun _ k => iremM (g := (mkF m 36 #[.val (.int p1), .val (.int p2), .val (.int p3), .val (.int p4), .val (.int p5), .val (.int p6), .val (.int yy1), .val (.ref b2), .unset, .unset] [(.int n2), (.int (p2 &&& (2147483647 : Int32)))])) X2 hx rfl (D at_36) rfl hn2 k) ?_
    obtain ⟨yy67, hyy67⟩ : ∃ z, z = ((p2 &&& (2147483647 : Int32)) % n2) := ⟨_, rfl⟩
    rw [← hyy67]
    have ix := own_ix lc2 hn2 hyy67
    refine zsl 39 #[iv p1, iv p2, iv p3, iv p4, iv p5, iv p6, iv yy1, rv b2, iv yy67, .unset] X2 hx (D at_37) ?_
    refine zal 41 X2 hx (D at_39) rfl rfl ?_
    refine zil 43 X2 hx (D at_41) rfl ?_
    refine zin 44 X2 hx (D at_43) rfl ?_
    refine Go.st (f' := (mkF m 47 #[iv p1, iv p2, iv p3, iv p4, iv p5, iv p6, iv yy1, rv b2, iv yy67, .unset] [(.int 255), (.int p3), (.int yy67), (.ref b2)])) (fun _ k => XS.sipush X2.here hx rfl (D at_44) k) ?_
    refine Go.st (f' := (mkF m 48 #[iv p1, iv p2, iv p3, iv p4, iv p5, iv p6, iv yy1, rv b2, iv yy67, .unset] [(.int (p3 &&& (255 : Int32))), (.int yy67), (.ref b2)])) (fun _ k => XS.iand X2.here hx rfl (D at_47) rfl k) ?_
    refine Go.st (f' := (mkF m 49 #[iv p1, iv p2, iv p3, iv p4, iv p5, iv p6, iv yy1, rv b2, iv yy67, .unset] [(.int ((p3 &&& (255 : Int32)).toUInt32.toUInt16.toUInt32.toInt32)), (.int yy67), (.ref b2)])) (fun _ k => XS.i2c X2.here hx rfl (D at_48) rfl k) ?_
    have ft69 := (Safe.keep kq2 sf0 CR0.1 sn_b2)
    obtain ⟨cl68, Ar68, q68, S68, Nx68, H68, G68⟩ := Arv.pad vq2 (pad_rep cs2 (.int (0 : Int32)) ((yy67).toNatClampNeg + 1))
    have hin68 : ¬ (yy67 < 0 ∨ cl68.slots.size ≤ (yy67).toNatClampNeg) := inb_of S68 ⟨ix.1, ix.2.1⟩
    obtain ⟨T70, h70, X70, e70, W70, st70⟩ := stC X2 hx hZ rfl Ar68 (j := yy67) hin68 (g := (mkF m 49 #[iv p1, iv p2, iv p3, iv p4, iv p5, iv p6, iv yy1, rv b2, iv yy67, .unset] [(.int ((p3 &&& (255 : Int32)).toUInt32.toUInt16.toUInt32.toInt32)), (.int yy67), (.ref b2)])) rfl rfl (D at_49)
    have V_b2_70 : Arv Z h70 b2 kb2 .char n2 (lput cs2 (yy67).toNatClampNeg (.int (nar .char ((p3 &&& (255 : Int32)).toUInt32.toUInt16.toUInt32.toInt32))) (.int (0 : Int32))) (.int (0 : Int32)) := Arv.set Ar68 q68 S68 Nx68 H68 G68 (fits_nar_char _) W70 _ rfl (lput_len _ _ _)
    have N70 := Fr.snoc X70 N2 g_b2
    have O70 : Old Z n0 h70 := O2.wr W70 g_b2
    have CR70 : CHr Z EL s.vm h0 s.vm h70 := CR2.trans (CHr.wr W70 ft69 CR2.1)
    refine zst 50 #[iv p1, iv p2, iv p3, iv p4, iv p5, iv p6, iv yy1, rv b2, iv yy67, .unset] [] st70 ?_
    have vp71 := V_b2_70.pad (sput_pad (.int (nar .char ((p3 &&& (255 : Int32)).toUInt32.toUInt16.toUInt32.toInt32))) ix.2.2)
    obtain ⟨T72, h72, X72, e72, E72, A72, D72, -, st72⟩ := newO X70 hx hZ hown (ww hw 6 rfl) (ww hw 7 rfl) (ww hw 8 rfl) e70 (g := (mkF m 50 #[iv p1, iv p2, iv p3, iv p4, iv p5, iv p6, iv yy1, rv b2, iv yy67, .unset] [])) rfl (D at_50) (by decide) (by decide)
    obtain ⟨b72, g72⟩ : ∃ z, z = h70.size := ⟨_, rfl⟩
    rw [← g72] at A72 D72 st72
    have ft73 := (Nat.lt_of_lt_of_eq lt_b2 W70.size.symm)
    have ne_b2_b72 : b2 ≠ b72 := Nat.ne_of_lt (Nat.lt_of_lt_of_eq ft73 g72.symm)
    have ne_wV_b72 : wV ≠ b72 := Nat.ne_of_lt (Nat.lt_of_lt_of_le lt_wV (Nat.le_trans O70.2.1 (Nat.le_of_eq g72.symm)))
    have ne_w1__b72 : w1_ ≠ b72 := Nat.ne_of_lt (Nat.lt_of_lt_of_le lt_w1_ (Nat.le_trans O70.2.1 (Nat.le_of_eq g72.symm)))
    have ne_w2__b72 : w2_ ≠ b72 := Nat.ne_of_lt (Nat.lt_of_lt_of_le lt_w2_ (Nat.le_trans O70.2.1 (Nat.le_of_eq g72.symm)))
    have ne_w3__b72 : w3_ ≠ b72 := Nat.ne_of_lt (Nat.lt_of_lt_of_le lt_w3_ (Nat.le_trans O70.2.1 (Nat.le_of_eq g72.symm)))
    have ne_lS1_b72 : lS1 ≠ b72 := Nat.ne_of_lt (Nat.lt_of_lt_of_le lt_lS1 (Nat.le_trans O70.2.1 (Nat.le_of_eq g72.symm)))
    have ne_lT1_b72 : lT1 ≠ b72 := Nat.ne_of_lt (Nat.lt_of_lt_of_le lt_lT1 (Nat.le_trans O70.2.1 (Nat.le_of_eq g72.symm)))
    have ne_lS2_b72 : lS2 ≠ b72 := Nat.ne_of_lt (Nat.lt_of_lt_of_le lt_lS2 (Nat.le_trans O70.2.1 (Nat.le_of_eq g72.symm)))
    have ne_lT2_b72 : lT2 ≠ b72 := Nat.ne_of_lt (Nat.lt_of_lt_of_le lt_lT2 (Nat.le_trans O70.2.1 (Nat.le_of_eq g72.symm)))
    have ne_lS3_b72 : lS3 ≠ b72 := Nat.ne_of_lt (Nat.lt_of_lt_of_le lt_lS3 (Nat.le_trans O70.2.1 (Nat.le_of_eq g72.symm)))
    have ne_lT3_b72 : lT3 ≠ b72 := Nat.ne_of_lt (Nat.lt_of_lt_of_le lt_lT3 (Nat.le_trans O70.2.1 (Nat.le_of_eq g72.symm)))
    have g_b72 : n0 ≤ b72 := Nat.le_trans (O70.1 ▸ O70.2.1) (Nat.le_of_eq g72.symm)
    have O72 : Old Z n0 h72 := O70.ext E72
    have CR72 : CHr Z EL s.vm h0 s.vm h72 := CR70.trans (CHr.ext E72 CR70.1)
    have sf_b72 : Safe Z EL s.vm h72 b72 := (Safe.new (Nat.le_of_eq g72.symm)).ext E72 CR70.1
    have lt_b72 := A72.lt
    have F_coder_b72 : Fld Z h72 b72 "java/lang/String" "coder" "B" (.int (0 : Int32)) := D72 (Or.inr (ww hw 32 rfl)) (ty := .byte) (by decide)
    have F_value_b72 : Fld Z h72 b72 "java/lang/String" "value" "[B" .null := D72 (Or.inr (ww hw 34 rfl)) (ty := (.array .byte)) (by decide)
    refine zst 53 #[iv p1, iv p2, iv p3, iv p4, iv p5, iv p6, iv yy1, rv b2, iv yy67, .unset] [(.ref b72)] st72 ?_
    refine Go.st (f' := (mkF m 54 #[iv p1, iv p2, iv p3, iv p4, iv p5, iv p6, iv yy1, rv b2, iv yy67, .unset] [(.ref b72), (.ref b72)])) (fun _ k => XS.dup X72.here hx rfl (D at_53) rfl rfl k) ?_
    refine zal 56 X72 hx (D at_54) rfl rfl ?_
    have ft75 := (vp71.ext E72)
    obtain ⟨_, _, ⟨T74, L74, kk74, nn74⟩, -, X74, ⟨Lc74, hQ74, lq74, yq74, zz74⟩, st74⟩ := X72.specialBack hx (y := mq4) rfl hown (mvT hZ (ww hw 9 rfl)) (mvT hZ (ww hw 10 rfl)) (mvT hZ (ww hw 11 rfl)) (by decide) (own_back (W := 1) (nc1 l Z a0 hw [] b72 b2 kb2 n2 (sput cs2 (yy67).toNatClampNeg (.int (nar .char ((p3 &&& (255 : Int32)).toUInt32.toUInt16.toUInt32.toInt32)))) wV w1_ w2_ w3_ kV iC vF lS1 lT1 lK1 lS2 lT2 lK2 lS3 lT3 lK3 h72 n0 O72 (sput_ln lc2) (sput_ch (x := (nar .char ((p3 &&& (255 : Int32)).toUInt32.toUInt16.toUInt32.toInt32))) hc2 ix.2.2 (own_ch _)) hn2 h142 g_b72 (Ne.symm ne_b2_b72) A72 F_coder_b72 F_value_b72 ft75 WW) hZ (ww hw 11 rfl) (ww hw 8 rfl) (by decide) (by decide)) (g := (mkF m 56 #[iv p1, iv p2, iv p3, iv p4, iv p5, iv p6, iv yy1, rv b2, iv yy67, .unset] [(.ref b2), (.ref b72), (.ref b72)])) rfl (by rw [hml]; rfl) (Steps.refl _) (a := b72) (argsL := [(.ref b2)]) (rest := [(.ref b72)]) (lenOf pd___C_V rfl) rfl (by show 2 * 0 + _ ≤ _; exact Nat.le_of_eq rfl) (D at_56) (fun _ _ => ⟨rfl, e72, (by decide : 2 + 1 ≤ _), (by decide : 18 + 14 ≤ _)⟩)
    dsimp only [Pt.U, Pt.locs, Pt.cells, Pt.slots] at X74 lq74 yq74 zz74 st74 hQ74
    subst lq74 yq74 zz74
    obtain ⟨rfl, Nq74, kq74, eq74, cq74, tt74, kt74, zq74, fq74, vq74⟩ := hQ74
    have N74 := Fr.app N70 Nq74
    have ft76 := (Nat.lt_of_lt_of_le ft73 E72.1)
    have ne_b2_tt74 : b2 ≠ tt74 := Nat.ne_of_lt (Nat.lt_of_lt_of_le ft76 zq74)
    have ne_b72_tt74 : b72 ≠ tt74 := Nat.ne_of_lt (Nat.lt_of_lt_of_le lt_b72 zq74)
    have ne_wV_tt74 : wV ≠ tt74 := Nat.ne_of_lt (Nat.lt_of_lt_of_le lt_wV (Nat.le_trans O72.2.1 zq74))
    have ne_w1__tt74 : w1_ ≠ tt74 := Nat.ne_of_lt (Nat.lt_of_lt_of_le lt_w1_ (Nat.le_trans O72.2.1 zq74))
    have ne_w2__tt74 : w2_ ≠ tt74 := Nat.ne_of_lt (Nat.lt_of_lt_of_le lt_w2_ (Nat.le_trans O72.2.1 zq74))
    have ne_w3__tt74 : w3_ ≠ tt74 := Nat.ne_of_lt (Nat.lt_of_lt_of_le lt_w3_ (Nat.le_trans O72.2.1 zq74))
    have ne_lS1_tt74 : lS1 ≠ tt74 := Nat.ne_of_lt (Nat.lt_of_lt_of_le lt_lS1 (Nat.le_trans O72.2.1 zq74))
    have ne_lT1_tt74 : lT1 ≠ tt74 := Nat.ne_of_lt (Nat.lt_of_lt_of_le lt_lT1 (Nat.le_trans O72.2.1 zq74))
    have ne_lS2_tt74 : lS2 ≠ tt74 := Nat.ne_of_lt (Nat.lt_of_lt_of_le lt_lS2 (Nat.le_trans O72.2.1 zq74))
    have ne_lT2_tt74 : lT2 ≠ tt74 := Nat.ne_of_lt (Nat.lt_of_lt_of_le lt_lT2 (Nat.le_trans O72.2.1 zq74))
    have ne_lS3_tt74 : lS3 ≠ tt74 := Nat.ne_of_lt (Nat.lt_of_lt_of_le lt_lS3 (Nat.le_trans O72.2.1 zq74))
    have ne_lT3_tt74 : lT3 ≠ tt74 := Nat.ne_of_lt (Nat.lt_of_lt_of_le lt_lT3 (Nat.le_trans O72.2.1 zq74))
    have g_tt74 : n0 ≤ tt74 := Nat.le_trans (O72.1 ▸ O72.2.1) zq74
    have sn_tt74 : Safe Z EL s.vm h72 tt74 := Safe.new zq74
    have O74 : Old Z n0 T74.heap := O72.keep kq74 (allS g_b72 all0)
    have CR74 : CHr Z EL s.vm h0 s.vm T74.heap := CR72.trans (CHr.keep kq74 (sfS sf_b72 sf0) CR72.1)
    have lt_tt74 := vq74.lt
    refine Go.tr (f' := (mkF m 59 #[iv p1, iv p2, iv p3, iv p4, iv p5, iv p6, iv yy1, rv b2, iv yy67, .unset] [(.ref b72)])) st74 ?_
    refine zrl 61 #[iv p1, iv p2, iv p3, iv p4, iv p5, iv p6, iv yy1, rv b2, rv b72, .unset] X74 hx (D at_59) rfl ?_
    have lv77a := (sput_ch (x := (nar .char ((p3 &&& (255 : Int32)).toUInt32.toUInt16.toUInt32.toInt32))) hc2 ix.2.2 (own_ch _))
    have lv77c : Ln n2 (sput cs2 (yy67).toNatClampNeg (.int (nar .char ((p3 &&& (255 : Int32)).toUInt32.toUInt16.toUInt32.toInt32)))) := (sput_ln lc2)
    have lv77b : Ln n2 ((sput cs2 (yy67).toNatClampNeg (.int (nar .char ((p3 &&& (255 : Int32)).toUInt32.toUInt16.toUInt32.toInt32)))).map byt) := ⟨lv77c.1, by rw [byt_len]; exact lv77c.2⟩
    refine zal 63 X74 hx (D at_61) rfl rfl ?_
    obtain ⟨_, _, ⟨T78, L78, kk78, nn78⟩, -, X78, ⟨Lc78, hQ78, lq78, yq78, zz78⟩, st78⟩ := Jvm.LawKit.callS X74 hx (y := mq10) hown (mvT hZ (ww hw 35 rfl)) (mvT hZ (ww hw 36 rfl)) (mvT hZ (ww hw 37 rfl)) (mvT hZ (ww hw 38 rfl)) (by decide) (own_back (W := 0) (rmN l Z a0 hw [] b72 tt74 kt74 n2 ((sput cs2 (yy67).toNatClampNeg (.int (nar .char ((p3 &&& (255 : Int32)).toUInt32.toUInt16.toUInt32.toInt32)))).map byt) la lk wV w1_ w2_ w3_ kV iC vF lS1 lT1 lK1 lS2 lT2 lK2 lS3 lT3 lK3 T74.heap n0 O74 lv77b (byt_iv lv77a) eq74 cq74 fq74 vq74 LF WW) hZ (ww hw 38 rfl) (ww hw 37 rfl) (by decide) (by decide)) (g := (mkF m 63 #[iv p1, iv p2, iv p3, iv p4, iv p5, iv p6, iv yy1, rv b2, rv b72, .unset] [(.ref b72)])) rfl (by rw [hml]; rfl) (argsL := [(.ref b72)]) (rest := []) (lenOf pd__Ljava_lang_String__Lcom_example_naysay_naysay_access_Role_ rfl) rfl (by show 2 * 0 + _ ≤ _; exact Nat.le_of_eq rfl) (D at_63) (fun _ _ => ⟨rfl, rfl, (by decide : 3 + 1 ≤ _), (by decide : 32 + 3 ≤ _)⟩)
    dsimp only [Pt.U, Pt.locs, Pt.cells, Pt.slots] at X78 lq78 yq78 zz78 st78 hQ78
    subst lq78 yq78 zz78
    obtain ⟨dd78, Nq78, kq78⟩ := hQ78
    have N78 := Fr.app N74 Nq78
    have O78 : Old Z n0 T78.heap := O74.keep kq78 all0
    have CR78 : CHr Z EL s.vm h0 s.vm T78.heap := CR74.trans (CHr.keep kq78 sf0 CR74.1)
    rcases dd78 with ⟨rfl, q078⟩ | ⟨rfl, q078, q178⟩ | ⟨rfl, q078, q178, q278⟩ | ⟨rfl, q078, q178, q278⟩
    · refine Go.st (f' := (mkF m 66 #[iv p1, iv p2, iv p3, iv p4, iv p5, iv p6, iv yy1, rv b2, rv b72, .unset] [(.ref w1_)])) (fun _ k => st78 _ k) ?_
      refine zrl 68 #[iv p1, iv p2, iv p3, iv p4, iv p5, iv p6, iv yy1, rv b2, rv b72, rv w1_] X78 hx (D at_66) rfl ?_
      refine zal 70 X78 hx (D at_68) rfl rfl ?_
      refine zal 72 X78 hx (D at_70) rfl rfl ?_
      have ft80 := (eq74.keep kq78)
      have ft81 := (cq74.keep kq78 nin0)
      have ft82 := (fq74.keep kq78 nin0)
      have ft83 := (vq74.keep kq78 nin0)
      obtain ⟨_, _, ⟨T79, L79, kk79, nn79⟩, -, Xw79, hSw79, hgw79, ⟨Lc79, hQ79, lq79, yq79, zz79, crw79⟩, st79⟩ := callSS X78 hx (y := mq11) hown (mvT hZ (ww hw 85 rfl)) (mvT hZ (ww hw 86 rfl)) (mvT hZ (ww hw 3 rfl)) (mvT hZ (ww hw 87 rfl)) (by decide) (own_backW (W := 1) (rmX l Z a0 hw [] b72 tt74 kt74 n2 ((sput cs2 (yy67).toNatClampNeg (.int (nar .char ((p3 &&& (255 : Int32)).toUInt32.toUInt16.toUInt32.toInt32)))).map byt) wV w1_ w2_ w3_ kV iC vF lS1 lT1 lK1 lS2 lT2 lK2 lS3 lT3 lK3 T78.heap n0 O78 lv77b (byt_iv lv77a) ft80 ft81 ft82 ft83 WW) hZ (ww hw 87 rfl) (ww hw 3 rfl) (by decide) (by decide) hEL CR78.1) (g := (mkF m 72 #[iv p1, iv p2, iv p3, iv p4, iv p5, iv p6, iv yy1, rv b2, rv b72, rv w1_] [(.ref b72), (.ref w1_)])) rfl (by rw [hml]; rfl) (argsL := [(.ref b72)]) (rest := [(.ref w1_)]) (lenOf pd__Ljava_lang_String__Lcom_example_naysay_naysay_access_Role_ rfl) rfl (by show 2 * 0 + _ ≤ _; exact Nat.le_of_eq rfl) (D at_72) (fun _ _ => ⟨rfl, rfl, (by decide : 4 + 6 ≤ _), (by decide : 35 + 116 ≤ _)⟩)
      dsimp only [Pt.U, Pt.locs, Pt.cells, Pt.slots] at Xw79 lq79 yq79 zz79 st79 hQ79 hSw79 hgw79 crw79
      subst lq79 yq79 zz79
      obtain ⟨X79, hS79, hZ79, hown79⟩ := rebS hS (Nat.zero_le _) Xw79 hSw79 hgw79 hZ hown
      obtain ⟨dd79, Nq79, kq79⟩ := hQ79
      have N79 := Fr.app N78 Nq79
      have ft84 := (Safe.keep kq78 sf0 CR74.1 (Safe.keep kq74 (sfS sf_b72 sf0) CR72.1 (Safe.ext E72 CR70.1 (Safe.wr W70 ft69 CR2.1 ft69))))
      have ft85 := (Nat.lt_of_lt_of_le (Nat.lt_of_lt_of_le ft76 kq74.1) kq78.1)
      have ft86 := (Safe.keep kq78 sf0 CR74.1 (Safe.keep kq74 (sfS sf_b72 sf0) CR72.1 sf_b72))
      have ft87 := (Nat.lt_of_lt_of_le (Nat.lt_of_lt_of_le lt_b72 kq74.1) kq78.1)
      have ft88 := (Safe.keep kq78 sf0 CR74.1 (Safe.keep kq74 (sfS sf_b72 sf0) CR72.1 sn_tt74))
      have ft89 := (Nat.lt_of_lt_of_le lt_tt74 kq78.1)
      have O79 : Old Z n0 T79.heap := O78.keep kq79 all0
      have hk79 : T79.heap.size ≤ T79.heap.size := Nat.le_refl _
      have sf90 := crw79.safe ft85 ft84
      have sf91 := crw79.safe ft87 ft86
      have sf92 := crw79.safe ft89 ft88
      have CR79 := CR78.trans crw79
      rcases dd79 with ⟨rfl, q079⟩ | ⟨rfl, q079, q179⟩ | ⟨rfl, q079, q179, q279⟩ | ⟨rfl, q079, q179, q279⟩
      · refine Go.tr (f' := (mkF m 75 #[iv p1, iv p2, iv p3, iv p4, iv p5, iv p6, iv yy1, rv b2, rv b72, rv w1_] [(.ref w1_), (.ref w1_)])) st79 ?_
        refine Go.st (f' := (mkF m 78 #[iv p1, iv p2, iv p3, iv p4, iv p5, iv p6, iv yy1, rv b2, rv b72, rv w1_] [])) (fun _ k => Jvm.RoadKit.acmp (g := (mkF m 75 #[iv p1, iv p2, iv p3, iv p4, iv p5, iv p6, iv yy1, rv b2, rv b72, rv w1_] [(.ref w1_), (.ref w1_)])) X79 hx rfl rfl rfl (pc0 := 75) (pc' := 78) (same := true) rfl (D at_75) rfl (decide_eq_true rfl) (by decide) (by decide) k) ?_
        refine zic 79 1 X79 hx (D at_78) ?_
        refine zgo 83 X79 hx (D at_79) ?_
        refine GoW.retB X79 hlk hx (t := .boolean) hret (by simp) (D at_83) rfl hS79 hk79 hZ79 hEL CR79 hh ?_ (by decide) (by decide)
        exact ⟨rfl, N79⟩
      · exact absurd q078 q079
      · exact absurd q078 q079
      · exact absurd q078 q079
    · refine Go.st (f' := (mkF m 66 #[iv p1, iv p2, iv p3, iv p4, iv p5, iv p6, iv yy1, rv b2, rv b72, .unset] [(.ref w2_)])) (fun _ k => st78 _ k) ?_
      refine zrl 68 #[iv p1, iv p2, iv p3, iv p4, iv p5, iv p6, iv yy1, rv b2, rv b72, rv w2_] X78 hx (D at_66) rfl ?_
      refine zal 70 X78 hx (D at_68) rfl rfl ?_
      refine zal 72 X78 hx (D at_70) rfl rfl ?_
      have ft94 := (eq74.keep kq78)
      have ft95 := (cq74.keep kq78 nin0)
      have ft96 := (fq74.keep kq78 nin0)
      have ft97 := (vq74.keep kq78 nin0)
      obtain ⟨_, _, ⟨T93, L93, kk93, nn93⟩, -, Xw93, hSw93, hgw93, ⟨Lc93, hQ93, lq93, yq93, zz93, crw93⟩, st93⟩ := callSS X78 hx (y := mq11) hown (mvT hZ (ww hw 85 rfl)) (mvT hZ (ww hw 86 rfl)) (mvT hZ (ww hw 3 rfl)) (mvT hZ (ww hw 87 rfl)) (by decide) (own_backW (W := 1) (rmX l Z a0 hw [] b72 tt74 kt74 n2 ((sput cs2 (yy67).toNatClampNeg (.int (nar .char ((p3 &&& (255 : Int32)).toUInt32.toUInt16.toUInt32.toInt32)))).map byt) wV w1_ w2_ w3_ kV iC vF lS1 lT1 lK1 lS2 lT2 lK2 lS3 lT3 lK3 T78.heap n0 O78 lv77b (byt_iv lv77a) ft94 ft95 ft96 ft97 WW) hZ (ww hw 87 rfl) (ww hw 3 rfl) (by decide) (by decide) hEL CR78.1) (g := (mkF m 72 #[iv p1, iv p2, iv p3, iv p4, iv p5, iv p6, iv yy1, rv b2, rv b72, rv w2_] [(.ref b72), (.ref w2_)])) rfl (by rw [hml]; rfl) (argsL := [(.ref b72)]) (rest := [(.ref w2_)]) (lenOf pd__Ljava_lang_String__Lcom_example_naysay_naysay_access_Role_ rfl) rfl (by show 2 * 0 + _ ≤ _; exact Nat.le_of_eq rfl) (D at_72) (fun _ _ => ⟨rfl, rfl, (by decide : 4 + 6 ≤ _), (by decide : 35 + 116 ≤ _)⟩)
      dsimp only [Pt.U, Pt.locs, Pt.cells, Pt.slots] at Xw93 lq93 yq93 zz93 st93 hQ93 hSw93 hgw93 crw93
      subst lq93 yq93 zz93
      obtain ⟨X93, hS93, hZ93, hown93⟩ := rebS hS (Nat.zero_le _) Xw93 hSw93 hgw93 hZ hown
      obtain ⟨dd93, Nq93, kq93⟩ := hQ93
      have N93 := Fr.app N78 Nq93
      have ft98 := (Safe.keep kq78 sf0 CR74.1 (Safe.keep kq74 (sfS sf_b72 sf0) CR72.1 (Safe.ext E72 CR70.1 (Safe.wr W70 ft69 CR2.1 ft69))))
      have ft99 := (Nat.lt_of_lt_of_le (Nat.lt_of_lt_of_le ft76 kq74.1) kq78.1)
      have ft100 := (Safe.keep kq78 sf0 CR74.1 (Safe.keep kq74 (sfS sf_b72 sf0) CR72.1 sf_b72))
      have ft101 := (Nat.lt_of_lt_of_le (Nat.lt_of_lt_of_le lt_b72 kq74.1) kq78.1)
      have ft102 := (Safe.keep kq78 sf0 CR74.1 (Safe.keep kq74 (sfS sf_b72 sf0) CR72.1 sn_tt74))
      have ft103 := (Nat.lt_of_lt_of_le lt_tt74 kq78.1)
      have O93 : Old Z n0 T93.heap := O78.keep kq93 all0
      have hk93 : T93.heap.size ≤ T93.heap.size := Nat.le_refl _
      have sf104 := crw93.safe ft99 ft98
      have sf105 := crw93.safe ft101 ft100
      have sf106 := crw93.safe ft103 ft102
      have CR93 := CR78.trans crw93
      rcases dd93 with ⟨rfl, q093⟩ | ⟨rfl, q093, q193⟩ | ⟨rfl, q093, q193, q293⟩ | ⟨rfl, q093, q193, q293⟩
      · exact absurd q093 q078
      · refine Go.tr (f' := (mkF m 75 #[iv p1, iv p2, iv p3, iv p4, iv p5, iv p6, iv yy1, rv b2, rv b72, rv w2_] [(.ref w2_), (.ref w2_)])) st93 ?_
        refine Go.st (f' := (mkF m 78 #[iv p1, iv p2, iv p3, iv p4, iv p5, iv p6, iv yy1, rv b2, rv b72, rv w2_] [])) (fun _ k => Jvm.RoadKit.acmp (g := (mkF m 75 #[iv p1, iv p2, iv p3, iv p4, iv p5, iv p6, iv yy1, rv b2, rv b72, rv w2_] [(.ref w2_), (.ref w2_)])) X93 hx rfl rfl rfl (pc0 := 75) (pc' := 78) (same := true) rfl (D at_75) rfl (decide_eq_true rfl) (by decide) (by decide) k) ?_
        refine zic 79 1 X93 hx (D at_78) ?_
        refine zgo 83 X93 hx (D at_79) ?_
        refine GoW.retB X93 hlk hx (t := .boolean) hret (by simp) (D at_83) rfl hS93 hk93 hZ93 hEL CR93 hh ?_ (by decide) (by decide)
        exact ⟨rfl, N93⟩
      · exact absurd q178 q193
      · exact absurd q178 q193
    · refine Go.st (f' := (mkF m 66 #[iv p1, iv p2, iv p3, iv p4, iv p5, iv p6, iv yy1, rv b2, rv b72, .unset] [(.ref w3_)])) (fun _ k => st78 _ k) ?_
      refine zrl 68 #[iv p1, iv p2, iv p3, iv p4, iv p5, iv p6, iv yy1, rv b2, rv b72, rv w3_] X78 hx (D at_66) rfl ?_
      refine zal 70 X78 hx (D at_68) rfl rfl ?_
      refine zal 72 X78 hx (D at_70) rfl rfl ?_
      have ft108 := (eq74.keep kq78)
      have ft109 := (cq74.keep kq78 nin0)
      have ft110 := (fq74.keep kq78 nin0)
      have ft111 := (vq74.keep kq78 nin0)
      obtain ⟨_, _, ⟨T107, L107, kk107, nn107⟩, -, Xw107, hSw107, hgw107, ⟨Lc107, hQ107, lq107, yq107, zz107, crw107⟩, st107⟩ := callSS X78 hx (y := mq11) hown (mvT hZ (ww hw 85 rfl)) (mvT hZ (ww hw 86 rfl)) (mvT hZ (ww hw 3 rfl)) (mvT hZ (ww hw 87 rfl)) (by decide) (own_backW (W := 1) (rmX l Z a0 hw [] b72 tt74 kt74 n2 ((sput cs2 (yy67).toNatClampNeg (.int (nar .char ((p3 &&& (255 : Int32)).toUInt32.toUInt16.toUInt32.toInt32)))).map byt) wV w1_ w2_ w3_ kV iC vF lS1 lT1 lK1 lS2 lT2 lK2 lS3 lT3 lK3 T78.heap n0 O78 lv77b (byt_iv lv77a) ft108 ft109 ft110 ft111 WW) hZ (ww hw 87 rfl) (ww hw 3 rfl) (by decide) (by decide) hEL CR78.1) (g := (mkF m 72 #[iv p1, iv p2, iv p3, iv p4, iv p5, iv p6, iv yy1, rv b2, rv b72, rv w3_] [(.ref b72), (.ref w3_)])) rfl (by rw [hml]; rfl) (argsL := [(.ref b72)]) (rest := [(.ref w3_)]) (lenOf pd__Ljava_lang_String__Lcom_example_naysay_naysay_access_Role_ rfl) rfl (by show 2 * 0 + _ ≤ _; exact Nat.le_of_eq rfl) (D at_72) (fun _ _ => ⟨rfl, rfl, (by decide : 4 + 6 ≤ _), (by decide : 35 + 116 ≤ _)⟩)
      dsimp only [Pt.U, Pt.locs, Pt.cells, Pt.slots] at Xw107 lq107 yq107 zz107 st107 hQ107 hSw107 hgw107 crw107
      subst lq107 yq107 zz107
      obtain ⟨X107, hS107, hZ107, hown107⟩ := rebS hS (Nat.zero_le _) Xw107 hSw107 hgw107 hZ hown
      obtain ⟨dd107, Nq107, kq107⟩ := hQ107
      have N107 := Fr.app N78 Nq107
      have ft112 := (Safe.keep kq78 sf0 CR74.1 (Safe.keep kq74 (sfS sf_b72 sf0) CR72.1 (Safe.ext E72 CR70.1 (Safe.wr W70 ft69 CR2.1 ft69))))
      have ft113 := (Nat.lt_of_lt_of_le (Nat.lt_of_lt_of_le ft76 kq74.1) kq78.1)
      have ft114 := (Safe.keep kq78 sf0 CR74.1 (Safe.keep kq74 (sfS sf_b72 sf0) CR72.1 sf_b72))
      have ft115 := (Nat.lt_of_lt_of_le (Nat.lt_of_lt_of_le lt_b72 kq74.1) kq78.1)
      have ft116 := (Safe.keep kq78 sf0 CR74.1 (Safe.keep kq74 (sfS sf_b72 sf0) CR72.1 sn_tt74))
      have ft117 := (Nat.lt_of_lt_of_le lt_tt74 kq78.1)
      have O107 : Old Z n0 T107.heap := O78.keep kq107 all0
      have hk107 : T107.heap.size ≤ T107.heap.size := Nat.le_refl _
      have sf118 := crw107.safe ft113 ft112
      have sf119 := crw107.safe ft115 ft114
      have sf120 := crw107.safe ft117 ft116
      have CR107 := CR78.trans crw107
      rcases dd107 with ⟨rfl, q0107⟩ | ⟨rfl, q0107, q1107⟩ | ⟨rfl, q0107, q1107, q2107⟩ | ⟨rfl, q0107, q1107, q2107⟩
      · exact absurd q0107 q078
      · exact absurd q1107 q178
      · refine Go.tr (f' := (mkF m 75 #[iv p1, iv p2, iv p3, iv p4, iv p5, iv p6, iv yy1, rv b2, rv b72, rv w3_] [(.ref w3_), (.ref w3_)])) st107 ?_
        refine Go.st (f' := (mkF m 78 #[iv p1, iv p2, iv p3, iv p4, iv p5, iv p6, iv yy1, rv b2, rv b72, rv w3_] [])) (fun _ k => Jvm.RoadKit.acmp (g := (mkF m 75 #[iv p1, iv p2, iv p3, iv p4, iv p5, iv p6, iv yy1, rv b2, rv b72, rv w3_] [(.ref w3_), (.ref w3_)])) X107 hx rfl rfl rfl (pc0 := 75) (pc' := 78) (same := true) rfl (D at_75) rfl (decide_eq_true rfl) (by decide) (by decide) k) ?_
        refine zic 79 1 X107 hx (D at_78) ?_
        refine zgo 83 X107 hx (D at_79) ?_
        refine GoW.retB X107 hlk hx (t := .boolean) hret (by simp) (D at_83) rfl hS107 hk107 hZ107 hEL CR107 hh ?_ (by decide) (by decide)
        exact ⟨rfl, N107⟩
      · exact absurd q278 q2107
    · refine Go.st (f' := (mkF m 66 #[iv p1, iv p2, iv p3, iv p4, iv p5, iv p6, iv yy1, rv b2, rv b72, .unset] [.null])) (fun _ k => st78 _ k) ?_
      refine zrl 68 #[iv p1, iv p2, iv p3, iv p4, iv p5, iv p6, iv yy1, rv b2, rv b72, .val .null] X78 hx (D at_66) rfl ?_
      refine zal 70 X78 hx (D at_68) rfl rfl ?_
      refine zal 72 X78 hx (D at_70) rfl rfl ?_
      have ft122 := (eq74.keep kq78)
      have ft123 := (cq74.keep kq78 nin0)
      have ft124 := (fq74.keep kq78 nin0)
      have ft125 := (vq74.keep kq78 nin0)
      obtain ⟨_, _, ⟨T121, L121, kk121, nn121⟩, -, Xw121, hSw121, hgw121, ⟨Lc121, hQ121, lq121, yq121, zz121, crw121⟩, st121⟩ := callSS X78 hx (y := mq11) hown (mvT hZ (ww hw 85 rfl)) (mvT hZ (ww hw 86 rfl)) (mvT hZ (ww hw 3 rfl)) (mvT hZ (ww hw 87 rfl)) (by decide) (own_backW (W := 1) (rmX l Z a0 hw [] b72 tt74 kt74 n2 ((sput cs2 (yy67).toNatClampNeg (.int (nar .char ((p3 &&& (255 : Int32)).toUInt32.toUInt16.toUInt32.toInt32)))).map byt) wV w1_ w2_ w3_ kV iC vF lS1 lT1 lK1 lS2 lT2 lK2 lS3 lT3 lK3 T78.heap n0 O78 lv77b (byt_iv lv77a) ft122 ft123 ft124 ft125 WW) hZ (ww hw 87 rfl) (ww hw 3 rfl) (by decide) (by decide) hEL CR78.1) (g := (mkF m 72 #[iv p1, iv p2, iv p3, iv p4, iv p5, iv p6, iv yy1, rv b2, rv b72, .val .null] [(.ref b72), .null])) rfl (by rw [hml]; rfl) (argsL := [(.ref b72)]) (rest := [.null]) (lenOf pd__Ljava_lang_String__Lcom_example_naysay_naysay_access_Role_ rfl) rfl (by show 2 * 0 + _ ≤ _; exact Nat.le_of_eq rfl) (D at_72) (fun _ _ => ⟨rfl, rfl, (by decide : 4 + 6 ≤ _), (by decide : 35 + 116 ≤ _)⟩)
      dsimp only [Pt.U, Pt.locs, Pt.cells, Pt.slots] at Xw121 lq121 yq121 zz121 st121 hQ121 hSw121 hgw121 crw121
      subst lq121 yq121 zz121
      obtain ⟨X121, hS121, hZ121, hown121⟩ := rebS hS (Nat.zero_le _) Xw121 hSw121 hgw121 hZ hown
      obtain ⟨dd121, Nq121, kq121⟩ := hQ121
      have N121 := Fr.app N78 Nq121
      have ft126 := (Safe.keep kq78 sf0 CR74.1 (Safe.keep kq74 (sfS sf_b72 sf0) CR72.1 (Safe.ext E72 CR70.1 (Safe.wr W70 ft69 CR2.1 ft69))))
      have ft127 := (Nat.lt_of_lt_of_le (Nat.lt_of_lt_of_le ft76 kq74.1) kq78.1)
      have ft128 := (Safe.keep kq78 sf0 CR74.1 (Safe.keep kq74 (sfS sf_b72 sf0) CR72.1 sf_b72))
      have ft129 := (Nat.lt_of_lt_of_le (Nat.lt_of_lt_of_le lt_b72 kq74.1) kq78.1)
      have ft130 := (Safe.keep kq78 sf0 CR74.1 (Safe.keep kq74 (sfS sf_b72 sf0) CR72.1 sn_tt74))
      have ft131 := (Nat.lt_of_lt_of_le lt_tt74 kq78.1)
      have O121 : Old Z n0 T121.heap := O78.keep kq121 all0
      have hk121 : T121.heap.size ≤ T121.heap.size := Nat.le_refl _
      have sf132 := crw121.safe ft127 ft126
      have sf133 := crw121.safe ft129 ft128
      have sf134 := crw121.safe ft131 ft130
      have CR121 := CR78.trans crw121
      rcases dd121 with ⟨rfl, q0121⟩ | ⟨rfl, q0121, q1121⟩ | ⟨rfl, q0121, q1121, q2121⟩ | ⟨rfl, q0121, q1121, q2121⟩
      · exact absurd q0121 q078
      · exact absurd q1121 q178
      · exact absurd q2121 q278
      · refine Go.tr (f' := (mkF m 75 #[iv p1, iv p2, iv p3, iv p4, iv p5, iv p6, iv yy1, rv b2, rv b72, .val .null] [.null, .null])) st121 ?_
        refine Go.st (f' := (mkF m 78 #[iv p1, iv p2, iv p3, iv p4, iv p5, iv p6, iv yy1, rv b2, rv b72, .val .null] [])) (fun _ k => Jvm.RoadKit.acmp (g := (mkF m 75 #[iv p1, iv p2, iv p3, iv p4, iv p5, iv p6, iv yy1, rv b2, rv b72, .val .null] [.null, .null])) X121 hx rfl rfl rfl (pc0 := 75) (pc' := 78) (same := true) rfl (D at_75) rfl (decide_eq_true rfl) (by decide) (by decide) k) ?_
        refine zic 79 1 X121 hx (D at_78) ?_
        refine zgo 83 X121 hx (D at_79) ?_
        refine GoW.retB X121 hlk hx (t := .boolean) hret (by simp) (D at_83) rfl hS121 hk121 hZ121 hEL CR121 hh ?_ (by decide) (by decide)
        exact ⟨rfl, N121⟩
set_option maxRecDepth 65536 in
set_option maxHeartbeats 40000000 in
theorem comes_1 {Post : Tables → Env → Array Value → State → Outcome → State → Prop} (hpost : ∀ tb e args s v u, (limb_1_1.after args s (.returned v) u = true ∧ limb_1_2.after args s (.returned v) u = true ∧ True) → ReturnedEndW s (.returned v) u (Jvm.fieldLocs frame_1_writes args s ++ Jvm.arrayLocs frame_1_arrays args s ++ Jvm.staticLocs frame_1_statics s) 24 3264 → Post tb e args s (.returned v) u) :
    ArmFor flags0 classFile x code maxLocals ret World_1 tables_1 room_1 Calls_1 rest_1 Pre_1 Post := by
  intro l hfl _ _ p e ha hc hk s m args below hf hA hF happ hP
  obtain ⟨hcalls, hrest, hpre⟩ := hP
  obtain ⟨-, -, -, hnamed, -, -, -, hat⟩ := (Spec.applies_iff hf).mp happ
  obtain ⟨hg, hn⟩ := and_e (Cond.before_iff.mp (show (Jvm.Cond.and given_1 narrow_1).before args s = true from hpre))
  obtain ⟨g1, g2⟩ := and_e hg
  obtain ⟨g3, g4⟩ := and_e g2
  obtain ⟨g5, g6⟩ := and_e g4
  obtain ⟨g7, g8⟩ := and_e g6
  obtain ⟨g9, g10⟩ := and_e g8
  obtain ⟨g11, g12⟩ := and_e g10
  obtain ⟨v0, v1, v2, v3, v4, v5, rfl⟩ : ∃ v0 v1 v2 v3 v4 v5 : Value, args = #[v0, v1, v2, v3, v4, v5] := by
    have hs : args.size = 6 := by simpa [Cond.value, given_1] using g1
    obtain ⟨L⟩ := args
    match L, hs with
    | [v0, v1, v2, v3, v4, v5], _ => exact ⟨v0, v1, v2, v3, v4, v5, rfl⟩
  have hw := fun d (hd : d ∈ tables_1) => atoms_spec (ws := Jvm.Cond.code x code maxLocals ret :: tables_1) hat d (List.mem_cons_of_mem _ hd)
  have hfit : Fit s := fun {y c} hc i hi => by
    obtain ⟨ha, rfl⟩ := Array.getElem?_eq_some_iff.mp hc
    have q := List.all_eq_true.mp ((Array.all_eq_true_iff_forall_mem.mp hF) _ (Array.getElem_mem ha)) i (List.mem_range.mpr hi)
    simpa [Array.getElem?_eq_getElem hi] using q
  obtain ⟨hsets, hown0⟩ := atoms_of _ (rest_1_c_eq ▸ (show rest_1_c.before _ s = true from hrest))
  have hr0 := Cond.before_iff.mp hown0
  obtain ⟨i0, ei0⟩ := is_v g3
  obtain rfl : v0 = (.int i0) := Option.some.inj ei0
  obtain ⟨i1, ei1⟩ := is_v g5
  obtain rfl : v1 = (.int i1) := Option.some.inj ei1
  obtain ⟨i2, ei2⟩ := is_v g7
  obtain rfl : v2 = (.int i2) := Option.some.inj ei2
  obtain ⟨i3, ei3⟩ := is_v g9
  obtain rfl : v3 = (.int i3) := Option.some.inj ei3
  obtain ⟨i4, ei4⟩ := is_v g11
  obtain rfl : v4 = (.int i4) := Option.some.inj ei4
  obtain ⟨i5, ei5⟩ := is_v g12
  obtain rfl : v5 = (.int i5) := Option.some.inj ei5
  obtain ⟨q1, q2⟩ := and_e hn
  obtain ⟨q3, q4⟩ := and_e q2
  obtain ⟨q5, q6⟩ := and_e q4
  obtain ⟨q7, q8⟩ := and_e q6
  obtain ⟨q9, q10⟩ := and_e q8
  obtain ⟨q11, q12⟩ := and_e q10
  obtain ⟨q13, q14⟩ := and_e q12
  obtain ⟨q15, q16⟩ := and_e q14
  obtain ⟨q17, q18⟩ := and_e q16
  obtain ⟨q19, q20⟩ := and_e q18
  obtain ⟨q21, q22⟩ := and_e q20
  obtain ⟨q23, q24⟩ := and_e q22
  obtain ⟨q25, q26⟩ := and_e q24
  obtain ⟨q27, q28⟩ := and_e q26
  obtain ⟨q29, q30⟩ := and_e q28
  obtain ⟨q31, q32⟩ := and_e q30
  obtain ⟨q33, q34⟩ := and_e q32
  obtain ⟨q35, q36⟩ := and_e q34
  obtain ⟨q37, q38⟩ := and_e q36
  obtain ⟨q39, q40⟩ := and_e q38
  obtain ⟨q41, q42⟩ := and_e q40
  obtain ⟨q43, q44⟩ := and_e q42
  obtain ⟨q45, q46⟩ := and_e q44
  obtain ⟨q47, q48⟩ := and_e q46
  obtain ⟨q49, q50⟩ := and_e q48
  obtain ⟨q51, q52⟩ := and_e q50
  obtain ⟨q53, q54⟩ := and_e q52
  obtain ⟨q55, q56⟩ := and_e q54
  obtain ⟨q57, q58⟩ := and_e q56
  obtain ⟨q59, q60⟩ := and_e q58
  obtain ⟨q61, q62⟩ := and_e q60
  obtain ⟨q63, q64⟩ := and_e q62
  obtain ⟨q65, q66⟩ := and_e q64
  obtain ⟨q67, q68⟩ := and_e q66
  obtain ⟨q69, q70⟩ := and_e q68
  obtain ⟨q71, q72⟩ := and_e q70
  obtain ⟨q73, q74⟩ := and_e q72
  obtain ⟨q75, q76⟩ := and_e q74
  obtain ⟨q77, q78⟩ := and_e q76
  obtain ⟨q79, q80⟩ := and_e q78
  obtain ⟨q81, q82⟩ := and_e q80
  obtain ⟨q83, q84⟩ := and_e q82
  obtain ⟨q85, q86⟩ := and_e q84
  obtain ⟨q87, q88⟩ := and_e q86
  obtain ⟨q89, q90⟩ := and_e q88
  obtain ⟨q91, q92⟩ := and_e q90
  obtain ⟨wV, ev_wV⟩ := exa_v q3
  obtain ⟨w1_, ev_w1_⟩ := exa_v q7
  obtain ⟨w2_, ev_w2_⟩ := exa_v q11
  obtain ⟨w3_, ev_w3_⟩ := exa_v q15
  have S_wV := Sta.start ev_wV (Or.inl (hw _ (List.mem_of_getElem? (i := 54) rfl)))
  have E_wV := Exa.start ev_wV q3
  have S_w1_ := Sta.start ev_w1_ (Or.inr ⟨hw _ (List.mem_of_getElem? (i := 37) rfl), hw _ (List.mem_of_getElem? (i := 51) rfl)⟩)
  have E_w1_ := Exa.start ev_w1_ q7
  have S_w2_ := Sta.start ev_w2_ (Or.inr ⟨hw _ (List.mem_of_getElem? (i := 37) rfl), hw _ (List.mem_of_getElem? (i := 52) rfl)⟩)
  have E_w2_ := Exa.start ev_w2_ q11
  have S_w3_ := Sta.start ev_w3_ (Or.inr ⟨hw _ (List.mem_of_getElem? (i := 37) rfl), hw _ (List.mem_of_getElem? (i := 53) rfl)⟩)
  have E_w3_ := Exa.start ev_w3_ q15
  obtain ⟨iC, ev_iC⟩ := is_v (Cond.before_iff.mp (hsets _ (List.mem_of_getElem? (i := 1) rfl)))
  have S_iC := Sta.start ev_iC (Or.inl (hsets _ (List.mem_of_getElem? (i := 0) rfl)))
  have nz_iC : ¬ iC = (0 : Int32) := own_ne_int (Cond.before_iff.mp (hsets _ (List.mem_of_getElem? (i := 2) rfl))) ev_iC
  obtain ⟨vF, ev_vF, r_vF⟩ := isR_v (Cond.before_iff.mp (hsets _ (List.mem_of_getElem? (i := 8) rfl)))
  have S_vF := Sta.start ev_vF (Or.inl (hsets _ (List.mem_of_getElem? (i := 7) rfl)))
  obtain ⟨cl_wV, Ar_wV⟩ := Arr.start ev_wV q1
  obtain ⟨z_wV, y_wV⟩ := own_len (own_eq_int q5) ev_wV Ar_wV.1
  have V_wV : Arv s s.heap wV cl_wV.cls (Jvm.ClassFile.FieldType.object "com/example/naysay/naysay/access/Role") (3 : Int32) [(.ref w1_), (.ref w2_), (.ref w3_)] .null := Arv.start hfit Ar_wV z_wV y_wV (by decide) rfl ⟨own_elem q9 ev_w1_ ev_wV Ar_wV.1 rfl, own_elem q13 ev_w2_ ev_wV Ar_wV.1 rfl, own_elem q17 ev_w3_ ev_wV Ar_wV.1 rfl, trivial⟩
  obtain ⟨lS1, ev_lS1⟩ := exa_v q19
  have F_w1__label : Fld s s.heap w1_ "com/example/naysay/naysay/access/Role" "label" "Ljava/lang/String;" (.ref lS1) := Fld.start (by rw [← fld_at ev_w1_]; exact ev_lS1)
  have E_lS1 := Exa.start ev_lS1 q19
  have F_lS1_coder := own_fld q21 ev_lS1
  obtain ⟨lT1, ev_lT1⟩ := arr_v q23
  have F_lS1_value : Fld s s.heap lS1 "java/lang/String" "value" "[B" (.ref lT1) := Fld.start (by rw [← fld_at ev_lS1]; exact ev_lT1)
  obtain ⟨cl_lT1, Ar_lT1⟩ := Arr.start ev_lT1 q23
  obtain ⟨z_lT1, y_lT1⟩ := own_len (own_eq_int q25) ev_lT1 Ar_lT1.1
  have V_lT1 : Arv s s.heap lT1 cl_lT1.cls .byte (14 : Int32) [(.int (112 : Int32)), (.int (97 : Int32)), (.int (121 : Int32)), (.int (109 : Int32)), (.int (101 : Int32)), (.int (110 : Int32)), (.int (116 : Int32)), (.int (32 : Int32)), (.int (115 : Int32)), (.int (121 : Int32)), (.int (115 : Int32)), (.int (116 : Int32)), (.int (101 : Int32)), (.int (109 : Int32))] (.int (0 : Int32)) := Arv.start hfit Ar_lT1 z_lT1 y_lT1 (by decide) rfl ⟨own_eleI q43 ev_lT1 Ar_lT1.1 rfl, own_eleI q45 ev_lT1 Ar_lT1.1 rfl, own_eleI q47 ev_lT1 Ar_lT1.1 rfl, own_eleI q49 ev_lT1 Ar_lT1.1 rfl, own_eleI q51 ev_lT1 Ar_lT1.1 rfl, own_eleI q53 ev_lT1 Ar_lT1.1 rfl, own_eleI q55 ev_lT1 Ar_lT1.1 rfl, own_eleI q57 ev_lT1 Ar_lT1.1 rfl, own_eleI q59 ev_lT1 Ar_lT1.1 rfl, own_eleI q61 ev_lT1 Ar_lT1.1 rfl, own_eleI q63 ev_lT1 Ar_lT1.1 rfl, own_eleI q65 ev_lT1 Ar_lT1.1 rfl, own_eleI q67 ev_lT1 Ar_lT1.1 rfl, own_eleI q69 ev_lT1 Ar_lT1.1 rfl, trivial⟩
  obtain ⟨lS2, ev_lS2⟩ := exa_v q27
  have F_w2__label : Fld s s.heap w2_ "com/example/naysay/naysay/access/Role" "label" "Ljava/lang/String;" (.ref lS2) := Fld.start (by rw [← fld_at ev_w2_]; exact ev_lS2)
  have E_lS2 := Exa.start ev_lS2 q27
  have F_lS2_coder := own_fld q29 ev_lS2
  obtain ⟨lT2, ev_lT2⟩ := arr_v q31
  have F_lS2_value : Fld s s.heap lS2 "java/lang/String" "value" "[B" (.ref lT2) := Fld.start (by rw [← fld_at ev_lS2]; exact ev_lT2)
  obtain ⟨cl_lT2, Ar_lT2⟩ := Arr.start ev_lT2 q31
  obtain ⟨z_lT2, y_lT2⟩ := own_len (own_eq_int q33) ev_lT2 Ar_lT2.1
  have V_lT2 : Arv s s.heap lT2 cl_lT2.cls .byte (7 : Int32) [(.int (97 : Int32)), (.int (110 : Int32)), (.int (97 : Int32)), (.int (108 : Int32)), (.int (121 : Int32)), (.int (115 : Int32)), (.int (116 : Int32))] (.int (0 : Int32)) := Arv.start hfit Ar_lT2 z_lT2 y_lT2 (by decide) rfl ⟨own_eleI q71 ev_lT2 Ar_lT2.1 rfl, own_eleI q73 ev_lT2 Ar_lT2.1 rfl, own_eleI q75 ev_lT2 Ar_lT2.1 rfl, own_eleI q77 ev_lT2 Ar_lT2.1 rfl, own_eleI q79 ev_lT2 Ar_lT2.1 rfl, own_eleI q81 ev_lT2 Ar_lT2.1 rfl, own_eleI q83 ev_lT2 Ar_lT2.1 rfl, trivial⟩
  obtain ⟨lS3, ev_lS3⟩ := exa_v q35
  have F_w3__label : Fld s s.heap w3_ "com/example/naysay/naysay/access/Role" "label" "Ljava/lang/String;" (.ref lS3) := Fld.start (by rw [← fld_at ev_w3_]; exact ev_lS3)
  have E_lS3 := Exa.start ev_lS3 q35
  have F_lS3_coder := own_fld q37 ev_lS3
  obtain ⟨lT3, ev_lT3⟩ := arr_v q39
  have F_lS3_value : Fld s s.heap lS3 "java/lang/String" "value" "[B" (.ref lT3) := Fld.start (by rw [← fld_at ev_lS3]; exact ev_lT3)
  obtain ⟨cl_lT3, Ar_lT3⟩ := Arr.start ev_lT3 q39
  obtain ⟨z_lT3, y_lT3⟩ := own_len (own_eq_int q41) ev_lT3 Ar_lT3.1
  have V_lT3 : Arv s s.heap lT3 cl_lT3.cls .byte (5 : Int32) [(.int (97 : Int32)), (.int (100 : Int32)), (.int (109 : Int32)), (.int (105 : Int32)), (.int (110 : Int32))] (.int (0 : Int32)) := Arv.start hfit Ar_lT3 z_lT3 y_lT3 (by decide) rfl ⟨own_eleI q85 ev_lT3 Ar_lT3.1 rfl, own_eleI q87 ev_lT3 Ar_lT3.1 rfl, own_eleI q89 ev_lT3 Ar_lT3.1 rfl, own_eleI q91 ev_lT3 Ar_lT3.1 rfl, own_eleI q92 ev_lT3 Ar_lT3.1 rfl, trivial⟩
  have WW : World1 s  wV w1_ w2_ w3_ cl_wV.cls iC vF lS1 lT1 cl_lT1.cls lS2 lT2 cl_lT2.cls lS3 lT3 cl_lT3.cls := ⟨S_iC, nz_iC, S_vF, r_vF, S_wV, E_wV, S_w1_, E_w1_, S_w2_, E_w2_, S_w3_, E_w3_, V_wV, F_w1__label, E_lS1, F_lS1_coder, F_lS1_value, V_lT1, F_w2__label, E_lS2, F_lS2_coder, F_lS2_value, V_lT2, F_w3__label, E_lS3, F_lS3_coder, F_lS3_value, V_lT3⟩
  obtain ⟨la, lk, LF⟩ := LamF.start hw
  have hCH : CHv s EL s.vm s.heap := CHv.start (own_EL hw) (fun p hp => hcalls.1 p hp) (hsets _ (List.mem_of_getElem? (i := 2) rfl)) (own_wS hw _ (by simp [Bundle.stringAtoms])) (own_wS hw _ (by simp [Bundle.stringAtoms, Bundle.sN]))
  obtain ⟨n, o, h1, h2, h3, _, L, rfl, ⟨rfl, N⟩, -, hq⟩ := rm0 l s _ hw tables_1 i0 i1 i2 i3 i4 i5 la lk  wV w1_ w2_ w3_ cl_wV.cls iC vF lS1 lT1 cl_lT1.cls lS2 lT2 cl_lT2.cls lS3 lT3 cl_lT3.cls s.heap s.heap.size (Old.start s) LF WW  p e ha hc hk s m _ below hf ((Spec.applies_iff_loose hf).mp happ).1 ⟨rfl, State.Warmed39.refl s, rfl, hCH⟩ trivial
  refine ⟨n, _, h1, h2, h3, hpost _ _ _ _ _ _ ⟨Cond.after_iff.mpr rfl, Cond.after_iff.mpr (eq_i res_at (Term.int_eval (1)) rfl), trivial⟩ ⟨hq.1, hq.2.1, hq.2.2.1, (hq.2.2.2.sift fun y hy => Or.inr (N y hy)).mono (by decide) (by decide)⟩⟩
theorem main_1_1 : Claimed_1_1 := comes_1 fun _ _ _ _ _ _ h hF => ⟨h.1, hF⟩
theorem main_1_2 : Claimed_1_2 := comes_1 fun _ _ _ _ _ _ h hF => ⟨h.2.1, hF⟩
end Jvm.Pilot.@@N@@
namespace Jvm.Pilot.@@N@@
open Jvm Jvm.ClassFile Sem Op Lib Jvm.Free Jvm.Stand Jvm.Pilot.@@N@@.Jvm.D
/-! MADE BY PROGRAM (witnessworld.py) out of the Statement's table words and the real class files: 25 classes; the members and pool entries that the words name. The judged class is class 1, her method 3. -/
namespace start1
open Jvm.ClassFile
def u (s : String) : CpInfo := .utf8 (stringToUtf16 s)
/-- a pool by its gaps: so many unusable entries, then the entry; so many at the end -/
def gap : Nat → List CpInfo → List CpInfo
  | 0, r => r
  | n + 1, r => .unusable :: gap n r
def poolList (es : List (Nat × CpInfo)) (last : Nat) : List CpInfo := es.foldr (fun e r => gap e.1 (e.2 :: r)) (gap last [])
def pool (es : List (Nat × CpInfo)) (last : Nat) : Array CpInfo := ⟨poolList es last⟩
def fileOf (pool : Array CpInfo) (this : Nat) (attrs : Array Attribute := #[]) (ms : Array MethodInfo := #[]) (fl : Nat := 33) (sup : Nat := 0) (ifs : Array Nat := #[]) (fds : Array FieldInfo := #[]) : ClassFile where
  minorVersion := 0
  majorVersion := 65
  constantPool := pool
  accessFlags := fl
  thisClass := this
  superClass := sup
  interfaces := ifs
  fields := fds
  methods := ms
  attributes := attrs
def plain (name : String) (sup : Option ClassId) : Class where
  name := name
  kind := .ordinary
  loader := none
  accessFlags := 33
  super := sup
  interfaces := #[]
  cf := none
  fields := #[]
  methods := #[]
  instanceTypes := #[]
  staticTypes := #[]
  resolved := #[]
  callSites := []
  init := .initialized
  statics := none
  mirror := none

def pool0 : Array CpInfo := pool [(5, u "<init>"), (0, u "()V"), (1, .class_ 10), (1, u "java/lang/Object"), (85, u "clone"), (0, u "()Ljava/lang/Object;")] 26

def k0c0 : Code := { maxStack := 0, maxLocals := 1, code := object_method_1_code, exceptionTable := #[], attributes := #[] }
def k0m0 : Method := { name := "<init>", desc := "()V", sig := { parameters := [], returnType := none }, accessFlags := 1, code := some k0c0 }
def k0m1 : Method := { name := "clone", desc := "()Ljava/lang/Object;", sig := { parameters := [], returnType := some (.object "java/lang/Object") }, accessFlags := 260, code := none }
/-- java/lang/Object -/
def k0 : Class := { plain "java/lang/Object" none with
  accessFlags := 33
  interfaces := #[]
  cf := some (fileOf pool0 8 #[] #[{ accessFlags := 1, nameIndex := 5, descriptorIndex := 6, attributes := #[] }, { accessFlags := 260, nameIndex := 96, descriptorIndex := 97, attributes := #[] }] 33 0 #[] #[])
  fields := #[]
  methods := #[k0m0, k0m1]
  instanceTypes := #[]
  staticTypes := #[]
  resolved := Array.replicate 124 none
  statics := none }

def pool1 : Array CpInfo := pool [(2, .class_ 4), (1, u "java/lang/Object"), (0, u "<init>"), (0, u "()V"), (0, .string 8), (0, u "payment system"), (0, .methodref 10 11), (0, .class_ 12), (0, .nameAndType 13 14), (0, u "java/lang/String"), (0, u "equals"), (0, u "(Ljava/lang/Object;)Z"), (0, .fieldref 16 17), (0, .class_ 18), (0, .nameAndType 19 20), (0, u "com/example/naysay/naysay/access/Role"), (0, u "PAYMENT_SYSTEM"), (0, u "Lcom/example/naysay/naysay/access/Role;"), (0, .string 22), (0, u "analyst"), (0, .fieldref 16 24), (0, .nameAndType 25 20), (0, u "ANALYST"), (0, .string 27), (0, u "admin"), (0, .fieldref 16 29), (0, .nameAndType 30 20), (0, u "ADMIN"), (0, .integer 2147483647), (0, .methodref 33 34), (0, .class_ 35), (0, .nameAndType 36 37), (0, u "com/example/naysay/naysay/access/RoleNamedPinLaw"), (0, u "base"), (0, u "(IIII)[C"), (0, .methodref 10 39), (0, .nameAndType 5 40), (0, u "([C)V"), (0, .methodref 16 42), (0, .nameAndType 43 44), (0, u "named"), (0, u "(Ljava/lang/String;)Lcom/example/naysay/naysay/access/Role;"), (0, .methodref 33 46), (0, .nameAndType 47 44), (0, u "expected"), (3, u "law"), (0, u "(IIIIII)Z")] 4

def k1m0 : Method := { name := "<init>", desc := "()V", sig := { parameters := [], returnType := none }, accessFlags := 2, code := none }
def k1c1 : Code := { maxStack := 5, maxLocals := 4, code := method_2_code, exceptionTable := #[], attributes := #[] }
def k1m1 : Method := { name := "base", desc := "(IIII)[C", sig := { parameters := [.int, .int, .int, .int], returnType := some (.array .char) }, accessFlags := 10, code := some k1c1 }
def k1c2 : Code := { maxStack := 2, maxLocals := 1, code := method_3_code, exceptionTable := #[], attributes := #[] }
def k1m2 : Method := { name := "expected", desc := "(Ljava/lang/String;)Lcom/example/naysay/naysay/access/Role;", sig := { parameters := [(.object "java/lang/String")], returnType := some (.object "com/example/naysay/naysay/access/Role") }, accessFlags := 10, code := some k1c2 }
def k1c3 : Code := { maxStack := 4, maxLocals := 10, code := code, exceptionTable := #[], attributes := #[] }
def k1m3 : Method := { name := "law", desc := "(IIIIII)Z", sig := { parameters := [.int, .int, .int, .int, .int, .int], returnType := some .boolean }, accessFlags := 9, code := some k1c3 }
/-- com/example/naysay/naysay/access/RoleNamedPinLaw -/
def k1 : Class := { plain "com/example/naysay/naysay/access/RoleNamedPinLaw" (some 0) with
  accessFlags := 49
  interfaces := #[]
  cf := some (fileOf pool1 33 #[] #[{ accessFlags := 2, nameIndex := 5, descriptorIndex := 6, attributes := #[] }, { accessFlags := 10, nameIndex := 36, descriptorIndex := 37, attributes := #[] }, { accessFlags := 10, nameIndex := 47, descriptorIndex := 44, attributes := #[] }, { accessFlags := 9, nameIndex := 51, descriptorIndex := 52, attributes := #[] }] 49 2 #[] #[])
  fields := #[]
  methods := #[k1m0, k1m1, k1m2, k1m3]
  instanceTypes := #[]
  staticTypes := #[]
  resolved := Array.replicate 57 none
  statics := none }

def pool2 : Array CpInfo := pool [(1, .class_ 2), (0, u "java/io/Serializable"), (0, .class_ 4), (0, u "java/lang/Object")] 2

/-- java/io/Serializable -/
def k2 : Class := { plain "java/io/Serializable" (some 0) with
  accessFlags := 1537
  interfaces := #[]
  cf := some (fileOf pool2 1 #[] #[] 1537 3 #[] #[])
  fields := #[]
  methods := #[]
  instanceTypes := #[]
  staticTypes := #[]
  resolved := Array.replicate 7 none
  statics := none }

def pool3 : Array CpInfo := pool [(1, .class_ 2), (0, u "java/lang/Comparable"), (0, .class_ 4), (0, u "java/lang/Object")] 7

/-- java/lang/Comparable -/
def k3 : Class := { plain "java/lang/Comparable" (some 0) with
  accessFlags := 1537
  interfaces := #[]
  cf := some (fileOf pool3 1 #[] #[] 1537 3 #[] #[])
  fields := #[]
  methods := #[]
  instanceTypes := #[]
  staticTypes := #[]
  resolved := Array.replicate 12 none
  statics := none }

def pool4 : Array CpInfo := pool [(2, .class_ 4), (1, u "java/lang/CharSequence"), (42, .class_ 48), (0, u "java/lang/CharSequence$1CodePointIterator"), (10, .class_ 60), (0, u "java/lang/CharSequence$1CharIterator"), (5, .class_ 67), (0, u "java/lang/Object")] 63

/-- java/lang/CharSequence -/
def k4 : Class := { plain "java/lang/CharSequence" (some 0) with
  accessFlags := 1537
  interfaces := #[]
  cf := some (fileOf pool4 2 #[.nestMembers #[47, 59]] #[] 1537 66 #[] #[])
  fields := #[]
  methods := #[]
  instanceTypes := #[]
  staticTypes := #[]
  resolved := Array.replicate 131 none
  statics := none }

def pool5 : Array CpInfo := pool [(1, .class_ 2), (0, u "java/lang/constant/Constable"), (0, .class_ 4), (0, u "java/lang/Object")] 6

/-- java/lang/constant/Constable -/
def k5 : Class := { plain "java/lang/constant/Constable" (some 0) with
  accessFlags := 1537
  interfaces := #[]
  cf := some (fileOf pool5 1 #[] #[] 1537 3 #[] #[])
  fields := #[]
  methods := #[]
  instanceTypes := #[]
  staticTypes := #[]
  resolved := Array.replicate 11 none
  statics := none }

def pool6 : Array CpInfo := pool [(1, .class_ 2), (0, u "java/lang/constant/ConstantDesc"), (0, .class_ 4), (0, u "java/lang/Object")] 32

/-- java/lang/constant/ConstantDesc -/
def k6 : Class := { plain "java/lang/constant/ConstantDesc" (some 0) with
  accessFlags := 1537
  interfaces := #[]
  cf := some (fileOf pool6 1 #[] #[] 1537 3 #[] #[])
  fields := #[]
  methods := #[]
  instanceTypes := #[]
  staticTypes := #[]
  resolved := Array.replicate 37 none
  statics := none }

def pool7 : Array CpInfo := pool [(1, .methodref 2 3), (0, .class_ 4), (0, .nameAndType 5 6), (0, u "java/lang/Object"), (0, u "<init>"), (0, u "()V"), (2, .fieldref 10 11), (0, .class_ 12), (0, .nameAndType 13 14), (0, u "java/lang/String"), (0, u "value"), (0, u "[B"), (0, .fieldref 10 16), (0, .nameAndType 17 18), (0, u "coder"), (0, u "B"), (2, u "hash"), (0, u "I"), (2, u "hashIsZero"), (0, u "Z"), (0, .methodref 10 28), (0, .nameAndType 5 29), (0, u "([CIILjava/lang/Void;)V"), (8, .fieldref 10 39), (0, .nameAndType 40 26), (0, u "COMPACT_STRINGS"), (1, .class_ 44), (1, u "java/lang/StringUTF16"), (0, u "compress"), (1, .methodref 42 48), (0, .nameAndType 49 50), (0, u "coderFromArrayLen"), (0, u "([BI)B"), (56, .class_ 109), (1, u "java/lang/StringLatin1"), (67, .methodref 42 178), (0, .nameAndType 45 179), (0, u "([CII)[B"), (361, .methodref 107 542), (0, .nameAndType 543 544), (0, u "equals"), (0, u "([B[B)Z"), (28, u "(Ljava/lang/Object;)Z"), (1, .class_ 576), (0, u "java/lang/CharSequence"), (22, u "CASE_INSENSITIVE_ORDER"), (0, u "Ljava/util/Comparator;"), (409, u "([C)V"), (90, u "serialPersistentFields"), (0, u "[Ljava/io/ObjectStreamField;"), (0, .class_ 1104), (0, u "java/lang/String$CaseInsensitiveComparator"), (1, .class_ 1107), (0, u "java/io/Serializable"), (0, .class_ 1109), (0, u "java/lang/Comparable"), (0, .class_ 1111), (0, u "java/lang/constant/Constable"), (0, .class_ 1113), (0, u "java/lang/constant/ConstantDesc"), (2, u "serialVersionUID"), (0, u "J"), (3, u "REPL"), (0, u "C"), (2, u "LATIN1"), (1, u "UTF16")] 323

def k7m0 : Method := { name := "<init>", desc := "()V", sig := { parameters := [], returnType := none }, accessFlags := 1, code := none }
def k7c1 : Code := { maxStack := 5, maxLocals := 2, code := jdk_42_method_3_code, exceptionTable := #[], attributes := #[] }
def k7m1 : Method := { name := "<init>", desc := "([C)V", sig := { parameters := [(.array .char)], returnType := none }, accessFlags := 1, code := some k7c1 }
def k7c2 : Code := { maxStack := 2, maxLocals := 3, code := jdk_42_method_66_code, exceptionTable := #[], attributes := #[] }
def k7m2 : Method := { name := "equals", desc := "(Ljava/lang/Object;)Z", sig := { parameters := [(.object "java/lang/Object")], returnType := some .boolean }, accessFlags := 1, code := some k7c2 }
def k7c3 : Code := { maxStack := 4, maxLocals := 6, code := jdk_42_method_149_code, exceptionTable := #[], attributes := #[] }
def k7m3 : Method := { name := "<init>", desc := "([CIILjava/lang/Void;)V", sig := { parameters := [(.array .char), .int, .int, (.object "java/lang/Void")], returnType := none }, accessFlags := 2, code := some k7c3 }
/-- java/lang/String -/
def k7 : Class := { plain "java/lang/String" (some 0) with
  accessFlags := 49
  interfaces := #[2, 3, 4, 5, 6]
  cf := some (fileOf pool7 10 #[.nestMembers #[1103]] #[{ accessFlags := 1, nameIndex := 5, descriptorIndex := 6, attributes := #[] }, { accessFlags := 1, nameIndex := 5, descriptorIndex := 1010, attributes := #[] }, { accessFlags := 1, nameIndex := 543, descriptorIndex := 573, attributes := #[] }, { accessFlags := 2, nameIndex := 5, descriptorIndex := 29, attributes := #[] }] 49 2 #[1106, 1108, 575, 1110, 1112] #[{ accessFlags := 18, nameIndex := 13, descriptorIndex := 14, attributes := #[] }, { accessFlags := 18, nameIndex := 17, descriptorIndex := 18, attributes := #[] }, { accessFlags := 2, nameIndex := 21, descriptorIndex := 22, attributes := #[] }, { accessFlags := 2, nameIndex := 25, descriptorIndex := 26, attributes := #[] }, { accessFlags := 26, nameIndex := 1116, descriptorIndex := 1117, attributes := #[] }, { accessFlags := 24, nameIndex := 40, descriptorIndex := 26, attributes := #[] }, { accessFlags := 26, nameIndex := 1101, descriptorIndex := 1102, attributes := #[] }, { accessFlags := 26, nameIndex := 1121, descriptorIndex := 1122, attributes := #[] }, { accessFlags := 25, nameIndex := 599, descriptorIndex := 600, attributes := #[] }, { accessFlags := 24, nameIndex := 1125, descriptorIndex := 18, attributes := #[] }, { accessFlags := 24, nameIndex := 1127, descriptorIndex := 18, attributes := #[] }])
  fields := #[{ name := "value", type := (.array .byte), accessFlags := 18, slot := 0, constantValue := 0 }, { name := "coder", type := .byte, accessFlags := 18, slot := 1, constantValue := 0 }, { name := "hash", type := .int, accessFlags := 2, slot := 2, constantValue := 0 }, { name := "hashIsZero", type := .boolean, accessFlags := 2, slot := 3, constantValue := 0 }, { name := "serialVersionUID", type := .long, accessFlags := 26, slot := 0, constantValue := 0 }, { name := "COMPACT_STRINGS", type := .boolean, accessFlags := 24, slot := 1, constantValue := 0 }, { name := "serialPersistentFields", type := (.array (.object "java/io/ObjectStreamField")), accessFlags := 26, slot := 2, constantValue := 0 }, { name := "REPL", type := .char, accessFlags := 26, slot := 3, constantValue := 0 }, { name := "CASE_INSENSITIVE_ORDER", type := (.object "java/util/Comparator"), accessFlags := 25, slot := 4, constantValue := 0 }, { name := "LATIN1", type := .byte, accessFlags := 24, slot := 5, constantValue := 0 }, { name := "UTF16", type := .byte, accessFlags := 24, slot := 6, constantValue := 0 }]
  methods := #[k7m0, k7m1, k7m2, k7m3]
  instanceTypes := #[(.array .byte), .byte, .int, .boolean]
  staticTypes := #[.long, .boolean, (.array (.object "java/io/ObjectStreamField")), .char, (.object "java/util/Comparator"), .byte, .byte]
  resolved := Array.replicate 1451 none
  statics := some 0 }

def pool8 : Array CpInfo := pool [(6, .class_ 8), (1, u "java/lang/Object"), (0, u "<init>"), (0, u "()V"), (1, .class_ 14), (1, u "java/lang/StringUTF16"), (31, u "$assertionsDisabled"), (0, u "Z"), (13, u "HI_BYTE_SHIFT"), (0, u "I"), (2, u "LO_BYTE_SHIFT"), (49, .methodref 12 116), (0, .nameAndType 117 118), (0, u "compress"), (0, u "([CI[BII)I"), (3, u "([CII)[B"), (138, u "coderFromArrayLen"), (0, u "([BI)B"), (106, .class_ 371), (1, u "java/lang/StringUTF16$LinesSpliterator"), (58, u "MAX_LENGTH"), (196, .class_ 628), (0, u "java/lang/StringUTF16$CodePointsSpliterator"), (0, .class_ 630), (0, u "java/lang/StringUTF16$CharsSpliterator")] 4

def k8m0 : Method := { name := "<init>", desc := "()V", sig := { parameters := [], returnType := none }, accessFlags := 0, code := none }
def k8c1 : Code := { maxStack := 2, maxLocals := 2, code := jdk_52_method_15_code, exceptionTable := #[], attributes := #[] }
def k8m1 : Method := { name := "coderFromArrayLen", desc := "([BI)B", sig := { parameters := [(.array .byte), .int], returnType := some .byte }, accessFlags := 8, code := some k8c1 }
def k8c2 : Code := { maxStack := 5, maxLocals := 6, code := jdk_52_method_16_code, exceptionTable := #[], attributes := #[] }
def k8m2 : Method := { name := "compress", desc := "([CII)[B", sig := { parameters := [(.array .char), .int, .int], returnType := some (.array .byte) }, accessFlags := 9, code := some k8c2 }
def k8c3 : Code := { maxStack := 3, maxLocals := 7, code := jdk_52_method_21_code, exceptionTable := #[], attributes := #[] }
def k8m3 : Method := { name := "compress", desc := "([CI[BII)I", sig := { parameters := [(.array .char), .int, (.array .byte), .int, .int], returnType := some .int }, accessFlags := 9, code := some k8c3 }
/-- java/lang/StringUTF16 -/
def k8 : Class := { plain "java/lang/StringUTF16" (some 0) with
  accessFlags := 48
  interfaces := #[]
  cf := some (fileOf pool8 12 #[.nestMembers #[627, 629, 369]] #[{ accessFlags := 0, nameIndex := 9, descriptorIndex := 10, attributes := #[] }, { accessFlags := 8, nameIndex := 261, descriptorIndex := 262, attributes := #[] }, { accessFlags := 9, nameIndex := 117, descriptorIndex := 122, attributes := #[] }, { accessFlags := 9, nameIndex := 117, descriptorIndex := 118, attributes := #[] }] 48 6 #[] #[{ accessFlags := 26, nameIndex := 61, descriptorIndex := 62, attributes := #[] }, { accessFlags := 26, nameIndex := 65, descriptorIndex := 62, attributes := #[] }, { accessFlags := 24, nameIndex := 430, descriptorIndex := 62, attributes := #[] }, { accessFlags := 4120, nameIndex := 46, descriptorIndex := 47, attributes := #[] }])
  fields := #[{ name := "HI_BYTE_SHIFT", type := .int, accessFlags := 26, slot := 0, constantValue := 0 }, { name := "LO_BYTE_SHIFT", type := .int, accessFlags := 26, slot := 1, constantValue := 0 }, { name := "MAX_LENGTH", type := .int, accessFlags := 24, slot := 2, constantValue := 0 }, { name := "$assertionsDisabled", type := .boolean, accessFlags := 4120, slot := 3, constantValue := 0 }]
  methods := #[k8m0, k8m1, k8m2, k8m3]
  instanceTypes := #[]
  staticTypes := #[.int, .int, .int, .boolean]
  resolved := Array.replicate 635 none
  statics := none }

def pool9 : Array CpInfo := pool [(2, .class_ 4), (1, u "java/lang/Enum"), (0, u "name"), (0, u "Ljava/lang/String;"), (2, u "ordinal"), (0, u "I"), (1, .class_ 14), (1, u "java/lang/Object"), (4, u "hash"), (86, .class_ 108), (1, u "java/lang/Enum$EnumDesc"), (2, .class_ 112), (0, u "java/lang/constant/Constable"), (0, .class_ 114), (0, u "java/lang/Comparable"), (0, .class_ 116), (0, u "java/io/Serializable")] 87

/-- java/lang/Enum -/
def k9 : Class := { plain "java/lang/Enum" (some 0) with
  accessFlags := 1057
  interfaces := #[5, 3, 2]
  cf := some (fileOf pool9 2 #[.nestMembers #[106]] #[] 1057 12 #[111, 113, 115] #[{ accessFlags := 18, nameIndex := 5, descriptorIndex := 6, attributes := #[] }, { accessFlags := 18, nameIndex := 9, descriptorIndex := 10, attributes := #[] }, { accessFlags := 2, nameIndex := 19, descriptorIndex := 10, attributes := #[] }])
  fields := #[{ name := "name", type := (.object "java/lang/String"), accessFlags := 18, slot := 0, constantValue := 0 }, { name := "ordinal", type := .int, accessFlags := 18, slot := 1, constantValue := 0 }, { name := "hash", type := .int, accessFlags := 2, slot := 2, constantValue := 0 }]
  methods := #[]
  instanceTypes := #[(.object "java/lang/String"), .int, .int]
  staticTypes := #[]
  resolved := Array.replicate 204 none
  statics := none }

def pool10 : Array CpInfo := pool [(1, .class_ 2), (0, u "com/example/naysay/naysay/access/Role"), (2, u "PAYMENT_SYSTEM"), (0, u "Lcom/example/naysay/naysay/access/Role;"), (2, u "ANALYST"), (2, u "ADMIN"), (0, .fieldref 1 14), (0, .nameAndType 15 16), (0, u "$VALUES"), (0, u "[Lcom/example/naysay/naysay/access/Role;"), (0, .methodref 18 19), (0, .class_ 16), (0, .nameAndType 20 21), (0, u "clone"), (0, u "()Ljava/lang/Object;"), (1, .class_ 25), (1, u "java/lang/Enum"), (6, .fieldref 1 33), (0, .nameAndType 34 35), (0, u "label"), (0, u "Ljava/lang/String;"), (2, u "ofAccount"), (0, u "Z"), (2, u "description"), (2, u "rights"), (0, u "Ljava/util/Set;"), (0, .methodref 1 48), (0, .nameAndType 49 50), (0, u "values"), (0, u "()[Lcom/example/naysay/naysay/access/Role;"), (0, .invokeDynamic 0 52), (0, .nameAndType 53 54), (0, u "apply"), (0, u "()Ljava/util/function/Function;"), (0, .methodref 56 57), (0, .class_ 58), (0, .nameAndType 59 60), (0, u "com/example/naysay/naysay/rules/Names"), (0, u "find"), (0, u "([Ljava/lang/Object;Ljava/util/function/Function;Ljava/lang/String;)Ljava/lang/Object;"), (64, u "(Ljava/lang/String;)Lcom/example/naysay/naysay/access/Role;"), (2, u "named"), (0, u "()Ljava/lang/String;"), (9, .methodType 140), (0, u "(Ljava/lang/Object;)Ljava/lang/Object;"), (0, .methodHandle 5 142), (0, .methodref 1 143), (0, .nameAndType 34 129), (0, .methodType 145), (0, u "(Lcom/example/naysay/naysay/access/Role;)Ljava/lang/String;"), (0, .methodHandle 6 147), (0, .methodref 148 149), (0, .class_ 150), (0, .nameAndType 151 152), (0, u "java/lang/invoke/LambdaMetafactory"), (0, u "metafactory"), (0, u "(Ljava/lang/invoke/MethodHandles$Lookup;Ljava/lang/String;Ljava/lang/invoke/MethodType;Ljava/lang/invoke/MethodType;Ljava/lang/invoke/MethodHandle;Ljava/lang/invoke/MethodType;)Ljava/lang/invoke/CallSite;")] 6

def k10c0 : Code := { maxStack := 1, maxLocals := 0, code := prog_4_method_1_code, exceptionTable := #[], attributes := #[] }
def k10m0 : Method := { name := "values", desc := "()[Lcom/example/naysay/naysay/access/Role;", sig := { parameters := [], returnType := some (.array (.object "com/example/naysay/naysay/access/Role")) }, accessFlags := 9, code := some k10c0 }
def k10c1 : Code := { maxStack := 3, maxLocals := 1, code := prog_4_method_4_code, exceptionTable := #[], attributes := #[] }
def k10m1 : Method := { name := "named", desc := "(Ljava/lang/String;)Lcom/example/naysay/naysay/access/Role;", sig := { parameters := [(.object "java/lang/String")], returnType := some (.object "com/example/naysay/naysay/access/Role") }, accessFlags := 9, code := some k10c1 }
def k10c2 : Code := { maxStack := 1, maxLocals := 1, code := prog_4_method_5_code, exceptionTable := #[], attributes := #[] }
def k10m2 : Method := { name := "label", desc := "()Ljava/lang/String;", sig := { parameters := [], returnType := some (.object "java/lang/String") }, accessFlags := 1, code := some k10c2 }
/-- com/example/naysay/naysay/access/Role -/
def k10 : Class := { plain "com/example/naysay/naysay/access/Role" (some 9) with
  accessFlags := 16433
  interfaces := #[]
  cf := some (fileOf pool10 1 #[.bootstrapMethods #[⟨146, #[139, 141, 144]⟩]] #[{ accessFlags := 9, nameIndex := 49, descriptorIndex := 50, attributes := #[] }, { accessFlags := 9, nameIndex := 128, descriptorIndex := 125, attributes := #[] }, { accessFlags := 1, nameIndex := 34, descriptorIndex := 129, attributes := #[] }] 16433 23 #[] #[{ accessFlags := 16409, nameIndex := 5, descriptorIndex := 6, attributes := #[] }, { accessFlags := 16409, nameIndex := 9, descriptorIndex := 6, attributes := #[] }, { accessFlags := 16409, nameIndex := 12, descriptorIndex := 6, attributes := #[] }, { accessFlags := 18, nameIndex := 34, descriptorIndex := 35, attributes := #[] }, { accessFlags := 18, nameIndex := 38, descriptorIndex := 39, attributes := #[] }, { accessFlags := 18, nameIndex := 42, descriptorIndex := 35, attributes := #[] }, { accessFlags := 18, nameIndex := 45, descriptorIndex := 46, attributes := #[] }, { accessFlags := 4122, nameIndex := 15, descriptorIndex := 16, attributes := #[] }])
  fields := #[{ name := "PAYMENT_SYSTEM", type := (.object "com/example/naysay/naysay/access/Role"), accessFlags := 16409, slot := 0, constantValue := 0 }, { name := "ANALYST", type := (.object "com/example/naysay/naysay/access/Role"), accessFlags := 16409, slot := 1, constantValue := 0 }, { name := "ADMIN", type := (.object "com/example/naysay/naysay/access/Role"), accessFlags := 16409, slot := 2, constantValue := 0 }, { name := "label", type := (.object "java/lang/String"), accessFlags := 18, slot := 3, constantValue := 0 }, { name := "ofAccount", type := .boolean, accessFlags := 18, slot := 4, constantValue := 0 }, { name := "description", type := (.object "java/lang/String"), accessFlags := 18, slot := 5, constantValue := 0 }, { name := "rights", type := (.object "java/util/Set"), accessFlags := 18, slot := 6, constantValue := 0 }, { name := "$VALUES", type := (.array (.object "com/example/naysay/naysay/access/Role")), accessFlags := 4122, slot := 3, constantValue := 0 }]
  methods := #[k10m0, k10m1, k10m2]
  instanceTypes := #[(.object "java/lang/String"), .int, .int, (.object "java/lang/String"), .boolean, (.object "java/lang/String"), (.object "java/util/Set")]
  staticTypes := #[(.object "com/example/naysay/naysay/access/Role"), (.object "com/example/naysay/naysay/access/Role"), (.object "com/example/naysay/naysay/access/Role"), (.array (.object "com/example/naysay/naysay/access/Role"))]
  resolved := Array.replicate 159 none
  callSites := [(1, 3, .constant 3)]
  statics := some 1 }

def pool11 : Array CpInfo := pool [(1, .class_ 2), (0, u "java/lang/Cloneable"), (0, .class_ 4), (0, u "java/lang/Object")] 2

/-- java/lang/Cloneable -/
def k11 : Class := { plain "java/lang/Cloneable" (some 0) with
  accessFlags := 1537
  interfaces := #[]
  cf := some (fileOf pool11 1 #[] #[] 1537 3 #[] #[])
  fields := #[]
  methods := #[]
  instanceTypes := #[]
  staticTypes := #[]
  resolved := Array.replicate 7 none
  statics := none }

def pool12 : Array CpInfo := pool [(6, u "(Ljava/lang/Object;)Ljava/lang/Object;"), (2, u "apply"), (6, .class_ 18), (1, u "java/util/function/Function"), (0, .class_ 20), (0, u "java/lang/Object")] 56

def k12m0 : Method := { name := "apply", desc := "(Ljava/lang/Object;)Ljava/lang/Object;", sig := { parameters := [(.object "java/lang/Object")], returnType := some (.object "java/lang/Object") }, accessFlags := 1025, code := none }
/-- java/util/function/Function -/
def k12 : Class := { plain "java/util/function/Function" (some 0) with
  accessFlags := 1537
  interfaces := #[]
  cf := some (fileOf pool12 16 #[] #[{ accessFlags := 1025, nameIndex := 9, descriptorIndex := 6, attributes := #[] }] 1537 19 #[] #[])
  fields := #[]
  methods := #[k12m0]
  instanceTypes := #[]
  staticTypes := #[]
  resolved := Array.replicate 77 none
  statics := none }

def pool13 : Array CpInfo := pool [(2, .class_ 4), (1, u "java/lang/Object"), (0, u "<init>"), (0, u "()V"), (0, .interfaceMethodref 8 9), (0, .class_ 10), (0, .nameAndType 11 12), (0, u "java/util/function/Function"), (0, u "apply"), (0, u "(Ljava/lang/Object;)Ljava/lang/Object;"), (0, .class_ 14), (0, u "java/lang/String"), (0, .methodref 13 16), (0, .nameAndType 17 18), (0, u "equals"), (0, u "(Ljava/lang/Object;)Z"), (0, .class_ 20), (0, u "com/example/naysay/naysay/rules/Names"), (2, u "find"), (0, u "([Ljava/lang/Object;Ljava/util/function/Function;Ljava/lang/String;)Ljava/lang/Object;")] 7

def k13m0 : Method := { name := "<init>", desc := "()V", sig := { parameters := [], returnType := none }, accessFlags := 2, code := none }
def k13c1 : Code := { maxStack := 2, maxLocals := 8, code := prog_25_method_2_code, exceptionTable := #[], attributes := #[] }
def k13m1 : Method := { name := "find", desc := "([Ljava/lang/Object;Ljava/util/function/Function;Ljava/lang/String;)Ljava/lang/Object;", sig := { parameters := [(.array (.object "java/lang/Object")), (.object "java/util/function/Function"), (.object "java/lang/String")], returnType := some (.object "java/lang/Object") }, accessFlags := 9, code := some k13c1 }
/-- com/example/naysay/naysay/rules/Names -/
def k13 : Class := { plain "com/example/naysay/naysay/rules/Names" (some 0) with
  accessFlags := 49
  interfaces := #[]
  cf := some (fileOf pool13 19 #[] #[{ accessFlags := 2, nameIndex := 5, descriptorIndex := 6, attributes := #[] }, { accessFlags := 9, nameIndex := 23, descriptorIndex := 24, attributes := #[] }] 49 2 #[] #[])
  fields := #[]
  methods := #[k13m0, k13m1]
  instanceTypes := #[]
  staticTypes := #[]
  resolved := Array.replicate 32 none
  statics := none }

def pool14 : Array CpInfo := pool [(4, .class_ 6), (1, u "java/lang/Object"), (0, u "<init>"), (0, u "()V"), (5, .class_ 16), (1, u "java/lang/StringLatin1"), (104, u "$assertionsDisabled"), (0, u "Z"), (98, .class_ 223), (1, u "java/lang/StringLatin1$LinesSpliterator"), (57, u "equals"), (0, u "([B[B)Z"), (107, .class_ 391), (0, u "java/lang/StringLatin1$CharsSpliterator")] 3

def k14m0 : Method := { name := "<init>", desc := "()V", sig := { parameters := [], returnType := none }, accessFlags := 0, code := none }
def k14c1 : Code := { maxStack := 3, maxLocals := 3, code := jdk_43_method_13_code, exceptionTable := #[], attributes := #[] }
def k14m1 : Method := { name := "equals", desc := "([B[B)Z", sig := { parameters := [(.array .byte), (.array .byte)], returnType := some .boolean }, accessFlags := 9, code := some k14c1 }
/-- java/lang/StringLatin1 -/
def k14 : Class := { plain "java/lang/StringLatin1" (some 0) with
  accessFlags := 48
  interfaces := #[]
  cf := some (fileOf pool14 14 #[.nestMembers #[390, 221]] #[{ accessFlags := 0, nameIndex := 7, descriptorIndex := 8, attributes := #[] }, { accessFlags := 9, nameIndex := 281, descriptorIndex := 282, attributes := #[] }] 48 4 #[] #[{ accessFlags := 4120, nameIndex := 121, descriptorIndex := 122, attributes := #[] }])
  fields := #[{ name := "$assertionsDisabled", type := .boolean, accessFlags := 4120, slot := 0, constantValue := 0 }]
  methods := #[k14m0, k14m1]
  instanceTypes := #[]
  staticTypes := #[.boolean]
  resolved := Array.replicate 395 none
  statics := none }

def pool15 : Array CpInfo := pool [(2, .class_ 4), (1, u "java/lang/Object"), (0, u "<init>"), (0, u "()V"), (17, .class_ 26), (1, u "jdk/internal/util/Preconditions"), (28, .class_ 56), (0, u "jdk/internal/util/Preconditions$4"), (57, .class_ 115), (0, u "jdk/internal/util/Preconditions$1"), (7, u "SIOOBE_FORMATTER"), (0, u "Ljava/util/function/BiFunction;"), (0, .class_ 126), (0, u "jdk/internal/util/Preconditions$2"), (3, u "AIOOBE_FORMATTER"), (0, .class_ 132), (0, u "jdk/internal/util/Preconditions$3"), (3, u "IOOBE_FORMATTER")] 57

def k15m0 : Method := { name := "<init>", desc := "()V", sig := { parameters := [], returnType := none }, accessFlags := 1, code := none }
/-- jdk/internal/util/Preconditions -/
def k15 : Class := { plain "jdk/internal/util/Preconditions" (some 0) with
  accessFlags := 33
  interfaces := #[]
  cf := some (fileOf pool15 24 #[.nestMembers #[55, 131, 125, 114]] #[{ accessFlags := 1, nameIndex := 5, descriptorIndex := 6, attributes := #[] }] 33 2 #[] #[{ accessFlags := 25, nameIndex := 123, descriptorIndex := 124, attributes := #[] }, { accessFlags := 25, nameIndex := 130, descriptorIndex := 124, attributes := #[] }, { accessFlags := 25, nameIndex := 136, descriptorIndex := 124, attributes := #[] }])
  fields := #[{ name := "SIOOBE_FORMATTER", type := (.object "java/util/function/BiFunction"), accessFlags := 25, slot := 0, constantValue := 0 }, { name := "AIOOBE_FORMATTER", type := (.object "java/util/function/BiFunction"), accessFlags := 25, slot := 1, constantValue := 0 }, { name := "IOOBE_FORMATTER", type := (.object "java/util/function/BiFunction"), accessFlags := 25, slot := 2, constantValue := 0 }]
  methods := #[k15m0]
  instanceTypes := #[]
  staticTypes := #[(.object "java/util/function/BiFunction"), (.object "java/util/function/BiFunction"), (.object "java/util/function/BiFunction")]
  resolved := Array.replicate 194 none
  statics := some 2 }

def pool16 : Array CpInfo := pool [(9, u "<init>"), (6, .class_ 18), (1, u "java/lang/Object"), (0, u "()V"), (1, .class_ 23), (1, u "jdk/internal/util/ArraysSupport"), (0, u "LOG2_ARRAY_LONG_INDEX_SCALE"), (0, u "I"), (2, u "U"), (0, u "Ljdk/internal/misc/Unsafe;"), (8, u "BIG_ENDIAN"), (0, u "Z"), (8, u "LOG2_BYTE_BIT_SIZE"), (4, u "LOG2_ARRAY_INT_INDEX_SCALE"), (54, u "JLA"), (0, u "Ljdk/internal/access/JavaLangAccess;"), (11, u "LOG2_ARRAY_BOOLEAN_INDEX_SCALE"), (9, u "LOG2_ARRAY_BYTE_INDEX_SCALE"), (5, u "LOG2_ARRAY_CHAR_INDEX_SCALE"), (5, u "LOG2_ARRAY_SHORT_INDEX_SCALE"), (18, u "LOG2_ARRAY_FLOAT_INDEX_SCALE"), (24, u "LOG2_ARRAY_DOUBLE_INDEX_SCALE"), (89, u "T_BOOLEAN"), (2, u "T_CHAR"), (1, u "T_FLOAT"), (1, u "T_DOUBLE"), (1, u "T_BYTE"), (1, u "T_SHORT"), (1, u "T_INT"), (1, u "T_LONG"), (1, u "SOFT_MAX_ARRAY_LENGTH")] 83

def k16m0 : Method := { name := "<init>", desc := "()V", sig := { parameters := [], returnType := none }, accessFlags := 2, code := none }
/-- jdk/internal/util/ArraysSupport -/
def k16 : Class := { plain "jdk/internal/util/ArraysSupport" (some 0) with
  accessFlags := 33
  interfaces := #[]
  cf := some (fileOf pool16 21 #[] #[{ accessFlags := 2, nameIndex := 9, descriptorIndex := 19, attributes := #[] }] 33 16 #[] #[{ accessFlags := 24, nameIndex := 28, descriptorIndex := 29, attributes := #[] }, { accessFlags := 26, nameIndex := 38, descriptorIndex := 39, attributes := #[] }, { accessFlags := 25, nameIndex := 121, descriptorIndex := 25, attributes := #[] }, { accessFlags := 25, nameIndex := 131, descriptorIndex := 25, attributes := #[] }, { accessFlags := 25, nameIndex := 137, descriptorIndex := 25, attributes := #[] }, { accessFlags := 25, nameIndex := 143, descriptorIndex := 25, attributes := #[] }, { accessFlags := 25, nameIndex := 53, descriptorIndex := 25, attributes := #[] }, { accessFlags := 25, nameIndex := 24, descriptorIndex := 25, attributes := #[] }, { accessFlags := 25, nameIndex := 162, descriptorIndex := 25, attributes := #[] }, { accessFlags := 25, nameIndex := 187, descriptorIndex := 25, attributes := #[] }, { accessFlags := 26, nameIndex := 48, descriptorIndex := 25, attributes := #[] }, { accessFlags := 25, nameIndex := 277, descriptorIndex := 25, attributes := #[] }, { accessFlags := 25, nameIndex := 280, descriptorIndex := 25, attributes := #[] }, { accessFlags := 25, nameIndex := 282, descriptorIndex := 25, attributes := #[] }, { accessFlags := 25, nameIndex := 284, descriptorIndex := 25, attributes := #[] }, { accessFlags := 25, nameIndex := 286, descriptorIndex := 25, attributes := #[] }, { accessFlags := 25, nameIndex := 288, descriptorIndex := 25, attributes := #[] }, { accessFlags := 25, nameIndex := 290, descriptorIndex := 25, attributes := #[] }, { accessFlags := 25, nameIndex := 292, descriptorIndex := 25, attributes := #[] }, { accessFlags := 26, nameIndex := 108, descriptorIndex := 109, attributes := #[] }, { accessFlags := 25, nameIndex := 294, descriptorIndex := 25, attributes := #[] }])
  fields := #[{ name := "U", type := (.object "jdk/internal/misc/Unsafe"), accessFlags := 24, slot := 0, constantValue := 0 }, { name := "BIG_ENDIAN", type := .boolean, accessFlags := 26, slot := 1, constantValue := 0 }, { name := "LOG2_ARRAY_BOOLEAN_INDEX_SCALE", type := .int, accessFlags := 25, slot := 2, constantValue := 0 }, { name := "LOG2_ARRAY_BYTE_INDEX_SCALE", type := .int, accessFlags := 25, slot := 3, constantValue := 0 }, { name := "LOG2_ARRAY_CHAR_INDEX_SCALE", type := .int, accessFlags := 25, slot := 4, constantValue := 0 }, { name := "LOG2_ARRAY_SHORT_INDEX_SCALE", type := .int, accessFlags := 25, slot := 5, constantValue := 0 }, { name := "LOG2_ARRAY_INT_INDEX_SCALE", type := .int, accessFlags := 25, slot := 6, constantValue := 0 }, { name := "LOG2_ARRAY_LONG_INDEX_SCALE", type := .int, accessFlags := 25, slot := 7, constantValue := 0 }, { name := "LOG2_ARRAY_FLOAT_INDEX_SCALE", type := .int, accessFlags := 25, slot := 8, constantValue := 0 }, { name := "LOG2_ARRAY_DOUBLE_INDEX_SCALE", type := .int, accessFlags := 25, slot := 9, constantValue := 0 }, { name := "LOG2_BYTE_BIT_SIZE", type := .int, accessFlags := 26, slot := 10, constantValue := 0 }, { name := "T_BOOLEAN", type := .int, accessFlags := 25, slot := 11, constantValue := 0 }, { name := "T_CHAR", type := .int, accessFlags := 25, slot := 12, constantValue := 0 }, { name := "T_FLOAT", type := .int, accessFlags := 25, slot := 13, constantValue := 0 }, { name := "T_DOUBLE", type := .int, accessFlags := 25, slot := 14, constantValue := 0 }, { name := "T_BYTE", type := .int, accessFlags := 25, slot := 15, constantValue := 0 }, { name := "T_SHORT", type := .int, accessFlags := 25, slot := 16, constantValue := 0 }, { name := "T_INT", type := .int, accessFlags := 25, slot := 17, constantValue := 0 }, { name := "T_LONG", type := .int, accessFlags := 25, slot := 18, constantValue := 0 }, { name := "JLA", type := (.object "jdk/internal/access/JavaLangAccess"), accessFlags := 26, slot := 19, constantValue := 0 }, { name := "SOFT_MAX_ARRAY_LENGTH", type := .int, accessFlags := 25, slot := 20, constantValue := 0 }]
  methods := #[k16m0]
  instanceTypes := #[]
  staticTypes := #[(.object "jdk/internal/misc/Unsafe"), .boolean, .int, .int, .int, .int, .int, .int, .int, .int, .int, .int, .int, .int, .int, .int, .int, .int, .int, (.object "jdk/internal/access/JavaLangAccess"), .int]
  resolved := Array.replicate 378 none
  statics := none }

/-- the primitive byte -/
def k17 : Class := { plain "byte" none with kind := .primitive 'B', accessFlags := 0x411 }
/-- [B -/
def k18 : Class := { plain "[B" (some 0) with kind := .array 17 .byte, interfaces := #[11, 2], accessFlags := 1041 }

/-- the primitive char -/
def k19 : Class := { plain "char" none with kind := .primitive 'C', accessFlags := 0x411 }
/-- [C -/
def k20 : Class := { plain "[C" (some 0) with kind := .array 19 .char, interfaces := #[11, 2], accessFlags := 1041 }

/-- the primitive int -/
def k21 : Class := { plain "int" none with kind := .primitive 'I', accessFlags := 0x411 }
/-- [I -/
def k22 : Class := { plain "[I" (some 0) with kind := .array 21 .int, interfaces := #[11, 2], accessFlags := 1041 }

/-- [Lcom/example/naysay/naysay/access/Role; -/
def k23 : Class := { plain "[Lcom/example/naysay/naysay/access/Role;" (some 0) with kind := .array 10 (.object "com/example/naysay/naysay/access/Role"), interfaces := #[11, 2], accessFlags := 1041 }

def classes0 : Array Class := #[k0, k1, k2, k3, k4, k5, k6, k7, k8, k9, k10, k11, k12, k13, k14, k15, k16, k17, k18, k19, k20, k21, k22, k23]
/-- the class that the rule has made for the site at 3 of com/example/naysay/naysay/access/Role.named -/
def k24 : Class := Jvm.LamKit.madeRec { classes := classes0 } "com/example/naysay/naysay/access/Role" (Jvm.Lambda.Shape.mk "java/util/function/Function" "apply" (Jvm.ClassFile.MethodDescriptor.mk ([(Jvm.ClassFile.FieldType.object "java/lang/Object")] : List Jvm.ClassFile.FieldType) (Option.some (Jvm.ClassFile.FieldType.object "java/lang/Object"))) ([] : List Jvm.ClassFile.FieldType) (5 : Nat) "com/example/naysay/naysay/access/Role" "label" (Jvm.ClassFile.MethodDescriptor.mk ([] : List Jvm.ClassFile.FieldType) (Option.some (Jvm.ClassFile.FieldType.object "java/lang/String"))) false (Jvm.ClassFile.MethodDescriptor.mk ([(Jvm.ClassFile.FieldType.object "com/example/naysay/naysay/access/Role")] : List Jvm.ClassFile.FieldType) (Option.some (Jvm.ClassFile.FieldType.object "java/lang/String")))) 24

def heap : Heap := #[{ cls := 7, slots := #[.long 0, .int 1, .null, .int 0, .null, .int 0, .int 0], vm := .statics 7 },
  { cls := 10, slots := #[.ref 5, .ref 6, .ref 7, .ref 4], vm := .statics 10 },
  { cls := 15, slots := #[.null, .null, .null], vm := .statics 15 },
  { cls := 24, slots := #[], vm := .none },
  { cls := 23, slots := #[.ref 5, .ref 6, .ref 7], vm := .none },
  { cls := 10, slots := #[.null, .int 0, .int 0, .ref 8, .int 0, .null, .null], vm := .none },
  { cls := 10, slots := #[.null, .int 0, .int 0, .ref 10, .int 0, .null, .null], vm := .none },
  { cls := 10, slots := #[.null, .int 0, .int 0, .ref 12, .int 0, .null, .null], vm := .none },
  { cls := 7, slots := #[.ref 9, .int 0, .int 0, .int 0], vm := .none },
  { cls := 18, slots := #[.int 112, .int 97, .int 121, .int 109, .int 101, .int 110, .int 116, .int 32, .int 115, .int 121, .int 115, .int 116, .int 101, .int 109], vm := .none },
  { cls := 7, slots := #[.ref 11, .int 0, .int 0, .int 0], vm := .none },
  { cls := 18, slots := #[.int 97, .int 110, .int 97, .int 108, .int 121, .int 115, .int 116], vm := .none },
  { cls := 7, slots := #[.ref 13, .int 0, .int 0, .int 0], vm := .none },
  { cls := 18, slots := #[.int 97, .int 100, .int 109, .int 105, .int 110], vm := .none }]
def classes : Array Class := #[k0, k1, k2, k3, k4, k5, k6, k7, k8, k9, k10, k11, k12, k13, k14, k15, k16, k17, k18, k19, k20, k21, k22, k23, k24]
def interned : List (Array UInt16 × Addr) := []
def slotsUsed : Nat := 76
def theMethod : MethodId := ⟨1, 3⟩
def args0 : Array Value := #[.int 1, .int 1, .int 1, .int 1, .int 1, .int 1]
def aboutOver (below : List Frame) : State where
  vm := { classes := classes, interned := interned.toArray }
  heap := heap
  slotsUsed := slotsUsed
  threads := #[{ frames := .invoking theMethod args0 :: below }]
def below0 : List Frame := [.native { method := ⟨0, 0⟩, args := #[] }]
def about1 : State := aboutOver below0
def p0 : Program := .bare "" "" ""
def e0 : Env := launch0.env 0 0 0
theorem w_frames : about1.frames = Frame.invoking theMethod args0 :: below0 := rfl
set_option maxRecDepth 65536 in
theorem w_args : argsFit about1.vm theMethod args0 = true := by decide +kernel
set_option maxRecDepth 65536 in
theorem w_heap : heapFits about1 = true := by decide +kernel
set_option maxRecDepth 65536 in
theorem w_runnable : about1.curStatus? = some .runnable := by decide +kernel
set_option maxRecDepth 65536 in
theorem w_alone : about1.alone = true := by decide +kernel
set_option maxRecDepth 65536 in
theorem w_named : about1.methodNamed? x = some theMethod := by decide +kernel
set_option maxRecDepth 65536 in
theorem w_hears : about1.hears theMethod below0 = true := by decide +kernel
set_option maxRecDepth 65536 in
theorem w_ripe : about1.ripe theMethod args0 below0 = true := by decide +kernel
theorem w_running : about1.status = .running := rfl
set_option maxRecDepth 65536 in
theorem w_room : about1.hasRoom e0.platform room_1 = true :=
  launch0.hasRoom_least _ room_1 (by decide +kernel) (by decide +kernel) (by decide +kernel) (by decide +kernel) (by decide +kernel) (by decide +kernel)
theorem allAtoms_all (ts : List Jvm.Cond) (a : Array Jvm.Value) (st : Jvm.State) : (allAtoms ts).before a st = ts.all (fun c => c.before a st) := by
  induction ts with
  | nil => rfl
  | cons c t ih =>
    show (Jvm.Cond.and c (allAtoms t)).before a st = _
    rw [Jvm.Cond.before_and, ih, List.all_cons]
def words1 : List Jvm.Cond := Jvm.Cond.code x code maxLocals ret :: tables_1
/-- a 'code' word, met by the world's own term for the bytes: nothing is compared byte by byte -/
theorem code_word {y : MethodName} {bytes : ByteArray} {mx : Nat} {rt : Option FieldType} {a : Array Value} {s : State} {m : MethodId} {meth : Method} {c : Code} (h1 : s.methodNamed? y = some m) (h2 : s.vm.method? m = some meth) (h3 : meth.code = some c) (h4 : c.code = bytes)
    (h5 : (c.maxLocals == mx && c.exceptionTable.isEmpty && decide (c.maxStack ≤ mostOperands) && decide (meth.sig.returnType = rt) && !meth.locks && decide (parseMethodDescriptor y.desc = some meth.sig)) = true) : (Jvm.Cond.code y bytes mx rt).before a s = true := by
  simp only [Bool.and_eq_true, beq_iff_eq, Bool.not_eq_true', decide_eq_true_eq] at h5
  obtain ⟨⟨⟨⟨⟨g1, g2⟩, g3⟩, g4⟩, g5⟩, g6⟩ := h5
  simp [Cond.before, Cond.holds, Cond.value, h1, h2, h3, h4, g1, g2, g3, g4, g5, g6]
def isCode : Jvm.Cond → Bool
  | .code _ _ _ _ => true
  | _ => false
theorem all_split {L : List Jvm.Cond} {P : Jvm.Cond → Bool} (h1 : L.all (fun c => isCode c || P c) = true) (h2 : ∀ c ∈ L.filter isCode, P c = true) : L.all P = true := by
  refine List.all_eq_true.mpr fun c hc => ?_
  have h := List.all_eq_true.mp h1 c hc
  rcases Bool.eq_false_or_eq_true (isCode c) with hi | hi
  · exact h2 c (List.mem_filter.mpr ⟨hc, hi⟩)
  · simpa [hi] using h
set_option maxRecDepth 65536 in
theorem w_c0 : (Jvm.Cond.code x code maxLocals ret).before args0 about1 = true := code_word (m := ⟨1, 3⟩) (meth := k1m3) (c := k1c3) (by decide +kernel) rfl rfl rfl (by decide +kernel)
set_option maxRecDepth 65536 in
theorem w_c1 : (Jvm.Cond.code ({ cls := "com/example/naysay/naysay/access/RoleNamedPinLaw", name := "base", desc := "(IIII)[C" } : Jvm.MethodName) method_2_code (4 : Nat) (Option.some (Jvm.ClassFile.FieldType.array Jvm.ClassFile.FieldType.char))).before args0 about1 = true := code_word (m := ⟨1, 1⟩) (meth := k1m1) (c := k1c1) (by decide +kernel) rfl rfl rfl (by decide +kernel)
set_option maxRecDepth 65536 in
theorem w_c2 : (Jvm.Cond.code ({ cls := "java/lang/String", name := "<init>", desc := "([C)V" } : Jvm.MethodName) jdk_42_method_3_code (2 : Nat) (Option.none : Option Jvm.ClassFile.FieldType)).before args0 about1 = true := code_word (m := ⟨7, 1⟩) (meth := k7m1) (c := k7c1) (by decide +kernel) rfl rfl rfl (by decide +kernel)
set_option maxRecDepth 65536 in
theorem w_c3 : (Jvm.Cond.code ({ cls := "java/lang/String", name := "<init>", desc := "([CIILjava/lang/Void;)V" } : Jvm.MethodName) jdk_42_method_149_code (6 : Nat) (Option.none : Option Jvm.ClassFile.FieldType)).before args0 about1 = true := code_word (m := ⟨7, 3⟩) (meth := k7m3) (c := k7c3) (by decide +kernel) rfl rfl rfl (by decide +kernel)
set_option maxRecDepth 65536 in
theorem w_c4 : (Jvm.Cond.code ({ cls := "java/lang/Object", name := "<init>", desc := "()V" } : Jvm.MethodName) object_method_1_code (1 : Nat) (Option.none : Option Jvm.ClassFile.FieldType)).before args0 about1 = true := code_word (m := ⟨0, 0⟩) (meth := k0m0) (c := k0c0) (by decide +kernel) rfl rfl rfl (by decide +kernel)
set_option maxRecDepth 65536 in
theorem w_c5 : (Jvm.Cond.code ({ cls := "java/lang/StringUTF16", name := "compress", desc := "([CII)[B" } : Jvm.MethodName) jdk_52_method_16_code (6 : Nat) (Option.some (Jvm.ClassFile.FieldType.array Jvm.ClassFile.FieldType.byte))).before args0 about1 = true := code_word (m := ⟨8, 2⟩) (meth := k8m2) (c := k8c2) (by decide +kernel) rfl rfl rfl (by decide +kernel)
set_option maxRecDepth 65536 in
theorem w_c6 : (Jvm.Cond.code ({ cls := "java/lang/StringUTF16", name := "compress", desc := "([CI[BII)I" } : Jvm.MethodName) jdk_52_method_21_code (7 : Nat) (Option.some Jvm.ClassFile.FieldType.int)).before args0 about1 = true := code_word (m := ⟨8, 3⟩) (meth := k8m3) (c := k8c3) (by decide +kernel) rfl rfl rfl (by decide +kernel)
set_option maxRecDepth 65536 in
theorem w_c7 : (Jvm.Cond.code ({ cls := "java/lang/StringUTF16", name := "coderFromArrayLen", desc := "([BI)B" } : Jvm.MethodName) jdk_52_method_15_code (2 : Nat) (Option.some Jvm.ClassFile.FieldType.byte)).before args0 about1 = true := code_word (m := ⟨8, 1⟩) (meth := k8m1) (c := k8c1) (by decide +kernel) rfl rfl rfl (by decide +kernel)
set_option maxRecDepth 65536 in
theorem w_c8 : (Jvm.Cond.code ({ cls := "com/example/naysay/naysay/access/Role", name := "named", desc := "(Ljava/lang/String;)Lcom/example/naysay/naysay/access/Role;" } : Jvm.MethodName) prog_4_method_4_code (1 : Nat) (Option.some (Jvm.ClassFile.FieldType.object "com/example/naysay/naysay/access/Role"))).before args0 about1 = true := code_word (m := ⟨10, 1⟩) (meth := k10m1) (c := k10c1) (by decide +kernel) rfl rfl rfl (by decide +kernel)
set_option maxRecDepth 65536 in
theorem w_c9 : (Jvm.Cond.code ({ cls := "com/example/naysay/naysay/access/Role", name := "values", desc := "()[Lcom/example/naysay/naysay/access/Role;" } : Jvm.MethodName) prog_4_method_1_code (0 : Nat) (Option.some (Jvm.ClassFile.FieldType.array (Jvm.ClassFile.FieldType.object "com/example/naysay/naysay/access/Role")))).before args0 about1 = true := code_word (m := ⟨10, 0⟩) (meth := k10m0) (c := k10c0) (by decide +kernel) rfl rfl rfl (by decide +kernel)
set_option maxRecDepth 65536 in
theorem w_c10 : (Jvm.Cond.code ({ cls := "com/example/naysay/naysay/rules/Names", name := "find", desc := "([Ljava/lang/Object;Ljava/util/function/Function;Ljava/lang/String;)Ljava/lang/Object;" } : Jvm.MethodName) prog_25_method_2_code (8 : Nat) (Option.some (Jvm.ClassFile.FieldType.object "java/lang/Object"))).before args0 about1 = true := code_word (m := ⟨13, 1⟩) (meth := k13m1) (c := k13c1) (by decide +kernel) rfl rfl rfl (by decide +kernel)
set_option maxRecDepth 65536 in
theorem w_c11 : (Jvm.Cond.code ({ cls := "com/example/naysay/naysay/access/Role", name := "label", desc := "()Ljava/lang/String;" } : Jvm.MethodName) prog_4_method_5_code (1 : Nat) (Option.some (Jvm.ClassFile.FieldType.object "java/lang/String"))).before args0 about1 = true := code_word (m := ⟨10, 2⟩) (meth := k10m2) (c := k10c2) (by decide +kernel) rfl rfl rfl (by decide +kernel)
set_option maxRecDepth 65536 in
theorem w_c12 : (Jvm.Cond.code ({ cls := "java/lang/String", name := "equals", desc := "(Ljava/lang/Object;)Z" } : Jvm.MethodName) jdk_42_method_66_code (3 : Nat) (Option.some Jvm.ClassFile.FieldType.boolean)).before args0 about1 = true := code_word (m := ⟨7, 2⟩) (meth := k7m2) (c := k7c2) (by decide +kernel) rfl rfl rfl (by decide +kernel)
set_option maxRecDepth 65536 in
theorem w_c13 : (Jvm.Cond.code ({ cls := "java/lang/StringLatin1", name := "equals", desc := "([B[B)Z" } : Jvm.MethodName) jdk_43_method_13_code (3 : Nat) (Option.some Jvm.ClassFile.FieldType.boolean)).before args0 about1 = true := code_word (m := ⟨14, 1⟩) (meth := k14m1) (c := k14c1) (by decide +kernel) rfl rfl rfl (by decide +kernel)
set_option maxRecDepth 65536 in
theorem w_c14 : (Jvm.Cond.code ({ cls := "com/example/naysay/naysay/access/RoleNamedPinLaw", name := "expected", desc := "(Ljava/lang/String;)Lcom/example/naysay/naysay/access/Role;" } : Jvm.MethodName) method_3_code (1 : Nat) (Option.some (Jvm.ClassFile.FieldType.object "com/example/naysay/naysay/access/Role"))).before args0 about1 = true := code_word (m := ⟨1, 2⟩) (meth := k1m2) (c := k1c2) (by decide +kernel) rfl rfl rfl (by decide +kernel)
def codes1 : List Jvm.Cond := [Jvm.Cond.code x code maxLocals ret, Jvm.Cond.code ({ cls := "com/example/naysay/naysay/access/RoleNamedPinLaw", name := "base", desc := "(IIII)[C" } : Jvm.MethodName) method_2_code (4 : Nat) (Option.some (Jvm.ClassFile.FieldType.array Jvm.ClassFile.FieldType.char)), Jvm.Cond.code ({ cls := "java/lang/String", name := "<init>", desc := "([C)V" } : Jvm.MethodName) jdk_42_method_3_code (2 : Nat) (Option.none : Option Jvm.ClassFile.FieldType), Jvm.Cond.code ({ cls := "java/lang/String", name := "<init>", desc := "([CIILjava/lang/Void;)V" } : Jvm.MethodName) jdk_42_method_149_code (6 : Nat) (Option.none : Option Jvm.ClassFile.FieldType), Jvm.Cond.code ({ cls := "java/lang/Object", name := "<init>", desc := "()V" } : Jvm.MethodName) object_method_1_code (1 : Nat) (Option.none : Option Jvm.ClassFile.FieldType), Jvm.Cond.code ({ cls := "java/lang/StringUTF16", name := "compress", desc := "([CII)[B" } : Jvm.MethodName) jdk_52_method_16_code (6 : Nat) (Option.some (Jvm.ClassFile.FieldType.array Jvm.ClassFile.FieldType.byte)), Jvm.Cond.code ({ cls := "java/lang/StringUTF16", name := "compress", desc := "([CI[BII)I" } : Jvm.MethodName) jdk_52_method_21_code (7 : Nat) (Option.some Jvm.ClassFile.FieldType.int), Jvm.Cond.code ({ cls := "java/lang/StringUTF16", name := "coderFromArrayLen", desc := "([BI)B" } : Jvm.MethodName) jdk_52_method_15_code (2 : Nat) (Option.some Jvm.ClassFile.FieldType.byte), Jvm.Cond.code ({ cls := "com/example/naysay/naysay/access/Role", name := "named", desc := "(Ljava/lang/String;)Lcom/example/naysay/naysay/access/Role;" } : Jvm.MethodName) prog_4_method_4_code (1 : Nat) (Option.some (Jvm.ClassFile.FieldType.object "com/example/naysay/naysay/access/Role")), Jvm.Cond.code ({ cls := "com/example/naysay/naysay/access/Role", name := "values", desc := "()[Lcom/example/naysay/naysay/access/Role;" } : Jvm.MethodName) prog_4_method_1_code (0 : Nat) (Option.some (Jvm.ClassFile.FieldType.array (Jvm.ClassFile.FieldType.object "com/example/naysay/naysay/access/Role"))), Jvm.Cond.code ({ cls := "com/example/naysay/naysay/rules/Names", name := "find", desc := "([Ljava/lang/Object;Ljava/util/function/Function;Ljava/lang/String;)Ljava/lang/Object;" } : Jvm.MethodName) prog_25_method_2_code (8 : Nat) (Option.some (Jvm.ClassFile.FieldType.object "java/lang/Object")), Jvm.Cond.code ({ cls := "com/example/naysay/naysay/access/Role", name := "label", desc := "()Ljava/lang/String;" } : Jvm.MethodName) prog_4_method_5_code (1 : Nat) (Option.some (Jvm.ClassFile.FieldType.object "java/lang/String")), Jvm.Cond.code ({ cls := "java/lang/String", name := "equals", desc := "(Ljava/lang/Object;)Z" } : Jvm.MethodName) jdk_42_method_66_code (3 : Nat) (Option.some Jvm.ClassFile.FieldType.boolean), Jvm.Cond.code ({ cls := "java/lang/StringLatin1", name := "equals", desc := "([B[B)Z" } : Jvm.MethodName) jdk_43_method_13_code (3 : Nat) (Option.some Jvm.ClassFile.FieldType.boolean), Jvm.Cond.code ({ cls := "com/example/naysay/naysay/access/RoleNamedPinLaw", name := "expected", desc := "(Ljava/lang/String;)Lcom/example/naysay/naysay/access/Role;" } : Jvm.MethodName) method_3_code (1 : Nat) (Option.some (Jvm.ClassFile.FieldType.object "com/example/naysay/naysay/access/Role"))]
set_option maxRecDepth 65536 in
theorem codes_eq : words1.filter isCode = codes1 := rfl
theorem w_codes : ∀ c ∈ words1.filter isCode, c.before args0 about1 = true := by
  rw [codes_eq]
  intro c hc
  simp only [codes1, List.mem_cons, List.not_mem_nil, or_false] at hc
  rcases hc with rfl | rfl | rfl | rfl | rfl | rfl | rfl | rfl | rfl | rfl | rfl | rfl | rfl | rfl | rfl
  · exact w_c0
  · exact w_c1
  · exact w_c2
  · exact w_c3
  · exact w_c4
  · exact w_c5
  · exact w_c6
  · exact w_c7
  · exact w_c8
  · exact w_c9
  · exact w_c10
  · exact w_c11
  · exact w_c12
  · exact w_c13
  · exact w_c14
set_option maxRecDepth 65536 in
theorem w_t1 : (words1.take 24).all (fun c => isCode c || c.before args0 about1) = true := by decide +kernel
set_option maxRecDepth 65536 in
theorem w_t2 : ((words1.drop 24).take 24).all (fun c => isCode c || c.before args0 about1) = true := by decide +kernel
set_option maxRecDepth 65536 in
theorem w_t3 : (((words1.drop 24).drop 24).take 24).all (fun c => isCode c || c.before args0 about1) = true := by decide +kernel
set_option maxRecDepth 65536 in
theorem w_t4 : ((((words1.drop 24).drop 24).drop 24).take 24).all (fun c => isCode c || c.before args0 about1) = true := by decide +kernel
set_option maxRecDepth 65536 in
theorem w_t5 : ((((words1.drop 24).drop 24).drop 24).drop 24).all (fun c => isCode c || c.before args0 about1) = true := by decide +kernel
theorem w_tables : (allAtoms (Jvm.Cond.code x code maxLocals ret :: tables_1)).before args0 about1 = true := by
  rw [allAtoms_all]
  show words1.all (fun c => c.before args0 about1) = true
  refine all_split ?_ w_codes
  rw [← List.take_append_drop 24 words1, List.all_append, w_t1, ← List.take_append_drop 24 (words1.drop 24), List.all_append, w_t2, ← List.take_append_drop 24 ((words1.drop 24).drop 24), List.all_append, w_t3, ← List.take_append_drop 24 (((words1.drop 24).drop 24).drop 24), List.all_append, w_t4, w_t5]
  rfl
set_option maxRecDepth 65536 in
theorem w_rest : rest_1_c.before args0 about1 = true := by decide +kernel
set_option maxRecDepth 65536 in
theorem w_case : (Jvm.Cond.and given_1 narrow_1).before args0 about1 = true := by decide +kernel
set_option maxRecDepth 65536 in
theorem w_consts : constsHeld consts_1 about1 := Jvm.Lit.constsHeldB_iff.mp (by decide +kernel)
theorem w_applies : (headSpec (Jvm.Cond.code x code maxLocals ret :: tables_1) room_1).applies x e0.platform about1 = true :=
  (Spec.applies_iff w_frames).mpr ⟨w_running, w_runnable, w_alone, w_named, w_hears, w_ripe, w_room, w_tables⟩
theorem atStart : AtStart classFile x code maxLocals ret World_1 tables_1 room_1 Calls_1 rest_1 Pre_1 launch0 p0 e0 about1 theMethod args0 below0 :=
  ⟨lists_1, trivial, launch0.admits_env _ _ _, launch0.least_env, fairChoices_fair.cas, fairChoices_fair.clock, w_frames, w_args, w_heap, w_applies, ⟨w_consts, trivial⟩, w_rest, w_case⟩
end start1
theorem witness_1 : WitnessClaimed_1 := ⟨start1.p0, start1.e0, start1.about1, start1.theMethod, start1.args0, start1.below0, start1.atStart⟩
end Jvm.Pilot.@@N@@
