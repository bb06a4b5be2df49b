import JvmDerived
import JvmDerived.Pilot.@@N@@Statement
import JvmDerived.Pilot.@@N@@Code
set_option linter.unusedVariables false
set_option linter.unusedSimpArgs false
namespace Jvm.Pilot.@@N@@
open Jvm Jvm.ClassFile Sem Op Lib Jvm.Free Jvm.Stand Jvm.LawKit Jvm.RoadKit Bundle Jvm.Pilot.@@N@@.Jvm.D

/-- the run that stands at T with the top frame f ends, and its end is as P says -/
def Go (p : Program) (e : Env) (below : List Frame) (P : Outcome → State → Prop) (T : State) (f : JFrame) : Prop :=
  ∃ s₂ o, Steps p.tables e below (T.setTop f) s₂ ∧ s₂.status = .running ∧ Ended s₂ below o ∧ P o s₂
theorem Go.st {p : Program} {e : Env} {below : List Frame} {P : Outcome → State → Prop} {T T' : State} {f f' : JFrame}
    (h : ∀ t, Steps p.tables e below (T'.setTop f') t → Steps p.tables e below (T.setTop f) t) (k : Go p e below P T' f') : Go p e below P T f := by
  obtain ⟨s₂, o, a, b⟩ := k
  exact ⟨s₂, o, h _ a, b⟩
theorem Go.tr {p : Program} {e : Env} {below : List Frame} {P : Outcome → State → Prop} {T T' : State} {f f' : JFrame}
    (h : Steps p.tables e below (T.setTop f) (T'.setTop f')) (k : Go p e below P T' f') : Go p e below P T f := by
  obtain ⟨s₂, o, a, b⟩ := k
  exact ⟨s₂, o, h.trans a, b⟩
/-- what a contract says of the end -/
abbrev Done (s : State) (Q : Option Value → Heap → List Loc → Prop) (C S : Nat) (o : Outcome) (U' : State) : Prop :=
  ∃ v L, o = .returned v ∧ Q v U'.heap L ∧ FrameEnd s o U' L C S
theorem Go.ret {p : Program} {l : Launch} {e : Env} {R : Room} {s : State} {m : MethodId} {args : Array Value} {below : List Frame} {meth : Method} {c : Code} {T : State} {locs : List Loc} {cells slots : Nat} {h : Heap}
    {Q : Option Value → Heap → List Loc → Prop} {C S : Nat} {v : Option Value} {f : JFrame}
    (X : Stand p l e R s m args below meth c T locs cells slots) (hlk : meth.locks = false) (hv : meth.sig.returnType = none → v = none)
    (hs : ∀ fs, (∀ (f : JFrame) (acts : List Action), f.method = m → f.locked = none → f.entered = [] → (doReturn e (T.setTop f) acts v).1 = T.setFrames fs) → Steps p.tables e below (T.setTop f) (T.setFrames fs))
    (eT : T.heap = h) (hQ : Q v h locs) (hc : cells ≤ C) (hl : slots ≤ S) : Go p e below (Done s Q C S) T f := by
  obtain ⟨fs, hr, hrun, hended, hW, hsame⟩ := X.leave (v := v) hv hlk
  refine ⟨_, _, hs fs hr, hrun, hended, v, locs, rfl, ?_, ⟨_, rfl⟩, hW, hsame.mono hc hl⟩
  show Q v T.heap locs
  rw [eT]; exact hQ
theorem Go.retB {p : Program} {l : Launch} {e : Env} {R : Room} {s : State} {m : MethodId} {args : Array Value} {below : List Frame} {meth : Method} {c : Code} {T : State} {locs : List Loc} {cells slots : Nat} {h : Heap}
    {Q : Option Value → Heap → List Loc → Prop} {C S : Nat} {pc : Nat} {Ls : Array Slot} {z : Int32} {rest : List Value} {t : FieldType}
    (X : Stand p l e R s m args below meth c T locs cells slots) (hlk : meth.locks = false) (hx : p.tables.exec = Jvm.exec) (hret : meth.sig.returnType = some t) (ht : t = .boolean ∨ t = .byte ∨ t = .char ∨ t = .short)
    (hd : decode c.code pc = .ok (.ireturn, 1)) (eT : T.heap = h) (hQ : Q (some (.int (nar t z))) h locs) (hc : cells ≤ C) (hl : slots ≤ S) : Go p e below (Done s Q C S) T (mkF m pc Ls (.int z :: rest)) :=
  Go.ret X hlk (fun h => by rw [hret] at h; cases h) (fun _ hr => retN X hx hret ht hd hr) eT hQ hc hl
theorem Go.retV {p : Program} {l : Launch} {e : Env} {R : Room} {s : State} {m : MethodId} {args : Array Value} {below : List Frame} {meth : Method} {c : Code} {T : State} {locs : List Loc} {cells slots : Nat} {h : Heap}
    {Q : Option Value → Heap → List Loc → Prop} {C S : Nat} {pc : Nat} {Ls : Array Slot} {w : Value} {rest : List Value} {t : FieldType} {i : Instr}
    (X : Stand p l e R s m args below meth c T locs cells slots) (hlk : meth.locks = false) (hx : p.tables.exec = Jvm.exec) (hret : meth.sig.returnType = some t) (hn : narrow t w = w)
    (hi : (i = .ireturn ∧ (t = .int ∨ t = .boolean ∨ t = .byte ∨ t = .char ∨ t = .short) ∧ ∃ z, w = .int z) ∨ (i = .lreturn ∧ t = .long ∧ ∃ z, w = .long z) ∨ (i = .dreturn ∧ t = .double ∧ ∃ z, w = .double z) ∨ (i = .freturn ∧ t = .float ∧ ∃ z, w = .float z) ∨ (i = .areturn ∧ t.isReference = true ∧ w.isRef = true))
    (hd : decode c.code pc = .ok (i, 1)) (eT : T.heap = h) (hQ : Q (some w) h locs) (hc : cells ≤ C) (hl : slots ≤ S) : Go p e below (Done s Q C S) T (mkF m pc Ls (w :: rest)) :=
  Go.ret X hlk (fun h => by rw [hret] at h; cases h) (fun _ hr => retOut X hx hret hn hi hd hr) eT hQ hc hl
theorem Go.ret0 {p : Program} {l : Launch} {e : Env} {R : Room} {s : State} {m : MethodId} {args : Array Value} {below : List Frame} {meth : Method} {c : Code} {T : State} {locs : List Loc} {cells slots : Nat} {h : Heap}
    {Q : Option Value → Heap → List Loc → Prop} {C S : Nat} {pc : Nat} {Ls : Array Slot}
    (X : Stand p l e R s m args below meth c T locs cells slots) (hlk : meth.locks = false) (hx : p.tables.exec = Jvm.exec) (hret : meth.sig.returnType = none)
    (hd : decode c.code pc = .ok (.return_, 1)) (eT : T.heap = h) (hQ : Q none h locs) (hc : cells ≤ C) (hl : slots ≤ S) : Go p e below (Done s Q C S) T (mkF m pc Ls []) :=
  Go.ret X hlk (fun _ => rfl) (fun _ hr => X.returnOut hx hret hd hr) eT hQ hc hl
/-- an entry that stands resolved stays so, also where String constants are loaded -/
theorem own_fieldRef {Z : State} {vm1 : Vm} {a0 : Array Value} {own O n d : String} {index : Nat} (hW : Z.Warmed39 vm1) (w : (Cond.fieldRef own index O n d).before a0 Z = true) : (Cond.fieldRef own index O n d).before a0 (Z.setVm vm1) = true := by
  simp only [Cond.before, Cond.holds, Cond.value, State.vm_setVm, hW.alike.findClass, State.names_setVm hW.alike] at w ⊢
  cases q1 : Z.vm.findClass own with
  | none => rw [q1] at w; simp at w
  | some cO =>
    cases q2 : Z.fieldFound? O n d with
    | none => rw [q1, q2] at w; simp at w
    | some z =>
      obtain ⟨c1, k1, i1, f1⟩ := z
      obtain ⟨k2, q3, -⟩ := State.fieldFound?_setVm hW.alike q2
      rw [q1, q2] at w
      rw [q3]
      cases q4 : Z.resolvedAt? own index with
      | none => rw [q4] at w; simp at w
      | some r => rw [State.resolvedAt?_warmed39 hW q4]; rw [q4] at w; exact w
/-- getfield through an entry that stands resolved at the start (the word fieldRef) -/
theorem own_getR {p : Program} {l : Launch} {e : Env} {R : Room} {s : State} {m : MethodId} {args : Array Value} {below : List Frame} {meth : Method} {c : Code} {T : State} {locs : List Loc} {cells slots : Nat} {Z : State} {a0 : Array Value} {h : Heap}
    (X : Stand p l e R s m args below meth c T locs cells slots) (hx : p.tables.exec = Jvm.exec) (hZ : Z.Warmed39 s.vm) {own O n d : String} {index : Nat} (hown : s.vm.findClass own = some m.cls) (w : (Cond.fieldRef own index O n d).before a0 Z = true)
    (eT : T.heap = h) {a : Addr} {v : Value} (F : Fld Z h a O n d v) {g : JFrame} (hg : g.method = m) {rest : List Value} (hs : g.stack = .ref a :: rest) (hd : decode c.code g.pc = .ok (.getfield index, 3)) :
    ∃ T', Stand p l e R s m args below meth c T' locs cells slots ∧ T'.heap = h ∧ ∀ target, Steps p.tables e below (T'.setTop { g with pc := g.pc + 3, stack := v :: rest }) target → Steps p.tables e below (T.setTop g) target := by
  obtain ⟨cell, cf, k, i, f, h1, h2, h3, h4, -, -, h7⟩ := F
  have w1 : (Cond.fieldRef own index O n d).before args s = true := (own_fieldRef hZ w : (Cond.fieldRef own index O n d).before a0 (Z.setVm s.vm) = true)
  have w2 := Cond.fieldRef_warmed X.warmed w1
  obtain ⟨k1, r1, -⟩ := State.fieldFound?_setVm (s := Z) hZ.alike h2
  obtain ⟨k2, r2, -⟩ := State.fieldFound?_setVm (s := s) X.warmed.alike (show s.fieldFound? O n d = _ from r1)
  obtain ⟨c', k', i', f', q1, q2⟩ := Cond.fieldRef_spec (s := s.setVm T.vm) (cur := m.cls) (by rw [State.vm_setVm, X.warmed.alike.findClass]; exact hown) w2
  cases q1.symm.trans r2
  exact ⟨T, X, eT, fun target k => (X.getfieldR hx hg q2 h3 hs (by rw [eT]; exact h1) h4 h7 hd (Steps.refl _)).trans k⟩
/-- the form of every contract here -/
def Con (l : Launch) (Z : State) (y : MethodName) (bytes : ByteArray) (ml : Nat) (ret : Option FieldType) (ws : List Jvm.Cond) (room : Room) (A : Array Value) (h0 : Heap) (Q : Option Value → Heap → List Loc → Prop) : Prop :=
  MetFree l y (head1 (Jvm.Cond.code y bytes ml ret :: ws) room) (fun a U => a = A ∧ Z.Warmed39 U.vm ∧ U.heap = h0) (fun _ _ _ _ _ => True) (fun _ U o U' => ∃ v L, o = .returned v ∧ Q v U'.heap L ∧ FrameEnd U o U' L room.cells room.slots)
theorem own_body {l : Launch} {Z : State} {y : MethodName} {bytes : ByteArray} {ml : Nat} {ret : Option FieldType} {ws : List Jvm.Cond} {room : Room} {A : Array Value} {h0 : Heap} {Q : Option Value → Heap → List Loc → Prop} (hpn : plainFor y = true)
    (body : ∀ (p : Program) (e : Env) (s : State) (m : MethodId) (below : List Frame) (meth : Method) (c : Code) (s₁ : State), p.tables.exec = Jvm.exec → c.code = bytes → c.maxLocals = ml → Z.Warmed39 s.vm → s.vm.findClass y.cls = some m.cls → meth.name = y.name → meth.locks = false → meth.sig.returnType = ret →
      Stand p l e room s m A below meth c s₁ [] 0 0 → s₁.heap = h0 → Go p e below (Done s Q room.cells room.slots) s₁ (entryFrame m A ml)) : Con l Z y bytes ml ret ws room A h0 Q := by
  refine MetFree.of_bodySF hpn hisR ?_
  intro p e s m args below meth c s₁ Bd hml0 hP hK
  obtain ⟨rfl, hZ, hh⟩ := hP
  exact body p e s m below meth c s₁ Bd.exec Bd.bytes hml0 hZ (findClass_of_methodNamed Bd.named) (name_of_methodNamed Bd.named Bd.method).1 Bd.notSynchronized Bd.returns (Stand.of_body Bd) (by rw [← hh, Bd.state]; rfl)
theorem own_back {l : Launch} {R : Room} {p : Program} {e : Env} {below : List Frame} {s Z : State} {args a0 : Array Value} {h : Heap} {y : MethodName} {bytes : ByteArray} {maxL : Nat} {ret : Option FieldType} {rm : Room} {len W : Nat} {as' : Array Value} {Q : Option Value → Heap → List Loc → Prop}
    (hM : Con l Z y bytes maxL ret [] rm as' h Q) (hZ : Z.Warmed39 s.vm) (wc : (Cond.code y bytes maxL ret).before a0 Z = true) (wz : (Cond.initialized y.cls).before a0 Z = true) (hf : rm.frames + 1 ≤ R.frames) (hl : W + (maxL + 11) + rm.locals ≤ R.locals) :
    Back l R p e below s args y len W (fun A a => a = as' ∧ A.U.heap = h ∧ A.cells + rm.cells ≤ R.cells ∧ A.slots + rm.slots ≤ R.slots)
      (fun A _ v B => ∃ L, Q v B.U.heap L ∧ B.locs = A.locs ++ L ∧ B.cells = A.cells + rm.cells ∧ B.slots = A.slots + rm.slots) := backOf (Q := Q) hM hZ wc wz hf hl
theorem Con.weaken {l : Launch} {Z : State} {y : MethodName} {bytes : ByteArray} {ml : Nat} {ret : Option FieldType} {ws : List Jvm.Cond} {room : Room} {A : Array Value} {h0 : Heap} {Q Q' : Option Value → Heap → List Loc → Prop} (h : Con l Z y bytes ml ret ws room A h0 Q) (hq : ∀ v h L, Q v h L → Q' v h L) : Con l Z y bytes ml ret ws room A h0 Q' := fun p e h1 h2 h3 s m args below hf happ hP hK => by
  obtain ⟨n, o, a, b, c, v, L, d, e, f⟩ := h p e h1 h2 h3 s m args below hf happ hP hK
  exact ⟨n, o, a, b, c, v, L, d, hq _ _ _ e, f⟩
theorem acYes {c : ClassFile.ACond} {x y : Value} (h : x = y) : acV c (decide (x = y)) = acV c true := by rw [decide_eq_true h]

theorem own_weaken {l : Launch} {x : MethodName} {S : Spec} {P : Array Value → State → Prop} {K : Program → Env → List Frame → State → Array Value → Prop} {Q Q' : Array Value → State → Outcome → State → Prop} (h : MetFree l x S P K Q) (hq : ∀ a s o t, Q a s o t → Q' a s o t) : MetFree l x S P K Q' := fun p e h1 h2 h3 s m args below hf happ hP hK => by
  obtain ⟨n, o, a, b, c, d⟩ := h p e h1 h2 h3 s m args below hf happ hP hK
  exact ⟨n, o, a, b, c, hq _ _ _ _ d⟩
section Start
variable {args : Array Value} {first s : State} {o : Option Outcome} {idx : List Nat} {t u : Term}
theorem own_eq_int {k : Int32} (h : (Jvm.Cond.eq t (.int k)).value args first o s idx = some true) : t.eval args first o idx s = some (.int k) := by
  simp only [Cond.value, Term.eval] at h
  cases ht : t.eval args first o idx s with
  | none => simp [ht] at h
  | some x => cases x <;> simp [ht] at h ⊢ <;> exact h
theorem own_eq_ref {a : Addr} (h : (Jvm.Cond.eq t u).value args first o s idx = some true) (hu : u.eval args first o idx s = some (.ref a)) : t.eval args first o idx s = some (.ref a) := by
  simp only [Cond.value] at h
  rw [hu] at h
  cases ht : t.eval args first o idx s with
  | none => simp [ht] at h
  | some x => cases x <;> simp [ht] at h ⊢ <;> exact h
theorem own_len {a : Addr} {cl : Cell} {z : Int32} (h : (Term.length t).eval args first o idx s = some (.int z)) (ht : t.eval args first o idx s = some (.ref a)) (hc : s.heap[a]? = some cl) : cl.slots.size < 2 ^ 31 ∧ cl.slots.size.toInt32 = z := by
  obtain ⟨a', cell, e1, e2, e3⟩ := Term.length_spec h
  cases ht.symm.trans e1
  have e4 := (State.arrayAt?_spec e2).1
  cases hc.symm.trans e4
  refine ⟨?_, (Value.int.inj e3).symm⟩
  by_cases hn : cl.slots.size < 2147483648
  · exact hn
  · simp only [Term.eval, Option.bind_eq_bind, ht, Option.bind_some, e2] at h
    rw [if_neg hn] at h; cases h
theorem own_ne_int {z : Int32} (h : (Jvm.Cond.not (Jvm.Cond.eq t (.int 0))).value args first o s idx = some true) (ht : t.eval args first o idx s = some (.int z)) : ¬ z = 0 := by
  have h1 := not_v h
  intro e
  subst e
  simp [Cond.value, Term.eval, ht] at h1
theorem own_fld {a : Addr} {C n d : String} {k : Int32} (h : (Jvm.Cond.eq (Term.field t C n d) (.int k)).value args s none s [] = some true) (ht : t.eval args s none [] s = some (.ref a)) : Fld s s.heap a C n d (.int k) :=
  Fld.start (by rw [← fld_at ht]; exact own_eq_int h)
theorem own_elem {a : Addr} {cl : Cell} {w : Addr} {j : Int32} {i : Nat} (h : (Jvm.Cond.eq (Term.elem t (.int j)) u).value args s none s [] = some true) (hu : u.eval args s none [] s = some (.ref w)) (ht : t.eval args s none [] s = some (.ref a)) (hc : s.heap[a]? = some cl) (hj : j.toNatClampNeg = i) : cl.slots[i]? = some (.ref w) := by
  subst hj
  exact (elem_in (own_eq_ref h hu) ht rfl hc).2
end Start

def World1 (Z : State) (w_EVERY_NEWLINE : Addr) (w_NEWLINES_APART : Addr) (w_LAST_NEWLINE : Addr) : Prop :=
  Sta Z Z.heap "com/example/rulebridge/rulebridge/core/MarkedValue$Scheme" "EVERY_NEWLINE" "Lcom/example/rulebridge/rulebridge/core/MarkedValue$Scheme;" (.ref w_EVERY_NEWLINE) ∧
  Exa Z Z.heap w_EVERY_NEWLINE "com/example/rulebridge/rulebridge/core/MarkedValue$Scheme" ∧
  Sta Z Z.heap "com/example/rulebridge/rulebridge/core/MarkedValue$Scheme" "NEWLINES_APART" "Lcom/example/rulebridge/rulebridge/core/MarkedValue$Scheme;" (.ref w_NEWLINES_APART) ∧
  Exa Z Z.heap w_NEWLINES_APART "com/example/rulebridge/rulebridge/core/MarkedValue$Scheme" ∧
  Sta Z Z.heap "com/example/rulebridge/rulebridge/core/MarkedValue$Scheme" "LAST_NEWLINE" "Lcom/example/rulebridge/rulebridge/core/MarkedValue$Scheme;" (.ref w_LAST_NEWLINE) ∧
  Exa Z Z.heap w_LAST_NEWLINE "com/example/rulebridge/rulebridge/core/MarkedValue$Scheme" ∧
  Fld Z Z.heap w_EVERY_NEWLINE "java/lang/Enum" "ordinal" "I" (.int (0 : Int32)) ∧
  Fld Z Z.heap w_NEWLINES_APART "java/lang/Enum" "ordinal" "I" (.int (2 : Int32)) ∧
  Fld Z Z.heap w_LAST_NEWLINE "java/lang/Enum" "ordinal" "I" (.int (1 : Int32))
def ofR (p q : Int32) (a e l : Addr) : Addr := if p = 0 then (if q = 0 then l else e) else (if q = 0 then l else a)
theorem pn_com_example_rulebridge_rulebridge_core_MarkedValue_Scheme : plainName "com/example/rulebridge/rulebridge/core/MarkedValue$Scheme" = true := by first | (simp [plainName, overriddenIn]; done) | decide +kernel
theorem d1_0 : decode prog_9_method_4_code 0 = .ok (.iload_n 0, 1) := by decide +kernel
theorem d1_1 : decode prog_9_method_4_code 1 = .ok (.ifCond .eq 14, 3) := by decide +kernel
theorem d1_15 : decode prog_9_method_4_code 15 = .ok (.iload_n 1, 1) := by decide +kernel
theorem d1_16 : decode prog_9_method_4_code 16 = .ok (.ifCond .eq 10, 3) := by decide +kernel
theorem d1_26 : decode prog_9_method_4_code 26 = .ok (.getstatic 9, 3) := by decide +kernel
theorem d1_29 : decode prog_9_method_4_code 29 = .ok (.astore_n 2, 1) := by decide +kernel
theorem d1_30 : decode prog_9_method_4_code 30 = .ok (.aload_n 2, 1) := by decide +kernel
theorem d1_31 : decode prog_9_method_4_code 31 = .ok (.areturn, 1) := by decide +kernel
theorem d1_19 : decode prog_9_method_4_code 19 = .ok (.getstatic 5, 3) := by decide +kernel
theorem d1_22 : decode prog_9_method_4_code 22 = .ok (.astore_n 2, 1) := by decide +kernel
theorem d1_23 : decode prog_9_method_4_code 23 = .ok (.goto 7, 3) := by decide +kernel
theorem d1_4 : decode prog_9_method_4_code 4 = .ok (.iload_n 1, 1) := by decide +kernel
theorem d1_5 : decode prog_9_method_4_code 5 = .ok (.ifCond .eq 10, 3) := by decide +kernel
theorem d1_8 : decode prog_9_method_4_code 8 = .ok (.getstatic 12, 3) := by decide +kernel
theorem d1_11 : decode prog_9_method_4_code 11 = .ok (.astore_n 2, 1) := by decide +kernel
theorem d1_12 : decode prog_9_method_4_code 12 = .ok (.goto 18, 3) := by decide +kernel
set_option maxRecDepth 65536 in
set_option maxHeartbeats 40000000 in
theorem rm1 (l : Launch) (Z : State) (a0 : Array Value) (hw : ∀ d ∈ tables_1, d.before a0 Z = true) (ws : List Jvm.Cond) (p1 : Int32) (p2 : Int32) (w_EVERY_NEWLINE : Addr) (w_NEWLINES_APART : Addr) (w_LAST_NEWLINE : Addr) (h0 : Heap) (n0 : Nat) (O0 : Old Z n0 h0) (WW : World1 Z w_EVERY_NEWLINE w_NEWLINES_APART w_LAST_NEWLINE) :
    Con l Z (⟨"com/example/rulebridge/rulebridge/core/MarkedValue$Scheme", "of", "(ZZ)Lcom/example/rulebridge/rulebridge/core/MarkedValue$Scheme;"⟩ : MethodName) prog_9_method_4_code 3 (some (.object "com/example/rulebridge/rulebridge/core/MarkedValue$Scheme")) ws ({ frames := 0, cells := 0, slots := 0, locals := 0 } : Room) #[(.int p1), (.int p2)] h0 (fun v h L => v = some (.ref (ofR p1 p2 w_NEWLINES_APART w_EVERY_NEWLINE w_LAST_NEWLINE)) ∧ Fr n0 L ∧ h = h0) := by
  refine own_body (plainFor_of_name pn_com_example_rulebridge_rulebridge_core_MarkedValue_Scheme) ?_
  intro p e s m below meth c s₁ hx hby hml hZ hown hnm hlk hret X0 e0
  have N0 := Fr.nil n0
  refine Go.st (T' := s₁) (f' := (mkF m 0 #[iv p1, iv p2, .unset] [])) (fun _ k => castTop (by first | (simp [entryFrame, mkF, argsToLocals, Value.category]; done) | rfl) k) ?_
  have ⟨S_w_EVERY_NEWLINE, E_w_EVERY_NEWLINE, S_w_NEWLINES_APART, E_w_NEWLINES_APART, S_w_LAST_NEWLINE, E_w_LAST_NEWLINE, F_w_EVERY_NEWLINE_ordinal, F_w_NEWLINES_APART_ordinal, F_w_LAST_NEWLINE_ordinal⟩ := WW
  have lt_w_EVERY_NEWLINE := E_w_EVERY_NEWLINE.lt
  have lt_w_NEWLINES_APART := E_w_NEWLINES_APART.lt
  have lt_w_LAST_NEWLINE := E_w_LAST_NEWLINE.lt
  refine Go.st (f' := (mkF m 1 #[iv p1, iv p2, .unset] [(.int p1)])) (fun _ k => XS.iloadN X0.here hx rfl (hb hby d1_0) rfl k) ?_
  by_cases c1 : p1 = (0 : Int32)
  · refine Go.st (f' := (mkF m 15 #[iv p1, iv p2, .unset] [])) (fun _ k => XS.ifYes X0.here hx rfl (pc0 := 1) (pc' := 15) rfl (hb hby d1_1) rfl ((if0 _ _).trans (teq c1).1) (by decide) (by decide) k) ?_
    refine Go.st (f' := (mkF m 16 #[iv p1, iv p2, .unset] [(.int p2)])) (fun _ k => XS.iloadN X0.here hx rfl (hb hby d1_15) rfl k) ?_
    by_cases c2 : p2 = (0 : Int32)
    · refine Go.st (f' := (mkF m 26 #[iv p1, iv p2, .unset] [])) (fun _ k => XS.ifYes X0.here hx rfl (pc0 := 16) (pc' := 26) rfl (hb hby d1_16) rfl ((if0 _ _).trans (teq c2).1) (by decide) (by decide) k) ?_
      obtain ⟨T3, X3, e3, st3⟩ := getS2 X0 hx hZ hown (host := "") (Or.inl (hw _ (List.mem_of_getElem? (i := 11) rfl))) Via.refl e0 (S_w_LAST_NEWLINE.ext O0.2) (g := (mkF m 26 #[iv p1, iv p2, .unset] [])) rfl (hb hby d1_26)
      refine Go.st (f' := (mkF m 29 #[iv p1, iv p2, .unset] [(.ref w_LAST_NEWLINE)])) (fun _ k => st3 _ k) ?_
      refine Go.st (f' := (mkF m 30 #[iv p1, iv p2, rv w_LAST_NEWLINE] [])) (fun _ k => XS.astoreN X3.here hx rfl (hb hby d1_29) rfl rfl (l' := #[iv p1, iv p2, rv w_LAST_NEWLINE]) rfl k) ?_
      refine Go.st (f' := (mkF m 31 #[iv p1, iv p2, rv w_LAST_NEWLINE] [(.ref w_LAST_NEWLINE)])) (fun _ k => XS.aloadN X3.here hx rfl (hb hby d1_30) rfl rfl k) ?_
      refine Go.retV X3 hlk hx (t := (.object "com/example/rulebridge/rulebridge/core/MarkedValue$Scheme")) hret rfl (Or.inr (Or.inr (Or.inr (Or.inr ⟨rfl, rfl, rfl⟩)))) (hb hby d1_31) e3 ?_ (by decide) (by decide)
      exact ⟨by simp [ofR, c1, c2], N0, rfl⟩
    · refine Go.st (f' := (mkF m 19 #[iv p1, iv p2, .unset] [])) (fun _ k => XS.ifNo X0.here hx rfl (hb hby d1_16) rfl ((if0 _ _).trans (feq c2).1) k) ?_
      obtain ⟨T4, X4, e4, st4⟩ := getS2 X0 hx hZ hown (host := "") (Or.inl (hw _ (List.mem_of_getElem? (i := 4) rfl))) Via.refl e0 (S_w_EVERY_NEWLINE.ext O0.2) (g := (mkF m 19 #[iv p1, iv p2, .unset] [])) rfl (hb hby d1_19)
      refine Go.st (f' := (mkF m 22 #[iv p1, iv p2, .unset] [(.ref w_EVERY_NEWLINE)])) (fun _ k => st4 _ k) ?_
      refine Go.st (f' := (mkF m 23 #[iv p1, iv p2, rv w_EVERY_NEWLINE] [])) (fun _ k => XS.astoreN X4.here hx rfl (hb hby d1_22) rfl rfl (l' := #[iv p1, iv p2, rv w_EVERY_NEWLINE]) rfl k) ?_
      refine Go.st (f' := (mkF m 30 #[iv p1, iv p2, rv w_EVERY_NEWLINE] [])) (fun _ k => XS.goto X4.here hx rfl (pc0 := 23) (pc' := 30) rfl (hb hby d1_23) (by decide) (by decide) k) ?_
      refine Go.st (f' := (mkF m 31 #[iv p1, iv p2, rv w_EVERY_NEWLINE] [(.ref w_EVERY_NEWLINE)])) (fun _ k => XS.aloadN X4.here hx rfl (hb hby d1_30) rfl rfl k) ?_
      refine Go.retV X4 hlk hx (t := (.object "com/example/rulebridge/rulebridge/core/MarkedValue$Scheme")) hret rfl (Or.inr (Or.inr (Or.inr (Or.inr ⟨rfl, rfl, rfl⟩)))) (hb hby d1_31) e4 ?_ (by decide) (by decide)
      exact ⟨by simp [ofR, c1, c2], N0, rfl⟩
  · refine Go.st (f' := (mkF m 4 #[iv p1, iv p2, .unset] [])) (fun _ k => XS.ifNo X0.here hx rfl (hb hby d1_1) rfl ((if0 _ _).trans (feq c1).1) k) ?_
    refine Go.st (f' := (mkF m 5 #[iv p1, iv p2, .unset] [(.int p2)])) (fun _ k => XS.iloadN X0.here hx rfl (hb hby d1_4) rfl k) ?_
    by_cases c5 : p2 = (0 : Int32)
    · refine Go.st (f' := (mkF m 15 #[iv p1, iv p2, .unset] [])) (fun _ k => XS.ifYes X0.here hx rfl (pc0 := 5) (pc' := 15) rfl (hb hby d1_5) rfl ((if0 _ _).trans (teq c5).1) (by decide) (by decide) k) ?_
      refine Go.st (f' := (mkF m 16 #[iv p1, iv p2, .unset] [(.int p2)])) (fun _ k => XS.iloadN X0.here hx rfl (hb hby d1_15) rfl k) ?_
      refine Go.st (f' := (mkF m 26 #[iv p1, iv p2, .unset] [])) (fun _ k => XS.ifYes X0.here hx rfl (pc0 := 16) (pc' := 26) rfl (hb hby d1_16) rfl ((if0 _ _).trans (teq c5).1) (by decide) (by decide) k) ?_
      obtain ⟨T6, X6, e6, st6⟩ := getS2 X0 hx hZ hown (host := "") (Or.inl (hw _ (List.mem_of_getElem? (i := 11) rfl))) Via.refl e0 (S_w_LAST_NEWLINE.ext O0.2) (g := (mkF m 26 #[iv p1, iv p2, .unset] [])) rfl (hb hby d1_26)
      refine Go.st (f' := (mkF m 29 #[iv p1, iv p2, .unset] [(.ref w_LAST_NEWLINE)])) (fun _ k => st6 _ k) ?_
      refine Go.st (f' := (mkF m 30 #[iv p1, iv p2, rv w_LAST_NEWLINE] [])) (fun _ k => XS.astoreN X6.here hx rfl (hb hby d1_29) rfl rfl (l' := #[iv p1, iv p2, rv w_LAST_NEWLINE]) rfl k) ?_
      refine Go.st (f' := (mkF m 31 #[iv p1, iv p2, rv w_LAST_NEWLINE] [(.ref w_LAST_NEWLINE)])) (fun _ k => XS.aloadN X6.here hx rfl (hb hby d1_30) rfl rfl k) ?_
      refine Go.retV X6 hlk hx (t := (.object "com/example/rulebridge/rulebridge/core/MarkedValue$Scheme")) hret rfl (Or.inr (Or.inr (Or.inr (Or.inr ⟨rfl, rfl, rfl⟩)))) (hb hby d1_31) e6 ?_ (by decide) (by decide)
      exact ⟨by simp [ofR, c1, c5], N0, rfl⟩
    · refine Go.st (f' := (mkF m 8 #[iv p1, iv p2, .unset] [])) (fun _ k => XS.ifNo X0.here hx rfl (hb hby d1_5) rfl ((if0 _ _).trans (feq c5).1) k) ?_
      obtain ⟨T7, X7, e7, st7⟩ := getS2 X0 hx hZ hown (host := "") (Or.inl (hw _ (List.mem_of_getElem? (i := 12) rfl))) Via.refl e0 (S_w_NEWLINES_APART.ext O0.2) (g := (mkF m 8 #[iv p1, iv p2, .unset] [])) rfl (hb hby d1_8)
      refine Go.st (f' := (mkF m 11 #[iv p1, iv p2, .unset] [(.ref w_NEWLINES_APART)])) (fun _ k => st7 _ k) ?_
      refine Go.st (f' := (mkF m 12 #[iv p1, iv p2, rv w_NEWLINES_APART] [])) (fun _ k => XS.astoreN X7.here hx rfl (hb hby d1_11) rfl rfl (l' := #[iv p1, iv p2, rv w_NEWLINES_APART]) rfl k) ?_
      refine Go.st (f' := (mkF m 30 #[iv p1, iv p2, rv w_NEWLINES_APART] [])) (fun _ k => XS.goto X7.here hx rfl (pc0 := 12) (pc' := 30) rfl (hb hby d1_12) (by decide) (by decide) k) ?_
      refine Go.st (f' := (mkF m 31 #[iv p1, iv p2, rv w_NEWLINES_APART] [(.ref w_NEWLINES_APART)])) (fun _ k => XS.aloadN X7.here hx rfl (hb hby d1_30) rfl rfl k) ?_
      refine Go.retV X7 hlk hx (t := (.object "com/example/rulebridge/rulebridge/core/MarkedValue$Scheme")) hret rfl (Or.inr (Or.inr (Or.inr (Or.inr ⟨rfl, rfl, rfl⟩)))) (hb hby d1_31) e7 ?_ (by decide) (by decide)
      exact ⟨by simp [ofR, c1, c5], N0, rfl⟩
theorem pn_com_example_rulebridge_rulebridge_core_SchemeOfPinLaw : plainName "com/example/rulebridge/rulebridge/core/SchemeOfPinLaw" = true := by first | (simp [plainName, overriddenIn]; done) | decide +kernel
theorem pd__ZZ_Lcom_example_rulebridge_rulebridge_core_MarkedValue_Scheme_ : parseMethodDescriptor "(ZZ)Lcom/example/rulebridge/rulebridge/core/MarkedValue$Scheme;" = some ⟨[.boolean, .boolean], some (.object "com/example/rulebridge/rulebridge/core/MarkedValue$Scheme")⟩ := by decide +kernel
set_option maxRecDepth 65536 in
set_option maxHeartbeats 40000000 in
theorem rm0 (l : Launch) (Z : State) (a0 : Array Value) (hw : ∀ d ∈ tables_1, d.before a0 Z = true) (ws : List Jvm.Cond) (p1 : Int32) (p2 : Int32) (w_EVERY_NEWLINE : Addr) (w_NEWLINES_APART : Addr) (w_LAST_NEWLINE : Addr) (h0 : Heap) (n0 : Nat) (O0 : Old Z n0 h0) (WW : World1 Z w_EVERY_NEWLINE w_NEWLINES_APART w_LAST_NEWLINE) :
    MetFree l x (head1 (Jvm.Cond.code x code maxLocals ret :: ws) room_1) (fun a U => a = #[(.int p1), (.int p2)] ∧ Z.Warmed39 U.vm ∧ U.heap = h0) (fun _ _ _ _ _ => True) (fun _ U o U' => ∃ v L, o = .returned v ∧ (fun v h L => v = some (.int (1 : Int32)) ∧ Fr n0 L) v U'.heap L ∧ FrameEnd U o U' L 0 0) := by
  refine MetFree.of_bodySF (plainFor_of_name pn_com_example_rulebridge_rulebridge_core_SchemeOfPinLaw) hisR ?_
  intro p e s m args below meth c s₁ Bd hml0 hP hK
  obtain ⟨rfl, hZ, hh⟩ := hP
  have hx := Bd.exec
  have hby := Bd.bytes
  have hml : c.maxLocals = 11 := hml0
  have hlk := Bd.notSynchronized
  have hret := Bd.returns
  have hown : s.vm.findClass "com/example/rulebridge/rulebridge/core/SchemeOfPinLaw" = some m.cls := findClass_of_methodNamed Bd.named
  have hnm := (name_of_methodNamed Bd.named Bd.method).1
  have X0 : Stand p l e room_1 s m #[(.int p1), (.int p2)] below meth c s₁ [] 0 0 := Stand.of_body Bd
  have e0 : s₁.heap = h0 := by rw [← hh, Bd.state]; rfl
  show Go p e below (Done s (fun v h L => v = some (.int (1 : Int32)) ∧ Fr n0 L) 0 0) s₁ _
  have N0 := Fr.nil n0
  refine Go.st (T' := s₁) (f' := (mkF m 0 #[iv p1, iv p2, .unset, .unset, .unset, .unset, .unset, .unset, .unset, .unset, .unset] [])) (fun _ k => castTop (by first | (simp [entryFrame, mkF, argsToLocals, Value.category, maxLocals]; done) | rfl) k) ?_
  have ⟨S_w_EVERY_NEWLINE, E_w_EVERY_NEWLINE, S_w_NEWLINES_APART, E_w_NEWLINES_APART, S_w_LAST_NEWLINE, E_w_LAST_NEWLINE, F_w_EVERY_NEWLINE_ordinal, F_w_NEWLINES_APART_ordinal, F_w_LAST_NEWLINE_ordinal⟩ := WW
  have lt_w_EVERY_NEWLINE := E_w_EVERY_NEWLINE.lt
  have lt_w_NEWLINES_APART := E_w_NEWLINES_APART.lt
  have lt_w_LAST_NEWLINE := E_w_LAST_NEWLINE.lt
  refine Go.st (f' := (mkF m 1 #[iv p1, iv p2, .unset, .unset, .unset, .unset, .unset, .unset, .unset, .unset, .unset] [(.int p1)])) (fun _ k => XS.iloadN X0.here hx rfl (hb hby at_0) rfl k) ?_
  refine Go.st (f' := (mkF m 2 #[iv p1, iv p2, .unset, .unset, .unset, .unset, .unset, .unset, .unset, .unset, .unset] [(.int 1), (.int p1)])) (fun _ k => XS.iconst X0.here hx rfl (hb hby at_1) k) ?_
  refine Go.st (f' := (mkF m 3 #[iv p1, iv p2, .unset, .unset, .unset, .unset, .unset, .unset, .unset, .unset, .unset] [(.int (p1 &&& (1 : Int32)))])) (fun _ k => XS.iand X0.here hx rfl (hb hby at_2) rfl k) ?_
  by_cases c1 : (p1 &&& (1 : Int32)) = (0 : Int32)
  · refine Go.st (f' := (mkF m 10 #[iv p1, iv p2, .unset, .unset, .unset, .unset, .unset, .unset, .unset, .unset, .unset] [])) (fun _ k => XS.ifYes X0.here hx rfl (pc0 := 3) (pc' := 10) rfl (hb hby at_3) rfl ((if0 _ _).trans (teq c1).1) (by decide) (by decide) k) ?_
    refine Go.st (f' := (mkF m 11 #[iv p1, iv p2, .unset, .unset, .unset, .unset, .unset, .unset, .unset, .unset, .unset] [(.int 0)])) (fun _ k => XS.iconst X0.here hx rfl (hb hby at_10) k) ?_
    refine Go.st (f' := (mkF m 12 #[iv p1, iv p2, iv 0, .unset, .unset, .unset, .unset, .unset, .unset, .unset, .unset] [])) (fun _ k => XS.istoreN X0.here hx rfl (hb hby at_11) rfl (l' := #[iv p1, iv p2, iv 0, .unset, .unset, .unset, .unset, .unset, .unset, .unset, .unset]) rfl k) ?_
    refine Go.st (f' := (mkF m 13 #[iv p1, iv p2, iv 0, .unset, .unset, .unset, .unset, .unset, .unset, .unset, .unset] [(.int p2)])) (fun _ k => XS.iloadN X0.here hx rfl (hb hby at_12) rfl k) ?_
    refine Go.st (f' := (mkF m 14 #[iv p1, iv p2, iv 0, .unset, .unset, .unset, .unset, .unset, .unset, .unset, .unset] [(.int 1), (.int p2)])) (fun _ k => XS.iconst X0.here hx rfl (hb hby at_13) k) ?_
    refine Go.st (f' := (mkF m 15 #[iv p1, iv p2, iv 0, .unset, .unset, .unset, .unset, .unset, .unset, .unset, .unset] [(.int (p2 &&& (1 : Int32)))])) (fun _ k => XS.iand X0.here hx rfl (hb hby at_14) rfl k) ?_
    by_cases c2 : (p2 &&& (1 : Int32)) = (0 : Int32)
    · refine Go.st (f' := (mkF m 22 #[iv p1, iv p2, iv 0, .unset, .unset, .unset, .unset, .unset, .unset, .unset, .unset] [])) (fun _ k => XS.ifYes X0.here hx rfl (pc0 := 15) (pc' := 22) rfl (hb hby at_15) rfl ((if0 _ _).trans (teq c2).1) (by decide) (by decide) k) ?_
      refine Go.st (f' := (mkF m 23 #[iv p1, iv p2, iv 0, .unset, .unset, .unset, .unset, .unset, .unset, .unset, .unset] [(.int 0)])) (fun _ k => XS.iconst X0.here hx rfl (hb hby at_22) k) ?_
      refine Go.st (f' := (mkF m 24 #[iv p1, iv p2, iv 0, iv 0, .unset, .unset, .unset, .unset, .unset, .unset, .unset] [])) (fun _ k => XS.istoreN X0.here hx rfl (hb hby at_23) rfl (l' := #[iv p1, iv p2, iv 0, iv 0, .unset, .unset, .unset, .unset, .unset, .unset, .unset]) rfl k) ?_
      refine Go.st (f' := (mkF m 25 #[iv p1, iv p2, iv 0, iv 0, .unset, .unset, .unset, .unset, .unset, .unset, .unset] [(.int 0)])) (fun _ k => XS.iloadN X0.here hx rfl (hb hby at_24) rfl k) ?_
      refine Go.st (f' := (mkF m 26 #[iv p1, iv p2, iv 0, iv 0, .unset, .unset, .unset, .unset, .unset, .unset, .unset] [(.int 0), (.int 0)])) (fun _ k => XS.iloadN X0.here hx rfl (hb hby at_25) rfl k) ?_
      obtain ⟨_, _, ⟨T3, L3, k3, n3⟩, -, X3, ⟨Lc3, hQ3, l3, y3, z3⟩, st3⟩ := Jvm.LawKit.callS X0 hx (y := (⟨"com/example/rulebridge/rulebridge/core/MarkedValue$Scheme", "of", "(ZZ)Lcom/example/rulebridge/rulebridge/core/MarkedValue$Scheme;"⟩ : MethodName)) hown (mvT hZ (hw _ (List.mem_of_getElem? (i := 0) rfl))) (mvT hZ (hw _ (List.mem_of_getElem? (i := 1) rfl))) (mvT hZ (hw _ (List.mem_of_getElem? (i := 2) rfl))) (mvT hZ (hw _ (List.mem_of_getElem? (i := 3) rfl))) (by decide) (own_back (W := 0) (rm1 l Z a0 hw [] (0 : Int32) (0 : Int32) w_EVERY_NEWLINE w_NEWLINES_APART w_LAST_NEWLINE h0 n0 O0 WW) hZ (hw _ (List.mem_of_getElem? (i := 3) rfl)) (hw _ (List.mem_of_getElem? (i := 2) rfl)) (by decide) (by decide)) (g := (mkF m 26 #[iv p1, iv p2, iv 0, iv 0, .unset, .unset, .unset, .unset, .unset, .unset, .unset] [(.int 0), (.int 0)])) rfl (by rw [hml]; rfl) (argsL := [(.int (0 : Int32)), (.int (0 : Int32))]) (rest := []) (lenOf pd__ZZ_Lcom_example_rulebridge_rulebridge_core_MarkedValue_Scheme_ rfl) rfl (by show 2 * 0 + _ ≤ _; exact Nat.le_of_eq rfl) (hb hby at_26) (fun _ _ => ⟨rfl, e0, (by decide : 0 + 0 ≤ _), (by decide : 0 + 0 ≤ _)⟩)
      dsimp only [Pt.U, Pt.locs, Pt.cells, Pt.slots] at X3 l3 y3 z3 st3 hQ3
      subst l3 y3 z3
      obtain ⟨rfl, Nq3, eh3⟩ := hQ3
      have N3 := Fr.app N0 Nq3
      have eh3' := eh3
      refine Go.st (f' := (mkF m 29 #[iv p1, iv p2, iv 0, iv 0, .unset, .unset, .unset, .unset, .unset, .unset, .unset] [(.ref w_LAST_NEWLINE)])) (fun _ k => st3 _ k) ?_
      refine Go.st (f' := (mkF m 31 #[iv p1, iv p2, iv 0, iv 0, rv w_LAST_NEWLINE, .unset, .unset, .unset, .unset, .unset, .unset] [])) (fun _ k => XS.astore X3.here hx rfl (hb hby at_29) rfl rfl (l' := #[iv p1, iv p2, iv 0, iv 0, rv w_LAST_NEWLINE, .unset, .unset, .unset, .unset, .unset, .unset]) rfl k) ?_
      refine Go.st (f' := (mkF m 33 #[iv p1, iv p2, iv 0, iv 0, rv w_LAST_NEWLINE, .unset, .unset, .unset, .unset, .unset, .unset] [(.ref w_LAST_NEWLINE)])) (fun _ k => XS.aload X3.here hx rfl (hb hby at_31) rfl rfl k) ?_
      obtain ⟨T4, X4, e4, st4⟩ := getS2 X3 hx hZ hown (host := "") (Or.inl (hw _ (List.mem_of_getElem? (i := 6) rfl))) Via.refl eh3 (S_w_NEWLINES_APART.ext O0.2) (g := (mkF m 33 #[iv p1, iv p2, iv 0, iv 0, rv w_LAST_NEWLINE, .unset, .unset, .unset, .unset, .unset, .unset] [(.ref w_LAST_NEWLINE)])) rfl (hb hby at_33)
      refine Go.st (f' := (mkF m 36 #[iv p1, iv p2, iv 0, iv 0, rv w_LAST_NEWLINE, .unset, .unset, .unset, .unset, .unset, .unset] [(.ref w_NEWLINES_APART), (.ref w_LAST_NEWLINE)])) (fun _ k => st4 _ k) ?_
      refine Go.st (f' := (mkF m 43 #[iv p1, iv p2, iv 0, iv 0, rv w_LAST_NEWLINE, .unset, .unset, .unset, .unset, .unset, .unset] [])) (fun _ k => Jvm.RoadKit.acmp (g := (mkF m 36 #[iv p1, iv p2, iv 0, iv 0, rv w_LAST_NEWLINE, .unset, .unset, .unset, .unset, .unset, .unset] [(.ref w_NEWLINES_APART), (.ref w_LAST_NEWLINE)])) X4 hx rfl rfl rfl (pc0 := 36) (pc' := 43) (same := false) rfl (hb hby at_36) rfl (decide_eq_false fun q => (Ne.symm (Fld.ne F_w_NEWLINES_APART_ordinal F_w_LAST_NEWLINE_ordinal (by decide))) (Value.ref.inj q)) (by decide) (by decide) k) ?_
      refine Go.st (f' := (mkF m 44 #[iv p1, iv p2, iv 0, iv 0, rv w_LAST_NEWLINE, .unset, .unset, .unset, .unset, .unset, .unset] [(.int 0)])) (fun _ k => XS.iconst X4.here hx rfl (hb hby at_43) k) ?_
      refine Go.st (f' := (mkF m 46 #[iv p1, iv p2, iv 0, iv 0, rv w_LAST_NEWLINE, iv 0, .unset, .unset, .unset, .unset, .unset] [])) (fun _ k => XS.istore X4.here hx rfl (hb hby at_44) rfl (l' := #[iv p1, iv p2, iv 0, iv 0, rv w_LAST_NEWLINE, iv 0, .unset, .unset, .unset, .unset, .unset]) rfl k) ?_
      refine Go.st (f' := (mkF m 48 #[iv p1, iv p2, iv 0, iv 0, rv w_LAST_NEWLINE, iv 0, .unset, .unset, .unset, .unset, .unset] [(.ref w_LAST_NEWLINE)])) (fun _ k => XS.aload X4.here hx rfl (hb hby at_46) rfl rfl k) ?_
      obtain ⟨T5, X5, e5, st5⟩ := getS2 X4 hx hZ hown (host := "") (Or.inl (hw _ (List.mem_of_getElem? (i := 8) rfl))) Via.refl e4 (S_w_EVERY_NEWLINE.ext O0.2) (g := (mkF m 48 #[iv p1, iv p2, iv 0, iv 0, rv w_LAST_NEWLINE, iv 0, .unset, .unset, .unset, .unset, .unset] [(.ref w_LAST_NEWLINE)])) rfl (hb hby at_48)
      refine Go.st (f' := (mkF m 51 #[iv p1, iv p2, iv 0, iv 0, rv w_LAST_NEWLINE, iv 0, .unset, .unset, .unset, .unset, .unset] [(.ref w_EVERY_NEWLINE), (.ref w_LAST_NEWLINE)])) (fun _ k => st5 _ k) ?_
      refine Go.st (f' := (mkF m 58 #[iv p1, iv p2, iv 0, iv 0, rv w_LAST_NEWLINE, iv 0, .unset, .unset, .unset, .unset, .unset] [])) (fun _ k => Jvm.RoadKit.acmp (g := (mkF m 51 #[iv p1, iv p2, iv 0, iv 0, rv w_LAST_NEWLINE, iv 0, .unset, .unset, .unset, .unset, .unset] [(.ref w_EVERY_NEWLINE), (.ref w_LAST_NEWLINE)])) X5 hx rfl rfl rfl (pc0 := 51) (pc' := 58) (same := false) rfl (hb hby at_51) rfl (decide_eq_false fun q => (Ne.symm (Fld.ne F_w_EVERY_NEWLINE_ordinal F_w_LAST_NEWLINE_ordinal (by decide))) (Value.ref.inj q)) (by decide) (by decide) k) ?_
      refine Go.st (f' := (mkF m 59 #[iv p1, iv p2, iv 0, iv 0, rv w_LAST_NEWLINE, iv 0, .unset, .unset, .unset, .unset, .unset] [(.int 0)])) (fun _ k => XS.iconst X5.here hx rfl (hb hby at_58) k) ?_
      refine Go.st (f' := (mkF m 61 #[iv p1, iv p2, iv 0, iv 0, rv w_LAST_NEWLINE, iv 0, iv 0, .unset, .unset, .unset, .unset] [])) (fun _ k => XS.istore X5.here hx rfl (hb hby at_59) rfl (l' := #[iv p1, iv p2, iv 0, iv 0, rv w_LAST_NEWLINE, iv 0, iv 0, .unset, .unset, .unset, .unset]) rfl k) ?_
      refine Go.st (f' := (mkF m 63 #[iv p1, iv p2, iv 0, iv 0, rv w_LAST_NEWLINE, iv 0, iv 0, .unset, .unset, .unset, .unset] [(.ref w_LAST_NEWLINE)])) (fun _ k => XS.aload X5.here hx rfl (hb hby at_61) rfl rfl k) ?_
      obtain ⟨T6, X6, e6, st6⟩ := getS2 X5 hx hZ hown (host := "") (Or.inl (hw _ (List.mem_of_getElem? (i := 9) rfl))) Via.refl e5 (S_w_LAST_NEWLINE.ext O0.2) (g := (mkF m 63 #[iv p1, iv p2, iv 0, iv 0, rv w_LAST_NEWLINE, iv 0, iv 0, .unset, .unset, .unset, .unset] [(.ref w_LAST_NEWLINE)])) rfl (hb hby at_63)
      refine Go.st (f' := (mkF m 66 #[iv p1, iv p2, iv 0, iv 0, rv w_LAST_NEWLINE, iv 0, iv 0, .unset, .unset, .unset, .unset] [(.ref w_LAST_NEWLINE), (.ref w_LAST_NEWLINE)])) (fun _ k => st6 _ k) ?_
      refine Go.st (f' := (mkF m 69 #[iv p1, iv p2, iv 0, iv 0, rv w_LAST_NEWLINE, iv 0, iv 0, .unset, .unset, .unset, .unset] [])) (fun _ k => Jvm.RoadKit.acmp (g := (mkF m 66 #[iv p1, iv p2, iv 0, iv 0, rv w_LAST_NEWLINE, iv 0, iv 0, .unset, .unset, .unset, .unset] [(.ref w_LAST_NEWLINE), (.ref w_LAST_NEWLINE)])) X6 hx rfl rfl rfl (pc0 := 66) (pc' := 69) (same := true) rfl (hb hby at_66) rfl (decide_eq_true rfl) (by decide) (by decide) k) ?_
      refine Go.st (f' := (mkF m 70 #[iv p1, iv p2, iv 0, iv 0, rv w_LAST_NEWLINE, iv 0, iv 0, .unset, .unset, .unset, .unset] [(.int 1)])) (fun _ k => XS.iconst X6.here hx rfl (hb hby at_69) k) ?_
      refine Go.st (f' := (mkF m 74 #[iv p1, iv p2, iv 0, iv 0, rv w_LAST_NEWLINE, iv 0, iv 0, .unset, .unset, .unset, .unset] [(.int 1)])) (fun _ k => XS.goto X6.here hx rfl (pc0 := 70) (pc' := 74) rfl (hb hby at_70) (by decide) (by decide) k) ?_
      refine Go.st (f' := (mkF m 76 #[iv p1, iv p2, iv 0, iv 0, rv w_LAST_NEWLINE, iv 0, iv 0, iv 1, .unset, .unset, .unset] [])) (fun _ k => XS.istore X6.here hx rfl (hb hby at_74) rfl (l' := #[iv p1, iv p2, iv 0, iv 0, rv w_LAST_NEWLINE, iv 0, iv 0, iv 1, .unset, .unset, .unset]) rfl k) ?_
      refine Go.st (f' := (mkF m 77 #[iv p1, iv p2, iv 0, iv 0, rv w_LAST_NEWLINE, iv 0, iv 0, iv 1, .unset, .unset, .unset] [(.int 0)])) (fun _ k => XS.iloadN X6.here hx rfl (hb hby at_76) rfl k) ?_
      refine Go.st (f' := (mkF m 88 #[iv p1, iv p2, iv 0, iv 0, rv w_LAST_NEWLINE, iv 0, iv 0, iv 1, .unset, .unset, .unset] [])) (fun _ k => XS.ifYes X6.here hx rfl (pc0 := 77) (pc' := 88) rfl (hb hby at_77) rfl (by decide) (by decide) (by decide) k) ?_
      refine Go.st (f' := (mkF m 89 #[iv p1, iv p2, iv 0, iv 0, rv w_LAST_NEWLINE, iv 0, iv 0, iv 1, .unset, .unset, .unset] [(.int 0)])) (fun _ k => XS.iconst X6.here hx rfl (hb hby at_88) k) ?_
      refine Go.st (f' := (mkF m 91 #[iv p1, iv p2, iv 0, iv 0, rv w_LAST_NEWLINE, iv 0, iv 0, iv 1, iv 0, .unset, .unset] [])) (fun _ k => XS.istore X6.here hx rfl (hb hby at_89) rfl (l' := #[iv p1, iv p2, iv 0, iv 0, rv w_LAST_NEWLINE, iv 0, iv 0, iv 1, iv 0, .unset, .unset]) rfl k) ?_
      refine Go.st (f' := (mkF m 92 #[iv p1, iv p2, iv 0, iv 0, rv w_LAST_NEWLINE, iv 0, iv 0, iv 1, iv 0, .unset, .unset] [(.int 0)])) (fun _ k => XS.iloadN X6.here hx rfl (hb hby at_91) rfl k) ?_
      refine Go.st (f' := (mkF m 103 #[iv p1, iv p2, iv 0, iv 0, rv w_LAST_NEWLINE, iv 0, iv 0, iv 1, iv 0, .unset, .unset] [])) (fun _ k => XS.ifYes X6.here hx rfl (pc0 := 92) (pc' := 103) rfl (hb hby at_92) rfl (by decide) (by decide) (by decide) k) ?_
      refine Go.st (f' := (mkF m 104 #[iv p1, iv p2, iv 0, iv 0, rv w_LAST_NEWLINE, iv 0, iv 0, iv 1, iv 0, .unset, .unset] [(.int 0)])) (fun _ k => XS.iconst X6.here hx rfl (hb hby at_103) k) ?_
      refine Go.st (f' := (mkF m 106 #[iv p1, iv p2, iv 0, iv 0, rv w_LAST_NEWLINE, iv 0, iv 0, iv 1, iv 0, iv 0, .unset] [])) (fun _ k => XS.istore X6.here hx rfl (hb hby at_104) rfl (l' := #[iv p1, iv p2, iv 0, iv 0, rv w_LAST_NEWLINE, iv 0, iv 0, iv 1, iv 0, iv 0, .unset]) rfl k) ?_
      refine Go.st (f' := (mkF m 107 #[iv p1, iv p2, iv 0, iv 0, rv w_LAST_NEWLINE, iv 0, iv 0, iv 1, iv 0, iv 0, .unset] [(.int 0)])) (fun _ k => XS.iloadN X6.here hx rfl (hb hby at_106) rfl k) ?_
      refine Go.st (f' := (mkF m 110 #[iv p1, iv p2, iv 0, iv 0, rv w_LAST_NEWLINE, iv 0, iv 0, iv 1, iv 0, iv 0, .unset] [])) (fun _ k => XS.ifNo X6.here hx rfl (hb hby at_107) rfl (by decide) k) ?_
      refine Go.st (f' := (mkF m 111 #[iv p1, iv p2, iv 0, iv 0, rv w_LAST_NEWLINE, iv 0, iv 0, iv 1, iv 0, iv 0, .unset] [(.int 1)])) (fun _ k => XS.iconst X6.here hx rfl (hb hby at_110) k) ?_
      refine Go.st (f' := (mkF m 115 #[iv p1, iv p2, iv 0, iv 0, rv w_LAST_NEWLINE, iv 0, iv 0, iv 1, iv 0, iv 0, .unset] [(.int 1)])) (fun _ k => XS.goto X6.here hx rfl (pc0 := 111) (pc' := 115) rfl (hb hby at_111) (by decide) (by decide) k) ?_
      refine Go.st (f' := (mkF m 117 #[iv p1, iv p2, iv 0, iv 0, rv w_LAST_NEWLINE, iv 0, iv 0, iv 1, iv 0, iv 0, iv 1] [])) (fun _ k => XS.istore X6.here hx rfl (hb hby at_115) rfl (l' := #[iv p1, iv p2, iv 0, iv 0, rv w_LAST_NEWLINE, iv 0, iv 0, iv 1, iv 0, iv 0, iv 1]) rfl k) ?_
      refine Go.st (f' := (mkF m 119 #[iv p1, iv p2, iv 0, iv 0, rv w_LAST_NEWLINE, iv 0, iv 0, iv 1, iv 0, iv 0, iv 1] [(.ref w_LAST_NEWLINE)])) (fun _ k => XS.aload X6.here hx rfl (hb hby at_117) rfl rfl k) ?_
      refine Go.st (f' := (mkF m 122 #[iv p1, iv p2, iv 0, iv 0, rv w_LAST_NEWLINE, iv 0, iv 0, iv 1, iv 0, iv 0, iv 1] [])) (fun _ k => XS.ifnullNo X6.here hx rfl (hb hby at_119) rfl k) ?_
      refine Go.st (f' := (mkF m 124 #[iv p1, iv p2, iv 0, iv 0, rv w_LAST_NEWLINE, iv 0, iv 0, iv 1, iv 0, iv 0, iv 1] [(.int 0)])) (fun _ k => XS.iload X6.here hx rfl (hb hby at_122) rfl k) ?_
      refine Go.st (f' := (mkF m 126 #[iv p1, iv p2, iv 0, iv 0, rv w_LAST_NEWLINE, iv 0, iv 0, iv 1, iv 0, iv 0, iv 1] [(.int 0), (.int 0)])) (fun _ k => XS.iload X6.here hx rfl (hb hby at_124) rfl k) ?_
      refine Go.st (f' := (mkF m 129 #[iv p1, iv p2, iv 0, iv 0, rv w_LAST_NEWLINE, iv 0, iv 0, iv 1, iv 0, iv 0, iv 1] [])) (fun _ k => XS.icmpNo X6.here hx rfl (hb hby at_126) rfl (by decide) k) ?_
      refine Go.st (f' := (mkF m 131 #[iv p1, iv p2, iv 0, iv 0, rv w_LAST_NEWLINE, iv 0, iv 0, iv 1, iv 0, iv 0, iv 1] [(.int 0)])) (fun _ k => XS.iload X6.here hx rfl (hb hby at_129) rfl k) ?_
      refine Go.st (f' := (mkF m 133 #[iv p1, iv p2, iv 0, iv 0, rv w_LAST_NEWLINE, iv 0, iv 0, iv 1, iv 0, iv 0, iv 1] [(.int 0), (.int 0)])) (fun _ k => XS.iload X6.here hx rfl (hb hby at_131) rfl k) ?_
      refine Go.st (f' := (mkF m 136 #[iv p1, iv p2, iv 0, iv 0, rv w_LAST_NEWLINE, iv 0, iv 0, iv 1, iv 0, iv 0, iv 1] [])) (fun _ k => XS.icmpNo X6.here hx rfl (hb hby at_133) rfl (by decide) k) ?_
      refine Go.st (f' := (mkF m 138 #[iv p1, iv p2, iv 0, iv 0, rv w_LAST_NEWLINE, iv 0, iv 0, iv 1, iv 0, iv 0, iv 1] [(.int 1)])) (fun _ k => XS.iload X6.here hx rfl (hb hby at_136) rfl k) ?_
      refine Go.st (f' := (mkF m 140 #[iv p1, iv p2, iv 0, iv 0, rv w_LAST_NEWLINE, iv 0, iv 0, iv 1, iv 0, iv 0, iv 1] [(.int 1), (.int 1)])) (fun _ k => XS.iload X6.here hx rfl (hb hby at_138) rfl k) ?_
      refine Go.st (f' := (mkF m 143 #[iv p1, iv p2, iv 0, iv 0, rv w_LAST_NEWLINE, iv 0, iv 0, iv 1, iv 0, iv 0, iv 1] [])) (fun _ k => XS.icmpNo X6.here hx rfl (hb hby at_140) rfl (by decide) k) ?_
      refine Go.st (f' := (mkF m 144 #[iv p1, iv p2, iv 0, iv 0, rv w_LAST_NEWLINE, iv 0, iv 0, iv 1, iv 0, iv 0, iv 1] [(.int 1)])) (fun _ k => XS.iconst X6.here hx rfl (hb hby at_143) k) ?_
      refine Go.st (f' := (mkF m 148 #[iv p1, iv p2, iv 0, iv 0, rv w_LAST_NEWLINE, iv 0, iv 0, iv 1, iv 0, iv 0, iv 1] [(.int 1)])) (fun _ k => XS.goto X6.here hx rfl (pc0 := 144) (pc' := 148) rfl (hb hby at_144) (by decide) (by decide) k) ?_
      refine Go.retB X6 hlk hx (t := .boolean) hret (by simp) (hb hby at_148) e6 ?_ (by decide) (by decide)
      exact ⟨rfl, N3⟩
    · refine Go.st (f' := (mkF m 18 #[iv p1, iv p2, iv 0, .unset, .unset, .unset, .unset, .unset, .unset, .unset, .unset] [])) (fun _ k => XS.ifNo X0.here hx rfl (hb hby at_15) rfl ((if0 _ _).trans (feq c2).1) k) ?_
      refine Go.st (f' := (mkF m 19 #[iv p1, iv p2, iv 0, .unset, .unset, .unset, .unset, .unset, .unset, .unset, .unset] [(.int 1)])) (fun _ k => XS.iconst X0.here hx rfl (hb hby at_18) k) ?_
      refine Go.st (f' := (mkF m 23 #[iv p1, iv p2, iv 0, .unset, .unset, .unset, .unset, .unset, .unset, .unset, .unset] [(.int 1)])) (fun _ k => XS.goto X0.here hx rfl (pc0 := 19) (pc' := 23) rfl (hb hby at_19) (by decide) (by decide) k) ?_
      refine Go.st (f' := (mkF m 24 #[iv p1, iv p2, iv 0, iv 1, .unset, .unset, .unset, .unset, .unset, .unset, .unset] [])) (fun _ k => XS.istoreN X0.here hx rfl (hb hby at_23) rfl (l' := #[iv p1, iv p2, iv 0, iv 1, .unset, .unset, .unset, .unset, .unset, .unset, .unset]) rfl k) ?_
      refine Go.st (f' := (mkF m 25 #[iv p1, iv p2, iv 0, iv 1, .unset, .unset, .unset, .unset, .unset, .unset, .unset] [(.int 0)])) (fun _ k => XS.iloadN X0.here hx rfl (hb hby at_24) rfl k) ?_
      refine Go.st (f' := (mkF m 26 #[iv p1, iv p2, iv 0, iv 1, .unset, .unset, .unset, .unset, .unset, .unset, .unset] [(.int 1), (.int 0)])) (fun _ k => XS.iloadN X0.here hx rfl (hb hby at_25) rfl k) ?_
      obtain ⟨_, _, ⟨T7, L7, k7, n7⟩, -, X7, ⟨Lc7, hQ7, l7, y7, z7⟩, st7⟩ := Jvm.LawKit.callS X0 hx (y := (⟨"com/example/rulebridge/rulebridge/core/MarkedValue$Scheme", "of", "(ZZ)Lcom/example/rulebridge/rulebridge/core/MarkedValue$Scheme;"⟩ : MethodName)) hown (mvT hZ (hw _ (List.mem_of_getElem? (i := 0) rfl))) (mvT hZ (hw _ (List.mem_of_getElem? (i := 1) rfl))) (mvT hZ (hw _ (List.mem_of_getElem? (i := 2) rfl))) (mvT hZ (hw _ (List.mem_of_getElem? (i := 3) rfl))) (by decide) (own_back (W := 0) (rm1 l Z a0 hw [] (0 : Int32) (1 : Int32) w_EVERY_NEWLINE w_NEWLINES_APART w_LAST_NEWLINE h0 n0 O0 WW) hZ (hw _ (List.mem_of_getElem? (i := 3) rfl)) (hw _ (List.mem_of_getElem? (i := 2) rfl)) (by decide) (by decide)) (g := (mkF m 26 #[iv p1, iv p2, iv 0, iv 1, .unset, .unset, .unset, .unset, .unset, .unset, .unset] [(.int 1), (.int 0)])) rfl (by rw [hml]; rfl) (argsL := [(.int (0 : Int32)), (.int (1 : Int32))]) (rest := []) (lenOf pd__ZZ_Lcom_example_rulebridge_rulebridge_core_MarkedValue_Scheme_ rfl) rfl (by show 2 * 0 + _ ≤ _; exact Nat.le_of_eq rfl) (hb hby at_26) (fun _ _ => ⟨rfl, e0, (by decide : 0 + 0 ≤ _), (by decide : 0 + 0 ≤ _)⟩)
      dsimp only [Pt.U, Pt.locs, Pt.cells, Pt.slots] at X7 l7 y7 z7 st7 hQ7
      subst l7 y7 z7
      obtain ⟨rfl, Nq7, eh7⟩ := hQ7
      have N7 := Fr.app N0 Nq7
      have eh7' := eh7
      refine Go.st (f' := (mkF m 29 #[iv p1, iv p2, iv 0, iv 1, .unset, .unset, .unset, .unset, .unset, .unset, .unset] [(.ref w_EVERY_NEWLINE)])) (fun _ k => st7 _ k) ?_
      refine Go.st (f' := (mkF m 31 #[iv p1, iv p2, iv 0, iv 1, rv w_EVERY_NEWLINE, .unset, .unset, .unset, .unset, .unset, .unset] [])) (fun _ k => XS.astore X7.here hx rfl (hb hby at_29) rfl rfl (l' := #[iv p1, iv p2, iv 0, iv 1, rv w_EVERY_NEWLINE, .unset, .unset, .unset, .unset, .unset, .unset]) rfl k) ?_
      refine Go.st (f' := (mkF m 33 #[iv p1, iv p2, iv 0, iv 1, rv w_EVERY_NEWLINE, .unset, .unset, .unset, .unset, .unset, .unset] [(.ref w_EVERY_NEWLINE)])) (fun _ k => XS.aload X7.here hx rfl (hb hby at_31) rfl rfl k) ?_
      obtain ⟨T8, X8, e8, st8⟩ := getS2 X7 hx hZ hown (host := "") (Or.inl (hw _ (List.mem_of_getElem? (i := 6) rfl))) Via.refl eh7 (S_w_NEWLINES_APART.ext O0.2) (g := (mkF m 33 #[iv p1, iv p2, iv 0, iv 1, rv w_EVERY_NEWLINE, .unset, .unset, .unset, .unset, .unset, .unset] [(.ref w_EVERY_NEWLINE)])) rfl (hb hby at_33)
      refine Go.st (f' := (mkF m 36 #[iv p1, iv p2, iv 0, iv 1, rv w_EVERY_NEWLINE, .unset, .unset, .unset, .unset, .unset, .unset] [(.ref w_NEWLINES_APART), (.ref w_EVERY_NEWLINE)])) (fun _ k => st8 _ k) ?_
      refine Go.st (f' := (mkF m 43 #[iv p1, iv p2, iv 0, iv 1, rv w_EVERY_NEWLINE, .unset, .unset, .unset, .unset, .unset, .unset] [])) (fun _ k => Jvm.RoadKit.acmp (g := (mkF m 36 #[iv p1, iv p2, iv 0, iv 1, rv w_EVERY_NEWLINE, .unset, .unset, .unset, .unset, .unset, .unset] [(.ref w_NEWLINES_APART), (.ref w_EVERY_NEWLINE)])) X8 hx rfl rfl rfl (pc0 := 36) (pc' := 43) (same := false) rfl (hb hby at_36) rfl (decide_eq_false fun q => (Fld.ne F_w_EVERY_NEWLINE_ordinal F_w_NEWLINES_APART_ordinal (by decide)) (Value.ref.inj q)) (by decide) (by decide) k) ?_
      refine Go.st (f' := (mkF m 44 #[iv p1, iv p2, iv 0, iv 1, rv w_EVERY_NEWLINE, .unset, .unset, .unset, .unset, .unset, .unset] [(.int 0)])) (fun _ k => XS.iconst X8.here hx rfl (hb hby at_43) k) ?_
      refine Go.st (f' := (mkF m 46 #[iv p1, iv p2, iv 0, iv 1, rv w_EVERY_NEWLINE, iv 0, .unset, .unset, .unset, .unset, .unset] [])) (fun _ k => XS.istore X8.here hx rfl (hb hby at_44) rfl (l' := #[iv p1, iv p2, iv 0, iv 1, rv w_EVERY_NEWLINE, iv 0, .unset, .unset, .unset, .unset, .unset]) rfl k) ?_
      refine Go.st (f' := (mkF m 48 #[iv p1, iv p2, iv 0, iv 1, rv w_EVERY_NEWLINE, iv 0, .unset, .unset, .unset, .unset, .unset] [(.ref w_EVERY_NEWLINE)])) (fun _ k => XS.aload X8.here hx rfl (hb hby at_46) rfl rfl k) ?_
      obtain ⟨T9, X9, e9, st9⟩ := getS2 X8 hx hZ hown (host := "") (Or.inl (hw _ (List.mem_of_getElem? (i := 8) rfl))) Via.refl e8 (S_w_EVERY_NEWLINE.ext O0.2) (g := (mkF m 48 #[iv p1, iv p2, iv 0, iv 1, rv w_EVERY_NEWLINE, iv 0, .unset, .unset, .unset, .unset, .unset] [(.ref w_EVERY_NEWLINE)])) rfl (hb hby at_48)
      refine Go.st (f' := (mkF m 51 #[iv p1, iv p2, iv 0, iv 1, rv w_EVERY_NEWLINE, iv 0, .unset, .unset, .unset, .unset, .unset] [(.ref w_EVERY_NEWLINE), (.ref w_EVERY_NEWLINE)])) (fun _ k => st9 _ k) ?_
      refine Go.st (f' := (mkF m 54 #[iv p1, iv p2, iv 0, iv 1, rv w_EVERY_NEWLINE, iv 0, .unset, .unset, .unset, .unset, .unset] [])) (fun _ k => Jvm.RoadKit.acmp (g := (mkF m 51 #[iv p1, iv p2, iv 0, iv 1, rv w_EVERY_NEWLINE, iv 0, .unset, .unset, .unset, .unset, .unset] [(.ref w_EVERY_NEWLINE), (.ref w_EVERY_NEWLINE)])) X9 hx rfl rfl rfl (pc0 := 51) (pc' := 54) (same := true) rfl (hb hby at_51) rfl (decide_eq_true rfl) (by decide) (by decide) k) ?_
      refine Go.st (f' := (mkF m 55 #[iv p1, iv p2, iv 0, iv 1, rv w_EVERY_NEWLINE, iv 0, .unset, .unset, .unset, .unset, .unset] [(.int 1)])) (fun _ k => XS.iconst X9.here hx rfl (hb hby at_54) k) ?_
      refine Go.st (f' := (mkF m 59 #[iv p1, iv p2, iv 0, iv 1, rv w_EVERY_NEWLINE, iv 0, .unset, .unset, .unset, .unset, .unset] [(.int 1)])) (fun _ k => XS.goto X9.here hx rfl (pc0 := 55) (pc' := 59) rfl (hb hby at_55) (by decide) (by decide) k) ?_
      refine Go.st (f' := (mkF m 61 #[iv p1, iv p2, iv 0, iv 1, rv w_EVERY_NEWLINE, iv 0, iv 1, .unset, .unset, .unset, .unset] [])) (fun _ k => XS.istore X9.here hx rfl (hb hby at_59) rfl (l' := #[iv p1, iv p2, iv 0, iv 1, rv w_EVERY_NEWLINE, iv 0, iv 1, .unset, .unset, .unset, .unset]) rfl k) ?_
      refine Go.st (f' := (mkF m 63 #[iv p1, iv p2, iv 0, iv 1, rv w_EVERY_NEWLINE, iv 0, iv 1, .unset, .unset, .unset, .unset] [(.ref w_EVERY_NEWLINE)])) (fun _ k => XS.aload X9.here hx rfl (hb hby at_61) rfl rfl k) ?_
      obtain ⟨T10, X10, e10, st10⟩ := getS2 X9 hx hZ hown (host := "") (Or.inl (hw _ (List.mem_of_getElem? (i := 9) rfl))) Via.refl e9 (S_w_LAST_NEWLINE.ext O0.2) (g := (mkF m 63 #[iv p1, iv p2, iv 0, iv 1, rv w_EVERY_NEWLINE, iv 0, iv 1, .unset, .unset, .unset, .unset] [(.ref w_EVERY_NEWLINE)])) rfl (hb hby at_63)
      refine Go.st (f' := (mkF m 66 #[iv p1, iv p2, iv 0, iv 1, rv w_EVERY_NEWLINE, iv 0, iv 1, .unset, .unset, .unset, .unset] [(.ref w_LAST_NEWLINE), (.ref w_EVERY_NEWLINE)])) (fun _ k => st10 _ k) ?_
      refine Go.st (f' := (mkF m 73 #[iv p1, iv p2, iv 0, iv 1, rv w_EVERY_NEWLINE, iv 0, iv 1, .unset, .unset, .unset, .unset] [])) (fun _ k => Jvm.RoadKit.acmp (g := (mkF m 66 #[iv p1, iv p2, iv 0, iv 1, rv w_EVERY_NEWLINE, iv 0, iv 1, .unset, .unset, .unset, .unset] [(.ref w_LAST_NEWLINE), (.ref w_EVERY_NEWLINE)])) X10 hx rfl rfl rfl (pc0 := 66) (pc' := 73) (same := false) rfl (hb hby at_66) rfl (decide_eq_false fun q => (Fld.ne F_w_EVERY_NEWLINE_ordinal F_w_LAST_NEWLINE_ordinal (by decide)) (Value.ref.inj q)) (by decide) (by decide) k) ?_
      refine Go.st (f' := (mkF m 74 #[iv p1, iv p2, iv 0, iv 1, rv w_EVERY_NEWLINE, iv 0, iv 1, .unset, .unset, .unset, .unset] [(.int 0)])) (fun _ k => XS.iconst X10.here hx rfl (hb hby at_73) k) ?_
      refine Go.st (f' := (mkF m 76 #[iv p1, iv p2, iv 0, iv 1, rv w_EVERY_NEWLINE, iv 0, iv 1, iv 0, .unset, .unset, .unset] [])) (fun _ k => XS.istore X10.here hx rfl (hb hby at_74) rfl (l' := #[iv p1, iv p2, iv 0, iv 1, rv w_EVERY_NEWLINE, iv 0, iv 1, iv 0, .unset, .unset, .unset]) rfl k) ?_
      refine Go.st (f' := (mkF m 77 #[iv p1, iv p2, iv 0, iv 1, rv w_EVERY_NEWLINE, iv 0, iv 1, iv 0, .unset, .unset, .unset] [(.int 0)])) (fun _ k => XS.iloadN X10.here hx rfl (hb hby at_76) rfl k) ?_
      refine Go.st (f' := (mkF m 88 #[iv p1, iv p2, iv 0, iv 1, rv w_EVERY_NEWLINE, iv 0, iv 1, iv 0, .unset, .unset, .unset] [])) (fun _ k => XS.ifYes X10.here hx rfl (pc0 := 77) (pc' := 88) rfl (hb hby at_77) rfl (by decide) (by decide) (by decide) k) ?_
      refine Go.st (f' := (mkF m 89 #[iv p1, iv p2, iv 0, iv 1, rv w_EVERY_NEWLINE, iv 0, iv 1, iv 0, .unset, .unset, .unset] [(.int 0)])) (fun _ k => XS.iconst X10.here hx rfl (hb hby at_88) k) ?_
      refine Go.st (f' := (mkF m 91 #[iv p1, iv p2, iv 0, iv 1, rv w_EVERY_NEWLINE, iv 0, iv 1, iv 0, iv 0, .unset, .unset] [])) (fun _ k => XS.istore X10.here hx rfl (hb hby at_89) rfl (l' := #[iv p1, iv p2, iv 0, iv 1, rv w_EVERY_NEWLINE, iv 0, iv 1, iv 0, iv 0, .unset, .unset]) rfl k) ?_
      refine Go.st (f' := (mkF m 92 #[iv p1, iv p2, iv 0, iv 1, rv w_EVERY_NEWLINE, iv 0, iv 1, iv 0, iv 0, .unset, .unset] [(.int 1)])) (fun _ k => XS.iloadN X10.here hx rfl (hb hby at_91) rfl k) ?_
      refine Go.st (f' := (mkF m 95 #[iv p1, iv p2, iv 0, iv 1, rv w_EVERY_NEWLINE, iv 0, iv 1, iv 0, iv 0, .unset, .unset] [])) (fun _ k => XS.ifNo X10.here hx rfl (hb hby at_92) rfl (by decide) k) ?_
      refine Go.st (f' := (mkF m 96 #[iv p1, iv p2, iv 0, iv 1, rv w_EVERY_NEWLINE, iv 0, iv 1, iv 0, iv 0, .unset, .unset] [(.int 0)])) (fun _ k => XS.iloadN X10.here hx rfl (hb hby at_95) rfl k) ?_
      refine Go.st (f' := (mkF m 99 #[iv p1, iv p2, iv 0, iv 1, rv w_EVERY_NEWLINE, iv 0, iv 1, iv 0, iv 0, .unset, .unset] [])) (fun _ k => XS.ifNo X10.here hx rfl (hb hby at_96) rfl (by decide) k) ?_
      refine Go.st (f' := (mkF m 100 #[iv p1, iv p2, iv 0, iv 1, rv w_EVERY_NEWLINE, iv 0, iv 1, iv 0, iv 0, .unset, .unset] [(.int 1)])) (fun _ k => XS.iconst X10.here hx rfl (hb hby at_99) k) ?_
      refine Go.st (f' := (mkF m 104 #[iv p1, iv p2, iv 0, iv 1, rv w_EVERY_NEWLINE, iv 0, iv 1, iv 0, iv 0, .unset, .unset] [(.int 1)])) (fun _ k => XS.goto X10.here hx rfl (pc0 := 100) (pc' := 104) rfl (hb hby at_100) (by decide) (by decide) k) ?_
      refine Go.st (f' := (mkF m 106 #[iv p1, iv p2, iv 0, iv 1, rv w_EVERY_NEWLINE, iv 0, iv 1, iv 0, iv 0, iv 1, .unset] [])) (fun _ k => XS.istore X10.here hx rfl (hb hby at_104) rfl (l' := #[iv p1, iv p2, iv 0, iv 1, rv w_EVERY_NEWLINE, iv 0, iv 1, iv 0, iv 0, iv 1, .unset]) rfl k) ?_
      refine Go.st (f' := (mkF m 107 #[iv p1, iv p2, iv 0, iv 1, rv w_EVERY_NEWLINE, iv 0, iv 1, iv 0, iv 0, iv 1, .unset] [(.int 1)])) (fun _ k => XS.iloadN X10.here hx rfl (hb hby at_106) rfl k) ?_
      refine Go.st (f' := (mkF m 114 #[iv p1, iv p2, iv 0, iv 1, rv w_EVERY_NEWLINE, iv 0, iv 1, iv 0, iv 0, iv 1, .unset] [])) (fun _ k => XS.ifYes X10.here hx rfl (pc0 := 107) (pc' := 114) rfl (hb hby at_107) rfl (by decide) (by decide) (by decide) k) ?_
      refine Go.st (f' := (mkF m 115 #[iv p1, iv p2, iv 0, iv 1, rv w_EVERY_NEWLINE, iv 0, iv 1, iv 0, iv 0, iv 1, .unset] [(.int 0)])) (fun _ k => XS.iconst X10.here hx rfl (hb hby at_114) k) ?_
      refine Go.st (f' := (mkF m 117 #[iv p1, iv p2, iv 0, iv 1, rv w_EVERY_NEWLINE, iv 0, iv 1, iv 0, iv 0, iv 1, iv 0] [])) (fun _ k => XS.istore X10.here hx rfl (hb hby at_115) rfl (l' := #[iv p1, iv p2, iv 0, iv 1, rv w_EVERY_NEWLINE, iv 0, iv 1, iv 0, iv 0, iv 1, iv 0]) rfl k) ?_
      refine Go.st (f' := (mkF m 119 #[iv p1, iv p2, iv 0, iv 1, rv w_EVERY_NEWLINE, iv 0, iv 1, iv 0, iv 0, iv 1, iv 0] [(.ref w_EVERY_NEWLINE)])) (fun _ k => XS.aload X10.here hx rfl (hb hby at_117) rfl rfl k) ?_
      refine Go.st (f' := (mkF m 122 #[iv p1, iv p2, iv 0, iv 1, rv w_EVERY_NEWLINE, iv 0, iv 1, iv 0, iv 0, iv 1, iv 0] [])) (fun _ k => XS.ifnullNo X10.here hx rfl (hb hby at_119) rfl k) ?_
      refine Go.st (f' := (mkF m 124 #[iv p1, iv p2, iv 0, iv 1, rv w_EVERY_NEWLINE, iv 0, iv 1, iv 0, iv 0, iv 1, iv 0] [(.int 0)])) (fun _ k => XS.iload X10.here hx rfl (hb hby at_122) rfl k) ?_
      refine Go.st (f' := (mkF m 126 #[iv p1, iv p2, iv 0, iv 1, rv w_EVERY_NEWLINE, iv 0, iv 1, iv 0, iv 0, iv 1, iv 0] [(.int 0), (.int 0)])) (fun _ k => XS.iload X10.here hx rfl (hb hby at_124) rfl k) ?_
      refine Go.st (f' := (mkF m 129 #[iv p1, iv p2, iv 0, iv 1, rv w_EVERY_NEWLINE, iv 0, iv 1, iv 0, iv 0, iv 1, iv 0] [])) (fun _ k => XS.icmpNo X10.here hx rfl (hb hby at_126) rfl (by decide) k) ?_
      refine Go.st (f' := (mkF m 131 #[iv p1, iv p2, iv 0, iv 1, rv w_EVERY_NEWLINE, iv 0, iv 1, iv 0, iv 0, iv 1, iv 0] [(.int 1)])) (fun _ k => XS.iload X10.here hx rfl (hb hby at_129) rfl k) ?_
      refine Go.st (f' := (mkF m 133 #[iv p1, iv p2, iv 0, iv 1, rv w_EVERY_NEWLINE, iv 0, iv 1, iv 0, iv 0, iv 1, iv 0] [(.int 1), (.int 1)])) (fun _ k => XS.iload X10.here hx rfl (hb hby at_131) rfl k) ?_
      refine Go.st (f' := (mkF m 136 #[iv p1, iv p2, iv 0, iv 1, rv w_EVERY_NEWLINE, iv 0, iv 1, iv 0, iv 0, iv 1, iv 0] [])) (fun _ k => XS.icmpNo X10.here hx rfl (hb hby at_133) rfl (by decide) k) ?_
      refine Go.st (f' := (mkF m 138 #[iv p1, iv p2, iv 0, iv 1, rv w_EVERY_NEWLINE, iv 0, iv 1, iv 0, iv 0, iv 1, iv 0] [(.int 0)])) (fun _ k => XS.iload X10.here hx rfl (hb hby at_136) rfl k) ?_
      refine Go.st (f' := (mkF m 140 #[iv p1, iv p2, iv 0, iv 1, rv w_EVERY_NEWLINE, iv 0, iv 1, iv 0, iv 0, iv 1, iv 0] [(.int 0), (.int 0)])) (fun _ k => XS.iload X10.here hx rfl (hb hby at_138) rfl k) ?_
      refine Go.st (f' := (mkF m 143 #[iv p1, iv p2, iv 0, iv 1, rv w_EVERY_NEWLINE, iv 0, iv 1, iv 0, iv 0, iv 1, iv 0] [])) (fun _ k => XS.icmpNo X10.here hx rfl (hb hby at_140) rfl (by decide) k) ?_
      refine Go.st (f' := (mkF m 144 #[iv p1, iv p2, iv 0, iv 1, rv w_EVERY_NEWLINE, iv 0, iv 1, iv 0, iv 0, iv 1, iv 0] [(.int 1)])) (fun _ k => XS.iconst X10.here hx rfl (hb hby at_143) k) ?_
      refine Go.st (f' := (mkF m 148 #[iv p1, iv p2, iv 0, iv 1, rv w_EVERY_NEWLINE, iv 0, iv 1, iv 0, iv 0, iv 1, iv 0] [(.int 1)])) (fun _ k => XS.goto X10.here hx rfl (pc0 := 144) (pc' := 148) rfl (hb hby at_144) (by decide) (by decide) k) ?_
      refine Go.retB X10 hlk hx (t := .boolean) hret (by simp) (hb hby at_148) e10 ?_ (by decide) (by decide)
      exact ⟨rfl, N7⟩
  · refine Go.st (f' := (mkF m 6 #[iv p1, iv p2, .unset, .unset, .unset, .unset, .unset, .unset, .unset, .unset, .unset] [])) (fun _ k => XS.ifNo X0.here hx rfl (hb hby at_3) rfl ((if0 _ _).trans (feq c1).1) k) ?_
    refine Go.st (f' := (mkF m 7 #[iv p1, iv p2, .unset, .unset, .unset, .unset, .unset, .unset, .unset, .unset, .unset] [(.int 1)])) (fun _ k => XS.iconst X0.here hx rfl (hb hby at_6) k) ?_
    refine Go.st (f' := (mkF m 11 #[iv p1, iv p2, .unset, .unset, .unset, .unset, .unset, .unset, .unset, .unset, .unset] [(.int 1)])) (fun _ k => XS.goto X0.here hx rfl (pc0 := 7) (pc' := 11) rfl (hb hby at_7) (by decide) (by decide) k) ?_
    refine Go.st (f' := (mkF m 12 #[iv p1, iv p2, iv 1, .unset, .unset, .unset, .unset, .unset, .unset, .unset, .unset] [])) (fun _ k => XS.istoreN X0.here hx rfl (hb hby at_11) rfl (l' := #[iv p1, iv p2, iv 1, .unset, .unset, .unset, .unset, .unset, .unset, .unset, .unset]) rfl k) ?_
    refine Go.st (f' := (mkF m 13 #[iv p1, iv p2, iv 1, .unset, .unset, .unset, .unset, .unset, .unset, .unset, .unset] [(.int p2)])) (fun _ k => XS.iloadN X0.here hx rfl (hb hby at_12) rfl k) ?_
    refine Go.st (f' := (mkF m 14 #[iv p1, iv p2, iv 1, .unset, .unset, .unset, .unset, .unset, .unset, .unset, .unset] [(.int 1), (.int p2)])) (fun _ k => XS.iconst X0.here hx rfl (hb hby at_13) k) ?_
    refine Go.st (f' := (mkF m 15 #[iv p1, iv p2, iv 1, .unset, .unset, .unset, .unset, .unset, .unset, .unset, .unset] [(.int (p2 &&& (1 : Int32)))])) (fun _ k => XS.iand X0.here hx rfl (hb hby at_14) rfl k) ?_
    by_cases c11 : (p2 &&& (1 : Int32)) = (0 : Int32)
    · refine Go.st (f' := (mkF m 22 #[iv p1, iv p2, iv 1, .unset, .unset, .unset, .unset, .unset, .unset, .unset, .unset] [])) (fun _ k => XS.ifYes X0.here hx rfl (pc0 := 15) (pc' := 22) rfl (hb hby at_15) rfl ((if0 _ _).trans (teq c11).1) (by decide) (by decide) k) ?_
      refine Go.st (f' := (mkF m 23 #[iv p1, iv p2, iv 1, .unset, .unset, .unset, .unset, .unset, .unset, .unset, .unset] [(.int 0)])) (fun _ k => XS.iconst X0.here hx rfl (hb hby at_22) k) ?_
      refine Go.st (f' := (mkF m 24 #[iv p1, iv p2, iv 1, iv 0, .unset, .unset, .unset, .unset, .unset, .unset, .unset] [])) (fun _ k => XS.istoreN X0.here hx rfl (hb hby at_23) rfl (l' := #[iv p1, iv p2, iv 1, iv 0, .unset, .unset, .unset, .unset, .unset, .unset, .unset]) rfl k) ?_
      refine Go.st (f' := (mkF m 25 #[iv p1, iv p2, iv 1, iv 0, .unset, .unset, .unset, .unset, .unset, .unset, .unset] [(.int 1)])) (fun _ k => XS.iloadN X0.here hx rfl (hb hby at_24) rfl k) ?_
      refine Go.st (f' := (mkF m 26 #[iv p1, iv p2, iv 1, iv 0, .unset, .unset, .unset, .unset, .unset, .unset, .unset] [(.int 0), (.int 1)])) (fun _ k => XS.iloadN X0.here hx rfl (hb hby at_25) rfl k) ?_
      obtain ⟨_, _, ⟨T12, L12, k12, n12⟩, -, X12, ⟨Lc12, hQ12, l12, y12, z12⟩, st12⟩ := Jvm.LawKit.callS X0 hx (y := (⟨"com/example/rulebridge/rulebridge/core/MarkedValue$Scheme", "of", "(ZZ)Lcom/example/rulebridge/rulebridge/core/MarkedValue$Scheme;"⟩ : MethodName)) hown (mvT hZ (hw _ (List.mem_of_getElem? (i := 0) rfl))) (mvT hZ (hw _ (List.mem_of_getElem? (i := 1) rfl))) (mvT hZ (hw _ (List.mem_of_getElem? (i := 2) rfl))) (mvT hZ (hw _ (List.mem_of_getElem? (i := 3) rfl))) (by decide) (own_back (W := 0) (rm1 l Z a0 hw [] (1 : Int32) (0 : Int32) w_EVERY_NEWLINE w_NEWLINES_APART w_LAST_NEWLINE h0 n0 O0 WW) hZ (hw _ (List.mem_of_getElem? (i := 3) rfl)) (hw _ (List.mem_of_getElem? (i := 2) rfl)) (by decide) (by decide)) (g := (mkF m 26 #[iv p1, iv p2, iv 1, iv 0, .unset, .unset, .unset, .unset, .unset, .unset, .unset] [(.int 0), (.int 1)])) rfl (by rw [hml]; rfl) (argsL := [(.int (1 : Int32)), (.int (0 : Int32))]) (rest := []) (lenOf pd__ZZ_Lcom_example_rulebridge_rulebridge_core_MarkedValue_Scheme_ rfl) rfl (by show 2 * 0 + _ ≤ _; exact Nat.le_of_eq rfl) (hb hby at_26) (fun _ _ => ⟨rfl, e0, (by decide : 0 + 0 ≤ _), (by decide : 0 + 0 ≤ _)⟩)
      dsimp only [Pt.U, Pt.locs, Pt.cells, Pt.slots] at X12 l12 y12 z12 st12 hQ12
      subst l12 y12 z12
      obtain ⟨rfl, Nq12, eh12⟩ := hQ12
      have N12 := Fr.app N0 Nq12
      have eh12' := eh12
      refine Go.st (f' := (mkF m 29 #[iv p1, iv p2, iv 1, iv 0, .unset, .unset, .unset, .unset, .unset, .unset, .unset] [(.ref w_LAST_NEWLINE)])) (fun _ k => st12 _ k) ?_
      refine Go.st (f' := (mkF m 31 #[iv p1, iv p2, iv 1, iv 0, rv w_LAST_NEWLINE, .unset, .unset, .unset, .unset, .unset, .unset] [])) (fun _ k => XS.astore X12.here hx rfl (hb hby at_29) rfl rfl (l' := #[iv p1, iv p2, iv 1, iv 0, rv w_LAST_NEWLINE, .unset, .unset, .unset, .unset, .unset, .unset]) rfl k) ?_
      refine Go.st (f' := (mkF m 33 #[iv p1, iv p2, iv 1, iv 0, rv w_LAST_NEWLINE, .unset, .unset, .unset, .unset, .unset, .unset] [(.ref w_LAST_NEWLINE)])) (fun _ k => XS.aload X12.here hx rfl (hb hby at_31) rfl rfl k) ?_
      obtain ⟨T13, X13, e13, st13⟩ := getS2 X12 hx hZ hown (host := "") (Or.inl (hw _ (List.mem_of_getElem? (i := 6) rfl))) Via.refl eh12 (S_w_NEWLINES_APART.ext O0.2) (g := (mkF m 33 #[iv p1, iv p2, iv 1, iv 0, rv w_LAST_NEWLINE, .unset, .unset, .unset, .unset, .unset, .unset] [(.ref w_LAST_NEWLINE)])) rfl (hb hby at_33)
      refine Go.st (f' := (mkF m 36 #[iv p1, iv p2, iv 1, iv 0, rv w_LAST_NEWLINE, .unset, .unset, .unset, .unset, .unset, .unset] [(.ref w_NEWLINES_APART), (.ref w_LAST_NEWLINE)])) (fun _ k => st13 _ k) ?_
      refine Go.st (f' := (mkF m 43 #[iv p1, iv p2, iv 1, iv 0, rv w_LAST_NEWLINE, .unset, .unset, .unset, .unset, .unset, .unset] [])) (fun _ k => Jvm.RoadKit.acmp (g := (mkF m 36 #[iv p1, iv p2, iv 1, iv 0, rv w_LAST_NEWLINE, .unset, .unset, .unset, .unset, .unset, .unset] [(.ref w_NEWLINES_APART), (.ref w_LAST_NEWLINE)])) X13 hx rfl rfl rfl (pc0 := 36) (pc' := 43) (same := false) rfl (hb hby at_36) rfl (decide_eq_false fun q => (Ne.symm (Fld.ne F_w_NEWLINES_APART_ordinal F_w_LAST_NEWLINE_ordinal (by decide))) (Value.ref.inj q)) (by decide) (by decide) k) ?_
      refine Go.st (f' := (mkF m 44 #[iv p1, iv p2, iv 1, iv 0, rv w_LAST_NEWLINE, .unset, .unset, .unset, .unset, .unset, .unset] [(.int 0)])) (fun _ k => XS.iconst X13.here hx rfl (hb hby at_43) k) ?_
      refine Go.st (f' := (mkF m 46 #[iv p1, iv p2, iv 1, iv 0, rv w_LAST_NEWLINE, iv 0, .unset, .unset, .unset, .unset, .unset] [])) (fun _ k => XS.istore X13.here hx rfl (hb hby at_44) rfl (l' := #[iv p1, iv p2, iv 1, iv 0, rv w_LAST_NEWLINE, iv 0, .unset, .unset, .unset, .unset, .unset]) rfl k) ?_
      refine Go.st (f' := (mkF m 48 #[iv p1, iv p2, iv 1, iv 0, rv w_LAST_NEWLINE, iv 0, .unset, .unset, .unset, .unset, .unset] [(.ref w_LAST_NEWLINE)])) (fun _ k => XS.aload X13.here hx rfl (hb hby at_46) rfl rfl k) ?_
      obtain ⟨T14, X14, e14, st14⟩ := getS2 X13 hx hZ hown (host := "") (Or.inl (hw _ (List.mem_of_getElem? (i := 8) rfl))) Via.refl e13 (S_w_EVERY_NEWLINE.ext O0.2) (g := (mkF m 48 #[iv p1, iv p2, iv 1, iv 0, rv w_LAST_NEWLINE, iv 0, .unset, .unset, .unset, .unset, .unset] [(.ref w_LAST_NEWLINE)])) rfl (hb hby at_48)
      refine Go.st (f' := (mkF m 51 #[iv p1, iv p2, iv 1, iv 0, rv w_LAST_NEWLINE, iv 0, .unset, .unset, .unset, .unset, .unset] [(.ref w_EVERY_NEWLINE), (.ref w_LAST_NEWLINE)])) (fun _ k => st14 _ k) ?_
      refine Go.st (f' := (mkF m 58 #[iv p1, iv p2, iv 1, iv 0, rv w_LAST_NEWLINE, iv 0, .unset, .unset, .unset, .unset, .unset] [])) (fun _ k => Jvm.RoadKit.acmp (g := (mkF m 51 #[iv p1, iv p2, iv 1, iv 0, rv w_LAST_NEWLINE, iv 0, .unset, .unset, .unset, .unset, .unset] [(.ref w_EVERY_NEWLINE), (.ref w_LAST_NEWLINE)])) X14 hx rfl rfl rfl (pc0 := 51) (pc' := 58) (same := false) rfl (hb hby at_51) rfl (decide_eq_false fun q => (Ne.symm (Fld.ne F_w_EVERY_NEWLINE_ordinal F_w_LAST_NEWLINE_ordinal (by decide))) (Value.ref.inj q)) (by decide) (by decide) k) ?_
      refine Go.st (f' := (mkF m 59 #[iv p1, iv p2, iv 1, iv 0, rv w_LAST_NEWLINE, iv 0, .unset, .unset, .unset, .unset, .unset] [(.int 0)])) (fun _ k => XS.iconst X14.here hx rfl (hb hby at_58) k) ?_
      refine Go.st (f' := (mkF m 61 #[iv p1, iv p2, iv 1, iv 0, rv w_LAST_NEWLINE, iv 0, iv 0, .unset, .unset, .unset, .unset] [])) (fun _ k => XS.istore X14.here hx rfl (hb hby at_59) rfl (l' := #[iv p1, iv p2, iv 1, iv 0, rv w_LAST_NEWLINE, iv 0, iv 0, .unset, .unset, .unset, .unset]) rfl k) ?_
      refine Go.st (f' := (mkF m 63 #[iv p1, iv p2, iv 1, iv 0, rv w_LAST_NEWLINE, iv 0, iv 0, .unset, .unset, .unset, .unset] [(.ref w_LAST_NEWLINE)])) (fun _ k => XS.aload X14.here hx rfl (hb hby at_61) rfl rfl k) ?_
      obtain ⟨T15, X15, e15, st15⟩ := getS2 X14 hx hZ hown (host := "") (Or.inl (hw _ (List.mem_of_getElem? (i := 9) rfl))) Via.refl e14 (S_w_LAST_NEWLINE.ext O0.2) (g := (mkF m 63 #[iv p1, iv p2, iv 1, iv 0, rv w_LAST_NEWLINE, iv 0, iv 0, .unset, .unset, .unset, .unset] [(.ref w_LAST_NEWLINE)])) rfl (hb hby at_63)
      refine Go.st (f' := (mkF m 66 #[iv p1, iv p2, iv 1, iv 0, rv w_LAST_NEWLINE, iv 0, iv 0, .unset, .unset, .unset, .unset] [(.ref w_LAST_NEWLINE), (.ref w_LAST_NEWLINE)])) (fun _ k => st15 _ k) ?_
      refine Go.st (f' := (mkF m 69 #[iv p1, iv p2, iv 1, iv 0, rv w_LAST_NEWLINE, iv 0, iv 0, .unset, .unset, .unset, .unset] [])) (fun _ k => Jvm.RoadKit.acmp (g := (mkF m 66 #[iv p1, iv p2, iv 1, iv 0, rv w_LAST_NEWLINE, iv 0, iv 0, .unset, .unset, .unset, .unset] [(.ref w_LAST_NEWLINE), (.ref w_LAST_NEWLINE)])) X15 hx rfl rfl rfl (pc0 := 66) (pc' := 69) (same := true) rfl (hb hby at_66) rfl (decide_eq_true rfl) (by decide) (by decide) k) ?_
      refine Go.st (f' := (mkF m 70 #[iv p1, iv p2, iv 1, iv 0, rv w_LAST_NEWLINE, iv 0, iv 0, .unset, .unset, .unset, .unset] [(.int 1)])) (fun _ k => XS.iconst X15.here hx rfl (hb hby at_69) k) ?_
      refine Go.st (f' := (mkF m 74 #[iv p1, iv p2, iv 1, iv 0, rv w_LAST_NEWLINE, iv 0, iv 0, .unset, .unset, .unset, .unset] [(.int 1)])) (fun _ k => XS.goto X15.here hx rfl (pc0 := 70) (pc' := 74) rfl (hb hby at_70) (by decide) (by decide) k) ?_
      refine Go.st (f' := (mkF m 76 #[iv p1, iv p2, iv 1, iv 0, rv w_LAST_NEWLINE, iv 0, iv 0, iv 1, .unset, .unset, .unset] [])) (fun _ k => XS.istore X15.here hx rfl (hb hby at_74) rfl (l' := #[iv p1, iv p2, iv 1, iv 0, rv w_LAST_NEWLINE, iv 0, iv 0, iv 1, .unset, .unset, .unset]) rfl k) ?_
      refine Go.st (f' := (mkF m 77 #[iv p1, iv p2, iv 1, iv 0, rv w_LAST_NEWLINE, iv 0, iv 0, iv 1, .unset, .unset, .unset] [(.int 1)])) (fun _ k => XS.iloadN X15.here hx rfl (hb hby at_76) rfl k) ?_
      refine Go.st (f' := (mkF m 80 #[iv p1, iv p2, iv 1, iv 0, rv w_LAST_NEWLINE, iv 0, iv 0, iv 1, .unset, .unset, .unset] [])) (fun _ k => XS.ifNo X15.here hx rfl (hb hby at_77) rfl (by decide) k) ?_
      refine Go.st (f' := (mkF m 81 #[iv p1, iv p2, iv 1, iv 0, rv w_LAST_NEWLINE, iv 0, iv 0, iv 1, .unset, .unset, .unset] [(.int 0)])) (fun _ k => XS.iloadN X15.here hx rfl (hb hby at_80) rfl k) ?_
      refine Go.st (f' := (mkF m 88 #[iv p1, iv p2, iv 1, iv 0, rv w_LAST_NEWLINE, iv 0, iv 0, iv 1, .unset, .unset, .unset] [])) (fun _ k => XS.ifYes X15.here hx rfl (pc0 := 81) (pc' := 88) rfl (hb hby at_81) rfl (by decide) (by decide) (by decide) k) ?_
      refine Go.st (f' := (mkF m 89 #[iv p1, iv p2, iv 1, iv 0, rv w_LAST_NEWLINE, iv 0, iv 0, iv 1, .unset, .unset, .unset] [(.int 0)])) (fun _ k => XS.iconst X15.here hx rfl (hb hby at_88) k) ?_
      refine Go.st (f' := (mkF m 91 #[iv p1, iv p2, iv 1, iv 0, rv w_LAST_NEWLINE, iv 0, iv 0, iv 1, iv 0, .unset, .unset] [])) (fun _ k => XS.istore X15.here hx rfl (hb hby at_89) rfl (l' := #[iv p1, iv p2, iv 1, iv 0, rv w_LAST_NEWLINE, iv 0, iv 0, iv 1, iv 0, .unset, .unset]) rfl k) ?_
      refine Go.st (f' := (mkF m 92 #[iv p1, iv p2, iv 1, iv 0, rv w_LAST_NEWLINE, iv 0, iv 0, iv 1, iv 0, .unset, .unset] [(.int 0)])) (fun _ k => XS.iloadN X15.here hx rfl (hb hby at_91) rfl k) ?_
      refine Go.st (f' := (mkF m 103 #[iv p1, iv p2, iv 1, iv 0, rv w_LAST_NEWLINE, iv 0, iv 0, iv 1, iv 0, .unset, .unset] [])) (fun _ k => XS.ifYes X15.here hx rfl (pc0 := 92) (pc' := 103) rfl (hb hby at_92) rfl (by decide) (by decide) (by decide) k) ?_
      refine Go.st (f' := (mkF m 104 #[iv p1, iv p2, iv 1, iv 0, rv w_LAST_NEWLINE, iv 0, iv 0, iv 1, iv 0, .unset, .unset] [(.int 0)])) (fun _ k => XS.iconst X15.here hx rfl (hb hby at_103) k) ?_
      refine Go.st (f' := (mkF m 106 #[iv p1, iv p2, iv 1, iv 0, rv w_LAST_NEWLINE, iv 0, iv 0, iv 1, iv 0, iv 0, .unset] [])) (fun _ k => XS.istore X15.here hx rfl (hb hby at_104) rfl (l' := #[iv p1, iv p2, iv 1, iv 0, rv w_LAST_NEWLINE, iv 0, iv 0, iv 1, iv 0, iv 0, .unset]) rfl k) ?_
      refine Go.st (f' := (mkF m 107 #[iv p1, iv p2, iv 1, iv 0, rv w_LAST_NEWLINE, iv 0, iv 0, iv 1, iv 0, iv 0, .unset] [(.int 0)])) (fun _ k => XS.iloadN X15.here hx rfl (hb hby at_106) rfl k) ?_
      refine Go.st (f' := (mkF m 110 #[iv p1, iv p2, iv 1, iv 0, rv w_LAST_NEWLINE, iv 0, iv 0, iv 1, iv 0, iv 0, .unset] [])) (fun _ k => XS.ifNo X15.here hx rfl (hb hby at_107) rfl (by decide) k) ?_
      refine Go.st (f' := (mkF m 111 #[iv p1, iv p2, iv 1, iv 0, rv w_LAST_NEWLINE, iv 0, iv 0, iv 1, iv 0, iv 0, .unset] [(.int 1)])) (fun _ k => XS.iconst X15.here hx rfl (hb hby at_110) k) ?_
      refine Go.st (f' := (mkF m 115 #[iv p1, iv p2, iv 1, iv 0, rv w_LAST_NEWLINE, iv 0, iv 0, iv 1, iv 0, iv 0, .unset] [(.int 1)])) (fun _ k => XS.goto X15.here hx rfl (pc0 := 111) (pc' := 115) rfl (hb hby at_111) (by decide) (by decide) k) ?_
      refine Go.st (f' := (mkF m 117 #[iv p1, iv p2, iv 1, iv 0, rv w_LAST_NEWLINE, iv 0, iv 0, iv 1, iv 0, iv 0, iv 1] [])) (fun _ k => XS.istore X15.here hx rfl (hb hby at_115) rfl (l' := #[iv p1, iv p2, iv 1, iv 0, rv w_LAST_NEWLINE, iv 0, iv 0, iv 1, iv 0, iv 0, iv 1]) rfl k) ?_
      refine Go.st (f' := (mkF m 119 #[iv p1, iv p2, iv 1, iv 0, rv w_LAST_NEWLINE, iv 0, iv 0, iv 1, iv 0, iv 0, iv 1] [(.ref w_LAST_NEWLINE)])) (fun _ k => XS.aload X15.here hx rfl (hb hby at_117) rfl rfl k) ?_
      refine Go.st (f' := (mkF m 122 #[iv p1, iv p2, iv 1, iv 0, rv w_LAST_NEWLINE, iv 0, iv 0, iv 1, iv 0, iv 0, iv 1] [])) (fun _ k => XS.ifnullNo X15.here hx rfl (hb hby at_119) rfl k) ?_
      refine Go.st (f' := (mkF m 124 #[iv p1, iv p2, iv 1, iv 0, rv w_LAST_NEWLINE, iv 0, iv 0, iv 1, iv 0, iv 0, iv 1] [(.int 0)])) (fun _ k => XS.iload X15.here hx rfl (hb hby at_122) rfl k) ?_
      refine Go.st (f' := (mkF m 126 #[iv p1, iv p2, iv 1, iv 0, rv w_LAST_NEWLINE, iv 0, iv 0, iv 1, iv 0, iv 0, iv 1] [(.int 0), (.int 0)])) (fun _ k => XS.iload X15.here hx rfl (hb hby at_124) rfl k) ?_
      refine Go.st (f' := (mkF m 129 #[iv p1, iv p2, iv 1, iv 0, rv w_LAST_NEWLINE, iv 0, iv 0, iv 1, iv 0, iv 0, iv 1] [])) (fun _ k => XS.icmpNo X15.here hx rfl (hb hby at_126) rfl (by decide) k) ?_
      refine Go.st (f' := (mkF m 131 #[iv p1, iv p2, iv 1, iv 0, rv w_LAST_NEWLINE, iv 0, iv 0, iv 1, iv 0, iv 0, iv 1] [(.int 0)])) (fun _ k => XS.iload X15.here hx rfl (hb hby at_129) rfl k) ?_
      refine Go.st (f' := (mkF m 133 #[iv p1, iv p2, iv 1, iv 0, rv w_LAST_NEWLINE, iv 0, iv 0, iv 1, iv 0, iv 0, iv 1] [(.int 0), (.int 0)])) (fun _ k => XS.iload X15.here hx rfl (hb hby at_131) rfl k) ?_
      refine Go.st (f' := (mkF m 136 #[iv p1, iv p2, iv 1, iv 0, rv w_LAST_NEWLINE, iv 0, iv 0, iv 1, iv 0, iv 0, iv 1] [])) (fun _ k => XS.icmpNo X15.here hx rfl (hb hby at_133) rfl (by decide) k) ?_
      refine Go.st (f' := (mkF m 138 #[iv p1, iv p2, iv 1, iv 0, rv w_LAST_NEWLINE, iv 0, iv 0, iv 1, iv 0, iv 0, iv 1] [(.int 1)])) (fun _ k => XS.iload X15.here hx rfl (hb hby at_136) rfl k) ?_
      refine Go.st (f' := (mkF m 140 #[iv p1, iv p2, iv 1, iv 0, rv w_LAST_NEWLINE, iv 0, iv 0, iv 1, iv 0, iv 0, iv 1] [(.int 1), (.int 1)])) (fun _ k => XS.iload X15.here hx rfl (hb hby at_138) rfl k) ?_
      refine Go.st (f' := (mkF m 143 #[iv p1, iv p2, iv 1, iv 0, rv w_LAST_NEWLINE, iv 0, iv 0, iv 1, iv 0, iv 0, iv 1] [])) (fun _ k => XS.icmpNo X15.here hx rfl (hb hby at_140) rfl (by decide) k) ?_
      refine Go.st (f' := (mkF m 144 #[iv p1, iv p2, iv 1, iv 0, rv w_LAST_NEWLINE, iv 0, iv 0, iv 1, iv 0, iv 0, iv 1] [(.int 1)])) (fun _ k => XS.iconst X15.here hx rfl (hb hby at_143) k) ?_
      refine Go.st (f' := (mkF m 148 #[iv p1, iv p2, iv 1, iv 0, rv w_LAST_NEWLINE, iv 0, iv 0, iv 1, iv 0, iv 0, iv 1] [(.int 1)])) (fun _ k => XS.goto X15.here hx rfl (pc0 := 144) (pc' := 148) rfl (hb hby at_144) (by decide) (by decide) k) ?_
      refine Go.retB X15 hlk hx (t := .boolean) hret (by simp) (hb hby at_148) e15 ?_ (by decide) (by decide)
      exact ⟨rfl, N12⟩
    · refine Go.st (f' := (mkF m 18 #[iv p1, iv p2, iv 1, .unset, .unset, .unset, .unset, .unset, .unset, .unset, .unset] [])) (fun _ k => XS.ifNo X0.here hx rfl (hb hby at_15) rfl ((if0 _ _).trans (feq c11).1) k) ?_
      refine Go.st (f' := (mkF m 19 #[iv p1, iv p2, iv 1, .unset, .unset, .unset, .unset, .unset, .unset, .unset, .unset] [(.int 1)])) (fun _ k => XS.iconst X0.here hx rfl (hb hby at_18) k) ?_
      refine Go.st (f' := (mkF m 23 #[iv p1, iv p2, iv 1, .unset, .unset, .unset, .unset, .unset, .unset, .unset, .unset] [(.int 1)])) (fun _ k => XS.goto X0.here hx rfl (pc0 := 19) (pc' := 23) rfl (hb hby at_19) (by decide) (by decide) k) ?_
      refine Go.st (f' := (mkF m 24 #[iv p1, iv p2, iv 1, iv 1, .unset, .unset, .unset, .unset, .unset, .unset, .unset] [])) (fun _ k => XS.istoreN X0.here hx rfl (hb hby at_23) rfl (l' := #[iv p1, iv p2, iv 1, iv 1, .unset, .unset, .unset, .unset, .unset, .unset, .unset]) rfl k) ?_
      refine Go.st (f' := (mkF m 25 #[iv p1, iv p2, iv 1, iv 1, .unset, .unset, .unset, .unset, .unset, .unset, .unset] [(.int 1)])) (fun _ k => XS.iloadN X0.here hx rfl (hb hby at_24) rfl k) ?_
      refine Go.st (f' := (mkF m 26 #[iv p1, iv p2, iv 1, iv 1, .unset, .unset, .unset, .unset, .unset, .unset, .unset] [(.int 1), (.int 1)])) (fun _ k => XS.iloadN X0.here hx rfl (hb hby at_25) rfl k) ?_
      obtain ⟨_, _, ⟨T16, L16, k16, n16⟩, -, X16, ⟨Lc16, hQ16, l16, y16, z16⟩, st16⟩ := Jvm.LawKit.callS X0 hx (y := (⟨"com/example/rulebridge/rulebridge/core/MarkedValue$Scheme", "of", "(ZZ)Lcom/example/rulebridge/rulebridge/core/MarkedValue$Scheme;"⟩ : MethodName)) hown (mvT hZ (hw _ (List.mem_of_getElem? (i := 0) rfl))) (mvT hZ (hw _ (List.mem_of_getElem? (i := 1) rfl))) (mvT hZ (hw _ (List.mem_of_getElem? (i := 2) rfl))) (mvT hZ (hw _ (List.mem_of_getElem? (i := 3) rfl))) (by decide) (own_back (W := 0) (rm1 l Z a0 hw [] (1 : Int32) (1 : Int32) w_EVERY_NEWLINE w_NEWLINES_APART w_LAST_NEWLINE h0 n0 O0 WW) hZ (hw _ (List.mem_of_getElem? (i := 3) rfl)) (hw _ (List.mem_of_getElem? (i := 2) rfl)) (by decide) (by decide)) (g := (mkF m 26 #[iv p1, iv p2, iv 1, iv 1, .unset, .unset, .unset, .unset, .unset, .unset, .unset] [(.int 1), (.int 1)])) rfl (by rw [hml]; rfl) (argsL := [(.int (1 : Int32)), (.int (1 : Int32))]) (rest := []) (lenOf pd__ZZ_Lcom_example_rulebridge_rulebridge_core_MarkedValue_Scheme_ rfl) rfl (by show 2 * 0 + _ ≤ _; exact Nat.le_of_eq rfl) (hb hby at_26) (fun _ _ => ⟨rfl, e0, (by decide : 0 + 0 ≤ _), (by decide : 0 + 0 ≤ _)⟩)
      dsimp only [Pt.U, Pt.locs, Pt.cells, Pt.slots] at X16 l16 y16 z16 st16 hQ16
      subst l16 y16 z16
      obtain ⟨rfl, Nq16, eh16⟩ := hQ16
      have N16 := Fr.app N0 Nq16
      have eh16' := eh16
      refine Go.st (f' := (mkF m 29 #[iv p1, iv p2, iv 1, iv 1, .unset, .unset, .unset, .unset, .unset, .unset, .unset] [(.ref w_NEWLINES_APART)])) (fun _ k => st16 _ k) ?_
      refine Go.st (f' := (mkF m 31 #[iv p1, iv p2, iv 1, iv 1, rv w_NEWLINES_APART, .unset, .unset, .unset, .unset, .unset, .unset] [])) (fun _ k => XS.astore X16.here hx rfl (hb hby at_29) rfl rfl (l' := #[iv p1, iv p2, iv 1, iv 1, rv w_NEWLINES_APART, .unset, .unset, .unset, .unset, .unset, .unset]) rfl k) ?_
      refine Go.st (f' := (mkF m 33 #[iv p1, iv p2, iv 1, iv 1, rv w_NEWLINES_APART, .unset, .unset, .unset, .unset, .unset, .unset] [(.ref w_NEWLINES_APART)])) (fun _ k => XS.aload X16.here hx rfl (hb hby at_31) rfl rfl k) ?_
      obtain ⟨T17, X17, e17, st17⟩ := getS2 X16 hx hZ hown (host := "") (Or.inl (hw _ (List.mem_of_getElem? (i := 6) rfl))) Via.refl eh16 (S_w_NEWLINES_APART.ext O0.2) (g := (mkF m 33 #[iv p1, iv p2, iv 1, iv 1, rv w_NEWLINES_APART, .unset, .unset, .unset, .unset, .unset, .unset] [(.ref w_NEWLINES_APART)])) rfl (hb hby at_33)
      refine Go.st (f' := (mkF m 36 #[iv p1, iv p2, iv 1, iv 1, rv w_NEWLINES_APART, .unset, .unset, .unset, .unset, .unset, .unset] [(.ref w_NEWLINES_APART), (.ref w_NEWLINES_APART)])) (fun _ k => st17 _ k) ?_
      refine Go.st (f' := (mkF m 39 #[iv p1, iv p2, iv 1, iv 1, rv w_NEWLINES_APART, .unset, .unset, .unset, .unset, .unset, .unset] [])) (fun _ k => Jvm.RoadKit.acmp (g := (mkF m 36 #[iv p1, iv p2, iv 1, iv 1, rv w_NEWLINES_APART, .unset, .unset, .unset, .unset, .unset, .unset] [(.ref w_NEWLINES_APART), (.ref w_NEWLINES_APART)])) X17 hx rfl rfl rfl (pc0 := 36) (pc' := 39) (same := true) rfl (hb hby at_36) rfl (decide_eq_true rfl) (by decide) (by decide) k) ?_
      refine Go.st (f' := (mkF m 40 #[iv p1, iv p2, iv 1, iv 1, rv w_NEWLINES_APART, .unset, .unset, .unset, .unset, .unset, .unset] [(.int 1)])) (fun _ k => XS.iconst X17.here hx rfl (hb hby at_39) k) ?_
      refine Go.st (f' := (mkF m 44 #[iv p1, iv p2, iv 1, iv 1, rv w_NEWLINES_APART, .unset, .unset, .unset, .unset, .unset, .unset] [(.int 1)])) (fun _ k => XS.goto X17.here hx rfl (pc0 := 40) (pc' := 44) rfl (hb hby at_40) (by decide) (by decide) k) ?_
      refine Go.st (f' := (mkF m 46 #[iv p1, iv p2, iv 1, iv 1, rv w_NEWLINES_APART, iv 1, .unset, .unset, .unset, .unset, .unset] [])) (fun _ k => XS.istore X17.here hx rfl (hb hby at_44) rfl (l' := #[iv p1, iv p2, iv 1, iv 1, rv w_NEWLINES_APART, iv 1, .unset, .unset, .unset, .unset, .unset]) rfl k) ?_
      refine Go.st (f' := (mkF m 48 #[iv p1, iv p2, iv 1, iv 1, rv w_NEWLINES_APART, iv 1, .unset, .unset, .unset, .unset, .unset] [(.ref w_NEWLINES_APART)])) (fun _ k => XS.aload X17.here hx rfl (hb hby at_46) rfl rfl k) ?_
      obtain ⟨T18, X18, e18, st18⟩ := getS2 X17 hx hZ hown (host := "") (Or.inl (hw _ (List.mem_of_getElem? (i := 8) rfl))) Via.refl e17 (S_w_EVERY_NEWLINE.ext O0.2) (g := (mkF m 48 #[iv p1, iv p2, iv 1, iv 1, rv w_NEWLINES_APART, iv 1, .unset, .unset, .unset, .unset, .unset] [(.ref w_NEWLINES_APART)])) rfl (hb hby at_48)
      refine Go.st (f' := (mkF m 51 #[iv p1, iv p2, iv 1, iv 1, rv w_NEWLINES_APART, iv 1, .unset, .unset, .unset, .unset, .unset] [(.ref w_EVERY_NEWLINE), (.ref w_NEWLINES_APART)])) (fun _ k => st18 _ k) ?_
      refine Go.st (f' := (mkF m 58 #[iv p1, iv p2, iv 1, iv 1, rv w_NEWLINES_APART, iv 1, .unset, .unset, .unset, .unset, .unset] [])) (fun _ k => Jvm.RoadKit.acmp (g := (mkF m 51 #[iv p1, iv p2, iv 1, iv 1, rv w_NEWLINES_APART, iv 1, .unset, .unset, .unset, .unset, .unset] [(.ref w_EVERY_NEWLINE), (.ref w_NEWLINES_APART)])) X18 hx rfl rfl rfl (pc0 := 51) (pc' := 58) (same := false) rfl (hb hby at_51) rfl (decide_eq_false fun q => (Ne.symm (Fld.ne F_w_EVERY_NEWLINE_ordinal F_w_NEWLINES_APART_ordinal (by decide))) (Value.ref.inj q)) (by decide) (by decide) k) ?_
      refine Go.st (f' := (mkF m 59 #[iv p1, iv p2, iv 1, iv 1, rv w_NEWLINES_APART, iv 1, .unset, .unset, .unset, .unset, .unset] [(.int 0)])) (fun _ k => XS.iconst X18.here hx rfl (hb hby at_58) k) ?_
      refine Go.st (f' := (mkF m 61 #[iv p1, iv p2, iv 1, iv 1, rv w_NEWLINES_APART, iv 1, iv 0, .unset, .unset, .unset, .unset] [])) (fun _ k => XS.istore X18.here hx rfl (hb hby at_59) rfl (l' := #[iv p1, iv p2, iv 1, iv 1, rv w_NEWLINES_APART, iv 1, iv 0, .unset, .unset, .unset, .unset]) rfl k) ?_
      refine Go.st (f' := (mkF m 63 #[iv p1, iv p2, iv 1, iv 1, rv w_NEWLINES_APART, iv 1, iv 0, .unset, .unset, .unset, .unset] [(.ref w_NEWLINES_APART)])) (fun _ k => XS.aload X18.here hx rfl (hb hby at_61) rfl rfl k) ?_
      obtain ⟨T19, X19, e19, st19⟩ := getS2 X18 hx hZ hown (host := "") (Or.inl (hw _ (List.mem_of_getElem? (i := 9) rfl))) Via.refl e18 (S_w_LAST_NEWLINE.ext O0.2) (g := (mkF m 63 #[iv p1, iv p2, iv 1, iv 1, rv w_NEWLINES_APART, iv 1, iv 0, .unset, .unset, .unset, .unset] [(.ref w_NEWLINES_APART)])) rfl (hb hby at_63)
      refine Go.st (f' := (mkF m 66 #[iv p1, iv p2, iv 1, iv 1, rv w_NEWLINES_APART, iv 1, iv 0, .unset, .unset, .unset, .unset] [(.ref w_LAST_NEWLINE), (.ref w_NEWLINES_APART)])) (fun _ k => st19 _ k) ?_
      refine Go.st (f' := (mkF m 73 #[iv p1, iv p2, iv 1, iv 1, rv w_NEWLINES_APART, iv 1, iv 0, .unset, .unset, .unset, .unset] [])) (fun _ k => Jvm.RoadKit.acmp (g := (mkF m 66 #[iv p1, iv p2, iv 1, iv 1, rv w_NEWLINES_APART, iv 1, iv 0, .unset, .unset, .unset, .unset] [(.ref w_LAST_NEWLINE), (.ref w_NEWLINES_APART)])) X19 hx rfl rfl rfl (pc0 := 66) (pc' := 73) (same := false) rfl (hb hby at_66) rfl (decide_eq_false fun q => (Fld.ne F_w_NEWLINES_APART_ordinal F_w_LAST_NEWLINE_ordinal (by decide)) (Value.ref.inj q)) (by decide) (by decide) k) ?_
      refine Go.st (f' := (mkF m 74 #[iv p1, iv p2, iv 1, iv 1, rv w_NEWLINES_APART, iv 1, iv 0, .unset, .unset, .unset, .unset] [(.int 0)])) (fun _ k => XS.iconst X19.here hx rfl (hb hby at_73) k) ?_
      refine Go.st (f' := (mkF m 76 #[iv p1, iv p2, iv 1, iv 1, rv w_NEWLINES_APART, iv 1, iv 0, iv 0, .unset, .unset, .unset] [])) (fun _ k => XS.istore X19.here hx rfl (hb hby at_74) rfl (l' := #[iv p1, iv p2, iv 1, iv 1, rv w_NEWLINES_APART, iv 1, iv 0, iv 0, .unset, .unset, .unset]) rfl k) ?_
      refine Go.st (f' := (mkF m 77 #[iv p1, iv p2, iv 1, iv 1, rv w_NEWLINES_APART, iv 1, iv 0, iv 0, .unset, .unset, .unset] [(.int 1)])) (fun _ k => XS.iloadN X19.here hx rfl (hb hby at_76) rfl k) ?_
      refine Go.st (f' := (mkF m 80 #[iv p1, iv p2, iv 1, iv 1, rv w_NEWLINES_APART, iv 1, iv 0, iv 0, .unset, .unset, .unset] [])) (fun _ k => XS.ifNo X19.here hx rfl (hb hby at_77) rfl (by decide) k) ?_
      refine Go.st (f' := (mkF m 81 #[iv p1, iv p2, iv 1, iv 1, rv w_NEWLINES_APART, iv 1, iv 0, iv 0, .unset, .unset, .unset] [(.int 1)])) (fun _ k => XS.iloadN X19.here hx rfl (hb hby at_80) rfl k) ?_
      refine Go.st (f' := (mkF m 84 #[iv p1, iv p2, iv 1, iv 1, rv w_NEWLINES_APART, iv 1, iv 0, iv 0, .unset, .unset, .unset] [])) (fun _ k => XS.ifNo X19.here hx rfl (hb hby at_81) rfl (by decide) k) ?_
      refine Go.st (f' := (mkF m 85 #[iv p1, iv p2, iv 1, iv 1, rv w_NEWLINES_APART, iv 1, iv 0, iv 0, .unset, .unset, .unset] [(.int 1)])) (fun _ k => XS.iconst X19.here hx rfl (hb hby at_84) k) ?_
      refine Go.st (f' := (mkF m 89 #[iv p1, iv p2, iv 1, iv 1, rv w_NEWLINES_APART, iv 1, iv 0, iv 0, .unset, .unset, .unset] [(.int 1)])) (fun _ k => XS.goto X19.here hx rfl (pc0 := 85) (pc' := 89) rfl (hb hby at_85) (by decide) (by decide) k) ?_
      refine Go.st (f' := (mkF m 91 #[iv p1, iv p2, iv 1, iv 1, rv w_NEWLINES_APART, iv 1, iv 0, iv 0, iv 1, .unset, .unset] [])) (fun _ k => XS.istore X19.here hx rfl (hb hby at_89) rfl (l' := #[iv p1, iv p2, iv 1, iv 1, rv w_NEWLINES_APART, iv 1, iv 0, iv 0, iv 1, .unset, .unset]) rfl k) ?_
      refine Go.st (f' := (mkF m 92 #[iv p1, iv p2, iv 1, iv 1, rv w_NEWLINES_APART, iv 1, iv 0, iv 0, iv 1, .unset, .unset] [(.int 1)])) (fun _ k => XS.iloadN X19.here hx rfl (hb hby at_91) rfl k) ?_
      refine Go.st (f' := (mkF m 95 #[iv p1, iv p2, iv 1, iv 1, rv w_NEWLINES_APART, iv 1, iv 0, iv 0, iv 1, .unset, .unset] [])) (fun _ k => XS.ifNo X19.here hx rfl (hb hby at_92) rfl (by decide) k) ?_
      refine Go.st (f' := (mkF m 96 #[iv p1, iv p2, iv 1, iv 1, rv w_NEWLINES_APART, iv 1, iv 0, iv 0, iv 1, .unset, .unset] [(.int 1)])) (fun _ k => XS.iloadN X19.here hx rfl (hb hby at_95) rfl k) ?_
      refine Go.st (f' := (mkF m 103 #[iv p1, iv p2, iv 1, iv 1, rv w_NEWLINES_APART, iv 1, iv 0, iv 0, iv 1, .unset, .unset] [])) (fun _ k => XS.ifYes X19.here hx rfl (pc0 := 96) (pc' := 103) rfl (hb hby at_96) rfl (by decide) (by decide) (by decide) k) ?_
      refine Go.st (f' := (mkF m 104 #[iv p1, iv p2, iv 1, iv 1, rv w_NEWLINES_APART, iv 1, iv 0, iv 0, iv 1, .unset, .unset] [(.int 0)])) (fun _ k => XS.iconst X19.here hx rfl (hb hby at_103) k) ?_
      refine Go.st (f' := (mkF m 106 #[iv p1, iv p2, iv 1, iv 1, rv w_NEWLINES_APART, iv 1, iv 0, iv 0, iv 1, iv 0, .unset] [])) (fun _ k => XS.istore X19.here hx rfl (hb hby at_104) rfl (l' := #[iv p1, iv p2, iv 1, iv 1, rv w_NEWLINES_APART, iv 1, iv 0, iv 0, iv 1, iv 0, .unset]) rfl k) ?_
      refine Go.st (f' := (mkF m 107 #[iv p1, iv p2, iv 1, iv 1, rv w_NEWLINES_APART, iv 1, iv 0, iv 0, iv 1, iv 0, .unset] [(.int 1)])) (fun _ k => XS.iloadN X19.here hx rfl (hb hby at_106) rfl k) ?_
      refine Go.st (f' := (mkF m 114 #[iv p1, iv p2, iv 1, iv 1, rv w_NEWLINES_APART, iv 1, iv 0, iv 0, iv 1, iv 0, .unset] [])) (fun _ k => XS.ifYes X19.here hx rfl (pc0 := 107) (pc' := 114) rfl (hb hby at_107) rfl (by decide) (by decide) (by decide) k) ?_
      refine Go.st (f' := (mkF m 115 #[iv p1, iv p2, iv 1, iv 1, rv w_NEWLINES_APART, iv 1, iv 0, iv 0, iv 1, iv 0, .unset] [(.int 0)])) (fun _ k => XS.iconst X19.here hx rfl (hb hby at_114) k) ?_
      refine Go.st (f' := (mkF m 117 #[iv p1, iv p2, iv 1, iv 1, rv w_NEWLINES_APART, iv 1, iv 0, iv 0, iv 1, iv 0, iv 0] [])) (fun _ k => XS.istore X19.here hx rfl (hb hby at_115) rfl (l' := #[iv p1, iv p2, iv 1, iv 1, rv w_NEWLINES_APART, iv 1, iv 0, iv 0, iv 1, iv 0, iv 0]) rfl k) ?_
      refine Go.st (f' := (mkF m 119 #[iv p1, iv p2, iv 1, iv 1, rv w_NEWLINES_APART, iv 1, iv 0, iv 0, iv 1, iv 0, iv 0] [(.ref w_NEWLINES_APART)])) (fun _ k => XS.aload X19.here hx rfl (hb hby at_117) rfl rfl k) ?_
      refine Go.st (f' := (mkF m 122 #[iv p1, iv p2, iv 1, iv 1, rv w_NEWLINES_APART, iv 1, iv 0, iv 0, iv 1, iv 0, iv 0] [])) (fun _ k => XS.ifnullNo X19.here hx rfl (hb hby at_119) rfl k) ?_
      refine Go.st (f' := (mkF m 124 #[iv p1, iv p2, iv 1, iv 1, rv w_NEWLINES_APART, iv 1, iv 0, iv 0, iv 1, iv 0, iv 0] [(.int 1)])) (fun _ k => XS.iload X19.here hx rfl (hb hby at_122) rfl k) ?_
      refine Go.st (f' := (mkF m 126 #[iv p1, iv p2, iv 1, iv 1, rv w_NEWLINES_APART, iv 1, iv 0, iv 0, iv 1, iv 0, iv 0] [(.int 1), (.int 1)])) (fun _ k => XS.iload X19.here hx rfl (hb hby at_124) rfl k) ?_
      refine Go.st (f' := (mkF m 129 #[iv p1, iv p2, iv 1, iv 1, rv w_NEWLINES_APART, iv 1, iv 0, iv 0, iv 1, iv 0, iv 0] [])) (fun _ k => XS.icmpNo X19.here hx rfl (hb hby at_126) rfl (by decide) k) ?_
      refine Go.st (f' := (mkF m 131 #[iv p1, iv p2, iv 1, iv 1, rv w_NEWLINES_APART, iv 1, iv 0, iv 0, iv 1, iv 0, iv 0] [(.int 0)])) (fun _ k => XS.iload X19.here hx rfl (hb hby at_129) rfl k) ?_
      refine Go.st (f' := (mkF m 133 #[iv p1, iv p2, iv 1, iv 1, rv w_NEWLINES_APART, iv 1, iv 0, iv 0, iv 1, iv 0, iv 0] [(.int 0), (.int 0)])) (fun _ k => XS.iload X19.here hx rfl (hb hby at_131) rfl k) ?_
      refine Go.st (f' := (mkF m 136 #[iv p1, iv p2, iv 1, iv 1, rv w_NEWLINES_APART, iv 1, iv 0, iv 0, iv 1, iv 0, iv 0] [])) (fun _ k => XS.icmpNo X19.here hx rfl (hb hby at_133) rfl (by decide) k) ?_
      refine Go.st (f' := (mkF m 138 #[iv p1, iv p2, iv 1, iv 1, rv w_NEWLINES_APART, iv 1, iv 0, iv 0, iv 1, iv 0, iv 0] [(.int 0)])) (fun _ k => XS.iload X19.here hx rfl (hb hby at_136) rfl k) ?_
      refine Go.st (f' := (mkF m 140 #[iv p1, iv p2, iv 1, iv 1, rv w_NEWLINES_APART, iv 1, iv 0, iv 0, iv 1, iv 0, iv 0] [(.int 0), (.int 0)])) (fun _ k => XS.iload X19.here hx rfl (hb hby at_138) rfl k) ?_
      refine Go.st (f' := (mkF m 143 #[iv p1, iv p2, iv 1, iv 1, rv w_NEWLINES_APART, iv 1, iv 0, iv 0, iv 1, iv 0, iv 0] [])) (fun _ k => XS.icmpNo X19.here hx rfl (hb hby at_140) rfl (by decide) k) ?_
      refine Go.st (f' := (mkF m 144 #[iv p1, iv p2, iv 1, iv 1, rv w_NEWLINES_APART, iv 1, iv 0, iv 0, iv 1, iv 0, iv 0] [(.int 1)])) (fun _ k => XS.iconst X19.here hx rfl (hb hby at_143) k) ?_
      refine Go.st (f' := (mkF m 148 #[iv p1, iv p2, iv 1, iv 1, rv w_NEWLINES_APART, iv 1, iv 0, iv 0, iv 1, iv 0, iv 0] [(.int 1)])) (fun _ k => XS.goto X19.here hx rfl (pc0 := 144) (pc' := 148) rfl (hb hby at_144) (by decide) (by decide) k) ?_
      refine Go.retB X19 hlk hx (t := .boolean) hret (by simp) (hb hby at_148) e19 ?_ (by decide) (by decide)
      exact ⟨rfl, N16⟩
set_option maxRecDepth 65536 in
set_option maxHeartbeats 40000000 in
theorem comes_1 {Post : Tables → Env → Array Value → State → Outcome → State → Prop} (hpost : ∀ tb e args s v u, (limb_1_1.after args s (.returned v) u = true ∧ limb_1_2.after args s (.returned v) u = true ∧ True) → FrameEnd s (.returned v) u (Jvm.fieldLocs frame_1_writes args s ++ Jvm.arrayLocs frame_1_arrays args s ++ Jvm.staticLocs frame_1_statics s) 0 0 → Post tb e args s (.returned v) u) :
    ArmFor flags0 classFile x code maxLocals ret World_1 tables_1 room_1 Calls_1 rest_1 Pre_1 Post := by
  intro l hfl _ _ p e ha hc hk s m args below hf hA hF happ hP
  obtain ⟨hcalls, hrest, hpre⟩ := hP
  obtain ⟨-, -, -, hnamed, -, -, -, hat⟩ := (Spec.applies_iff hf).mp happ
  obtain ⟨hg, hn⟩ := and_e (Cond.before_iff.mp (show (Jvm.Cond.and given_1 narrow_1).before args s = true from hpre))
  obtain ⟨g1, g2⟩ := and_e hg
  obtain ⟨g3, g4⟩ := and_e g2
  obtain ⟨v0, v1, rfl⟩ : ∃ v0 v1 : Value, args = #[v0, v1] := by
    have hs : args.size = 2 := by simpa [Cond.value, given_1] using g1
    obtain ⟨L⟩ := args
    match L, hs with
    | [v0, v1], _ => exact ⟨v0, v1, rfl⟩
  have hw := fun d (hd : d ∈ tables_1) => atoms_spec (ws := Jvm.Cond.code x code maxLocals ret :: tables_1) hat d (List.mem_cons_of_mem _ hd)
  have hfit : Fit s := fun {y c} hc i hi => by
    obtain ⟨ha, rfl⟩ := Array.getElem?_eq_some_iff.mp hc
    have q := List.all_eq_true.mp ((Array.all_eq_true_iff_forall_mem.mp hF) _ (Array.getElem_mem ha)) i (List.mem_range.mpr hi)
    simpa [Array.getElem?_eq_getElem hi] using q
  obtain ⟨i0, ei0⟩ := is_v g3
  obtain rfl : v0 = (.int i0) := Option.some.inj ei0
  obtain ⟨i1, ei1⟩ := is_v g4
  obtain rfl : v1 = (.int i1) := Option.some.inj ei1
  obtain ⟨q1, q2⟩ := and_e hn
  obtain ⟨q3, q4⟩ := and_e q2
  obtain ⟨q5, q6⟩ := and_e q4
  obtain ⟨q7, q8⟩ := and_e q6
  obtain ⟨q9, q10⟩ := and_e q8
  obtain ⟨w_EVERY_NEWLINE, ev_w_EVERY_NEWLINE⟩ := exa_v q1
  obtain ⟨w_NEWLINES_APART, ev_w_NEWLINES_APART⟩ := exa_v q3
  obtain ⟨w_LAST_NEWLINE, ev_w_LAST_NEWLINE⟩ := exa_v q9
  have S_w_EVERY_NEWLINE := Sta.start ev_w_EVERY_NEWLINE (Or.inr ⟨hw _ (List.mem_of_getElem? (i := 2) rfl), hw _ (List.mem_of_getElem? (i := 5) rfl)⟩)
  have E_w_EVERY_NEWLINE := Exa.start ev_w_EVERY_NEWLINE q1
  have S_w_NEWLINES_APART := Sta.start ev_w_NEWLINES_APART (Or.inr ⟨hw _ (List.mem_of_getElem? (i := 2) rfl), hw _ (List.mem_of_getElem? (i := 7) rfl)⟩)
  have E_w_NEWLINES_APART := Exa.start ev_w_NEWLINES_APART q3
  have S_w_LAST_NEWLINE := Sta.start ev_w_LAST_NEWLINE (Or.inr ⟨hw _ (List.mem_of_getElem? (i := 2) rfl), hw _ (List.mem_of_getElem? (i := 10) rfl)⟩)
  have E_w_LAST_NEWLINE := Exa.start ev_w_LAST_NEWLINE q9
  have F_w_EVERY_NEWLINE_ordinal := own_fld q5 ev_w_EVERY_NEWLINE
  have F_w_NEWLINES_APART_ordinal := own_fld q7 ev_w_NEWLINES_APART
  have F_w_LAST_NEWLINE_ordinal := own_fld q10 ev_w_LAST_NEWLINE
  have WW : World1 s w_EVERY_NEWLINE w_NEWLINES_APART w_LAST_NEWLINE    := ⟨S_w_EVERY_NEWLINE, E_w_EVERY_NEWLINE, S_w_NEWLINES_APART, E_w_NEWLINES_APART, S_w_LAST_NEWLINE, E_w_LAST_NEWLINE, F_w_EVERY_NEWLINE_ordinal, F_w_NEWLINES_APART_ordinal, F_w_LAST_NEWLINE_ordinal⟩
  obtain ⟨n, o, h1, h2, h3, _, L, rfl, ⟨rfl, N⟩, hq⟩ := rm0 l s _ hw tables_1 i0 i1 w_EVERY_NEWLINE w_NEWLINES_APART w_LAST_NEWLINE    s.heap s.heap.size (Old.start s) WW  p e ha hc hk s m _ below hf ((Spec.applies_iff_loose hf).mp happ).1 ⟨rfl, State.Warmed39.refl s, rfl⟩ trivial
  refine ⟨n, _, h1, h2, h3, hpost _ _ _ _ _ _ ⟨Cond.after_iff.mpr rfl, Cond.after_iff.mpr (eq_i res_at (Term.int_eval (1)) rfl), trivial⟩ ⟨hq.1, hq.2.1, (hq.2.2.sift fun y hy => Or.inr (N y hy)).mono (by decide) (by decide)⟩⟩
theorem main_1_1 : Claimed_1_1 := comes_1 fun _ _ _ _ _ _ h hF => ⟨h.1, hF⟩
theorem main_1_2 : Claimed_1_2 := comes_1 fun _ _ _ _ _ _ h hF => ⟨h.2.1, hF⟩
end Jvm.Pilot.@@N@@
namespace Jvm.Pilot.@@N@@
open Jvm Jvm.ClassFile Sem Op Lib Jvm.Free Jvm.Stand Jvm.Pilot.@@N@@.Jvm.D
/-! MADE BY PROGRAM (witnessworld.py) out of the Statement's table words and the real class files: 12 classes; the members and pool entries that the words name. The judged class is class 1, her method 1. -/
namespace start1
open Jvm.ClassFile
def u (s : String) : CpInfo := .utf8 (stringToUtf16 s)
/-- a pool by its gaps: so many unusable entries, then the entry; so many at the end -/
def gap : Nat → List CpInfo → List CpInfo
  | 0, r => r
  | n + 1, r => .unusable :: gap n r
def poolList (es : List (Nat × CpInfo)) (last : Nat) : List CpInfo := es.foldr (fun e r => gap e.1 (e.2 :: r)) (gap last [])
def pool (es : List (Nat × CpInfo)) (last : Nat) : Array CpInfo := ⟨poolList es last⟩
def fileOf (pool : Array CpInfo) (this : Nat) (attrs : Array Attribute := #[]) (ms : Array MethodInfo := #[]) (fl : Nat := 33) (sup : Nat := 0) (ifs : Array Nat := #[]) (fds : Array FieldInfo := #[]) : ClassFile where
  minorVersion := 0
  majorVersion := 65
  constantPool := pool
  accessFlags := fl
  thisClass := this
  superClass := sup
  interfaces := ifs
  fields := fds
  methods := ms
  attributes := attrs
def plain (name : String) (sup : Option ClassId) : Class where
  name := name
  kind := .ordinary
  loader := none
  accessFlags := 33
  super := sup
  interfaces := #[]
  cf := none
  fields := #[]
  methods := #[]
  instanceTypes := #[]
  staticTypes := #[]
  resolved := #[]
  callSites := []
  init := .initialized
  statics := none
  mirror := none

def pool0 : Array CpInfo := pool [(5, u "<init>"), (0, u "()V"), (1, .class_ 10), (1, u "java/lang/Object")] 113

def k0m0 : Method := { name := "<init>", desc := "()V", sig := { parameters := [], returnType := none }, accessFlags := 1, code := none }
/-- java/lang/Object -/
def k0 : Class := { plain "java/lang/Object" none with
  accessFlags := 33
  interfaces := #[]
  cf := some (fileOf pool0 8 #[] #[{ accessFlags := 1, nameIndex := 5, descriptorIndex := 6, attributes := #[] }] 33 0 #[] #[])
  fields := #[]
  methods := #[k0m0]
  instanceTypes := #[]
  staticTypes := #[]
  resolved := Array.replicate 124 none
  statics := none }

def pool1 : Array CpInfo := pool [(2, .class_ 4), (1, u "java/lang/Object"), (0, u "<init>"), (0, u "()V"), (0, .methodref 8 9), (0, .class_ 10), (0, .nameAndType 11 12), (0, u "com/example/rulebridge/rulebridge/core/MarkedValue$Scheme"), (0, u "of"), (0, u "(ZZ)Lcom/example/rulebridge/rulebridge/core/MarkedValue$Scheme;"), (0, .fieldref 8 14), (0, .nameAndType 15 16), (0, u "NEWLINES_APART"), (0, u "Lcom/example/rulebridge/rulebridge/core/MarkedValue$Scheme;"), (0, .fieldref 8 18), (0, .nameAndType 19 16), (0, u "EVERY_NEWLINE"), (0, .fieldref 8 21), (0, .nameAndType 22 16), (0, u "LAST_NEWLINE"), (0, .class_ 24), (0, u "com/example/rulebridge/rulebridge/core/SchemeOfPinLaw"), (2, u "law"), (0, u "(II)Z")] 7

def k1m0 : Method := { name := "<init>", desc := "()V", sig := { parameters := [], returnType := none }, accessFlags := 2, code := none }
def k1c1 : Code := { maxStack := 2, maxLocals := 11, code := code, exceptionTable := #[], attributes := #[] }
def k1m1 : Method := { name := "law", desc := "(II)Z", sig := { parameters := [.int, .int], returnType := some .boolean }, accessFlags := 9, code := some k1c1 }
/-- com/example/rulebridge/rulebridge/core/SchemeOfPinLaw -/
def k1 : Class := { plain "com/example/rulebridge/rulebridge/core/SchemeOfPinLaw" (some 0) with
  accessFlags := 49
  interfaces := #[]
  cf := some (fileOf pool1 23 #[] #[{ accessFlags := 2, nameIndex := 5, descriptorIndex := 6, attributes := #[] }, { accessFlags := 9, nameIndex := 27, descriptorIndex := 28, attributes := #[] }] 49 2 #[] #[])
  fields := #[]
  methods := #[k1m0, k1m1]
  instanceTypes := #[]
  staticTypes := #[]
  resolved := Array.replicate 36 none
  statics := none }

def pool2 : Array CpInfo := pool [(1, .class_ 2), (0, u "java/lang/constant/Constable"), (0, .class_ 4), (0, u "java/lang/Object")] 6

/-- java/lang/constant/Constable -/
def k2 : Class := { plain "java/lang/constant/Constable" (some 0) with
  accessFlags := 1537
  interfaces := #[]
  cf := some (fileOf pool2 1 #[] #[] 1537 3 #[] #[])
  fields := #[]
  methods := #[]
  instanceTypes := #[]
  staticTypes := #[]
  resolved := Array.replicate 11 none
  statics := none }

def pool3 : Array CpInfo := pool [(1, .class_ 2), (0, u "java/lang/Comparable"), (0, .class_ 4), (0, u "java/lang/Object")] 7

/-- java/lang/Comparable -/
def k3 : Class := { plain "java/lang/Comparable" (some 0) with
  accessFlags := 1537
  interfaces := #[]
  cf := some (fileOf pool3 1 #[] #[] 1537 3 #[] #[])
  fields := #[]
  methods := #[]
  instanceTypes := #[]
  staticTypes := #[]
  resolved := Array.replicate 12 none
  statics := none }

def pool4 : Array CpInfo := pool [(1, .class_ 2), (0, u "java/io/Serializable"), (0, .class_ 4), (0, u "java/lang/Object")] 2

/-- java/io/Serializable -/
def k4 : Class := { plain "java/io/Serializable" (some 0) with
  accessFlags := 1537
  interfaces := #[]
  cf := some (fileOf pool4 1 #[] #[] 1537 3 #[] #[])
  fields := #[]
  methods := #[]
  instanceTypes := #[]
  staticTypes := #[]
  resolved := Array.replicate 7 none
  statics := none }

def pool5 : Array CpInfo := pool [(2, .class_ 4), (1, u "java/lang/Enum"), (0, u "name"), (0, u "Ljava/lang/String;"), (2, u "ordinal"), (0, u "I"), (1, .class_ 14), (1, u "java/lang/Object"), (4, u "hash"), (86, .class_ 108), (1, u "java/lang/Enum$EnumDesc"), (2, .class_ 112), (0, u "java/lang/constant/Constable"), (0, .class_ 114), (0, u "java/lang/Comparable"), (0, .class_ 116), (0, u "java/io/Serializable")] 87

/-- java/lang/Enum -/
def k5 : Class := { plain "java/lang/Enum" (some 0) with
  accessFlags := 1057
  interfaces := #[2, 3, 4]
  cf := some (fileOf pool5 2 #[.nestMembers #[106]] #[] 1057 12 #[111, 113, 115] #[{ accessFlags := 18, nameIndex := 5, descriptorIndex := 6, attributes := #[] }, { accessFlags := 18, nameIndex := 9, descriptorIndex := 10, attributes := #[] }, { accessFlags := 2, nameIndex := 19, descriptorIndex := 10, attributes := #[] }])
  fields := #[{ name := "name", type := (.object "java/lang/String"), accessFlags := 18, slot := 0, constantValue := 0 }, { name := "ordinal", type := .int, accessFlags := 18, slot := 1, constantValue := 0 }, { name := "hash", type := .int, accessFlags := 2, slot := 2, constantValue := 0 }]
  methods := #[]
  instanceTypes := #[(.object "java/lang/String"), .int, .int]
  staticTypes := #[]
  resolved := Array.replicate 204 none
  statics := none }

def pool6 : Array CpInfo := pool [(1, .class_ 2), (0, u "com/example/rulebridge/rulebridge/core/MarkedValue"), (0, .class_ 4), (0, u "com/example/rulebridge/rulebridge/core/MarkedValue$Scheme"), (0, .fieldref 3 6), (0, .nameAndType 7 8), (0, u "EVERY_NEWLINE"), (0, u "Lcom/example/rulebridge/rulebridge/core/MarkedValue$Scheme;"), (0, .fieldref 3 10), (0, .nameAndType 11 8), (0, u "LAST_NEWLINE"), (0, .fieldref 3 13), (0, .nameAndType 14 8), (0, u "NEWLINES_APART"), (2, u "$VALUES"), (0, u "[Lcom/example/rulebridge/rulebridge/core/MarkedValue$Scheme;"), (6, .class_ 27), (1, u "java/lang/Enum"), (16, u "reads"), (0, u "[Ljava/lang/String;"), (2, u "before"), (0, u "Ljava/lang/String;"), (2, u "beforeLastNewline"), (0, u "C"), (2, u "after"), (2, u "multiLineEnd"), (140, u "of"), (32, u "(ZZ)Lcom/example/rulebridge/rulebridge/core/MarkedValue$Scheme;")] 36

def k6c0 : Code := { maxStack := 1, maxLocals := 3, code := prog_9_method_4_code, exceptionTable := #[], attributes := #[] }
def k6m0 : Method := { name := "of", desc := "(ZZ)Lcom/example/rulebridge/rulebridge/core/MarkedValue$Scheme;", sig := { parameters := [.boolean, .boolean], returnType := some (.object "com/example/rulebridge/rulebridge/core/MarkedValue$Scheme") }, accessFlags := 8, code := some k6c0 }
/-- com/example/rulebridge/rulebridge/core/MarkedValue$Scheme -/
def k6 : Class := { plain "com/example/rulebridge/rulebridge/core/MarkedValue$Scheme" (some 5) with
  accessFlags := 16432
  interfaces := #[]
  cf := some (fileOf pool6 3 #[.nestHost 1] #[{ accessFlags := 8, nameIndex := 200, descriptorIndex := 233, attributes := #[] }] 16432 25 #[] #[{ accessFlags := 16409, nameIndex := 7, descriptorIndex := 8, attributes := #[] }, { accessFlags := 16409, nameIndex := 11, descriptorIndex := 8, attributes := #[] }, { accessFlags := 16409, nameIndex := 14, descriptorIndex := 8, attributes := #[] }, { accessFlags := 18, nameIndex := 48, descriptorIndex := 49, attributes := #[] }, { accessFlags := 18, nameIndex := 52, descriptorIndex := 53, attributes := #[] }, { accessFlags := 18, nameIndex := 56, descriptorIndex := 49, attributes := #[] }, { accessFlags := 18, nameIndex := 59, descriptorIndex := 49, attributes := #[] }, { accessFlags := 18, nameIndex := 44, descriptorIndex := 45, attributes := #[] }, { accessFlags := 4122, nameIndex := 17, descriptorIndex := 18, attributes := #[] }])
  fields := #[{ name := "EVERY_NEWLINE", type := (.object "com/example/rulebridge/rulebridge/core/MarkedValue$Scheme"), accessFlags := 16409, slot := 0, constantValue := 0 }, { name := "LAST_NEWLINE", type := (.object "com/example/rulebridge/rulebridge/core/MarkedValue$Scheme"), accessFlags := 16409, slot := 1, constantValue := 0 }, { name := "NEWLINES_APART", type := (.object "com/example/rulebridge/rulebridge/core/MarkedValue$Scheme"), accessFlags := 16409, slot := 2, constantValue := 0 }, { name := "before", type := (.object "java/lang/String"), accessFlags := 18, slot := 3, constantValue := 0 }, { name := "beforeLastNewline", type := .char, accessFlags := 18, slot := 4, constantValue := 0 }, { name := "after", type := (.object "java/lang/String"), accessFlags := 18, slot := 5, constantValue := 0 }, { name := "multiLineEnd", type := (.object "java/lang/String"), accessFlags := 18, slot := 6, constantValue := 0 }, { name := "reads", type := (.array (.object "java/lang/String")), accessFlags := 18, slot := 7, constantValue := 0 }, { name := "$VALUES", type := (.array (.object "com/example/rulebridge/rulebridge/core/MarkedValue$Scheme")), accessFlags := 4122, slot := 3, constantValue := 0 }]
  methods := #[k6m0]
  instanceTypes := #[(.object "java/lang/String"), .int, .int, (.object "java/lang/String"), .char, (.object "java/lang/String"), (.object "java/lang/String"), (.array (.object "java/lang/String"))]
  staticTypes := #[(.object "com/example/rulebridge/rulebridge/core/MarkedValue$Scheme"), (.object "com/example/rulebridge/rulebridge/core/MarkedValue$Scheme"), (.object "com/example/rulebridge/rulebridge/core/MarkedValue$Scheme"), (.array (.object "com/example/rulebridge/rulebridge/core/MarkedValue$Scheme"))]
  resolved := Array.replicate 270 none
  statics := some 0 }

def pool7 : Array CpInfo := pool [(1, u "java/lang/Cloneable"), (0, .class_ 1), (0, u "java/lang/Object"), (0, .class_ 3)] 3

/-- java/lang/Cloneable -/
def k7 : Class := { plain "java/lang/Cloneable" (some 0) with
  accessFlags := 1537
  interfaces := #[]
  cf := some (fileOf pool7 2 #[] #[] 1537 4 #[] #[])
  fields := #[]
  methods := #[]
  instanceTypes := #[]
  staticTypes := #[]
  resolved := Array.replicate 8 none
  statics := none }

/-- the primitive byte -/
def k8 : Class := { plain "byte" none with kind := .primitive 'B', accessFlags := 0x411 }
/-- [B -/
def k9 : Class := { plain "[B" (some 0) with kind := .array 8 .byte, interfaces := #[7, 4], accessFlags := 1041 }

/-- the primitive int -/
def k10 : Class := { plain "int" none with kind := .primitive 'I', accessFlags := 0x411 }
/-- [I -/
def k11 : Class := { plain "[I" (some 0) with kind := .array 10 .int, interfaces := #[7, 4], accessFlags := 1041 }

def heap : Heap := #[{ cls := 6, slots := #[.ref 1, .ref 3, .ref 2, .null], vm := .statics 6 },
  { cls := 6, slots := #[.null, .int 0, .int 0, .null, .int 0, .null, .null, .null], vm := .none },
  { cls := 6, slots := #[.null, .int 2, .int 0, .null, .int 0, .null, .null, .null], vm := .none },
  { cls := 6, slots := #[.null, .int 1, .int 0, .null, .int 0, .null, .null, .null], vm := .none }]
def classes : Array Class := #[k0, k1, k2, k3, k4, k5, k6, k7, k8, k9, k10, k11]
def interned : List (Array UInt16 × Addr) := []
def slotsUsed : Nat := 28
def theMethod : MethodId := ⟨1, 1⟩
def args0 : Array Value := #[.int 5, .int 7]
def aboutOver (below : List Frame) : State where
  vm := { classes := classes, interned := interned.toArray }
  heap := heap
  slotsUsed := slotsUsed
  threads := #[{ frames := .invoking theMethod args0 :: below }]
def below0 : List Frame := [.native { method := ⟨0, 0⟩, args := #[] }]
def about1 : State := aboutOver below0
def p0 : Program := .bare "" "" ""
def e0 : Env := launch0.env 0 0 0
theorem w_frames : about1.frames = Frame.invoking theMethod args0 :: below0 := rfl
set_option maxRecDepth 65536 in
theorem w_args : argsFit about1.vm theMethod args0 = true := by decide +kernel
set_option maxRecDepth 65536 in
theorem w_heap : heapFits about1 = true := by decide +kernel
set_option maxRecDepth 65536 in
theorem w_runnable : about1.curStatus? = some .runnable := by decide +kernel
set_option maxRecDepth 65536 in
theorem w_alone : about1.alone = true := by decide +kernel
set_option maxRecDepth 65536 in
theorem w_named : about1.methodNamed? x = some theMethod := by decide +kernel
set_option maxRecDepth 65536 in
theorem w_hears : about1.hears theMethod below0 = true := by decide +kernel
set_option maxRecDepth 65536 in
theorem w_ripe : about1.ripe theMethod args0 below0 = true := by decide +kernel
theorem w_running : about1.status = .running := rfl
set_option maxRecDepth 65536 in
theorem w_room : about1.hasRoom e0.platform room_1 = true :=
  launch0.hasRoom_least _ room_1 (by decide +kernel) (by decide +kernel) (by decide +kernel) (by decide +kernel) (by decide +kernel) (by decide +kernel)
theorem allAtoms_all (ts : List Jvm.Cond) (a : Array Jvm.Value) (st : Jvm.State) : (allAtoms ts).before a st = ts.all (fun c => c.before a st) := by
  induction ts with
  | nil => rfl
  | cons c t ih =>
    show (Jvm.Cond.and c (allAtoms t)).before a st = _
    rw [Jvm.Cond.before_and, ih, List.all_cons]
def words1 : List Jvm.Cond := Jvm.Cond.code x code maxLocals ret :: tables_1
/-- a 'code' word, met by the world's own term for the bytes: nothing is compared byte by byte -/
theorem code_word {y : MethodName} {bytes : ByteArray} {mx : Nat} {rt : Option FieldType} {a : Array Value} {s : State} {m : MethodId} {meth : Method} {c : Code} (h1 : s.methodNamed? y = some m) (h2 : s.vm.method? m = some meth) (h3 : meth.code = some c) (h4 : c.code = bytes)
    (h5 : (c.maxLocals == mx && c.exceptionTable.isEmpty && decide (c.maxStack ≤ mostOperands) && decide (meth.sig.returnType = rt) && !meth.locks && decide (parseMethodDescriptor y.desc = some meth.sig)) = true) : (Jvm.Cond.code y bytes mx rt).before a s = true := by
  simp only [Bool.and_eq_true, beq_iff_eq, Bool.not_eq_true', decide_eq_true_eq] at h5
  obtain ⟨⟨⟨⟨⟨g1, g2⟩, g3⟩, g4⟩, g5⟩, g6⟩ := h5
  simp [Cond.before, Cond.holds, Cond.value, h1, h2, h3, h4, g1, g2, g3, g4, g5, g6]
def isCode : Jvm.Cond → Bool
  | .code _ _ _ _ => true
  | _ => false
theorem all_split {L : List Jvm.Cond} {P : Jvm.Cond → Bool} (h1 : L.all (fun c => isCode c || P c) = true) (h2 : ∀ c ∈ L.filter isCode, P c = true) : L.all P = true := by
  refine List.all_eq_true.mpr fun c hc => ?_
  have h := List.all_eq_true.mp h1 c hc
  rcases Bool.eq_false_or_eq_true (isCode c) with hi | hi
  · exact h2 c (List.mem_filter.mpr ⟨hc, hi⟩)
  · simpa [hi] using h
set_option maxRecDepth 65536 in
theorem w_c0 : (Jvm.Cond.code x code maxLocals ret).before args0 about1 = true := code_word (m := ⟨1, 1⟩) (meth := k1m1) (c := k1c1) (by decide +kernel) rfl rfl rfl (by decide +kernel)
set_option maxRecDepth 65536 in
theorem w_c1 : (Jvm.Cond.code ({ cls := "com/example/rulebridge/rulebridge/core/MarkedValue$Scheme", name := "of", desc := "(ZZ)Lcom/example/rulebridge/rulebridge/core/MarkedValue$Scheme;" } : Jvm.MethodName) prog_9_method_4_code (3 : Nat) (Option.some (Jvm.ClassFile.FieldType.object "com/example/rulebridge/rulebridge/core/MarkedValue$Scheme"))).before args0 about1 = true := code_word (m := ⟨6, 0⟩) (meth := k6m0) (c := k6c0) (by decide +kernel) rfl rfl rfl (by decide +kernel)
def codes1 : List Jvm.Cond := [Jvm.Cond.code x code maxLocals ret, Jvm.Cond.code ({ cls := "com/example/rulebridge/rulebridge/core/MarkedValue$Scheme", name := "of", desc := "(ZZ)Lcom/example/rulebridge/rulebridge/core/MarkedValue$Scheme;" } : Jvm.MethodName) prog_9_method_4_code (3 : Nat) (Option.some (Jvm.ClassFile.FieldType.object "com/example/rulebridge/rulebridge/core/MarkedValue$Scheme"))]
set_option maxRecDepth 65536 in
theorem codes_eq : words1.filter isCode = codes1 := rfl
theorem w_codes : ∀ c ∈ words1.filter isCode, c.before args0 about1 = true := by
  rw [codes_eq]
  intro c hc
  simp only [codes1, List.mem_cons, List.not_mem_nil, or_false] at hc
  rcases hc with rfl | rfl
  · exact w_c0
  · exact w_c1
set_option maxRecDepth 65536 in
theorem w_t1 : words1.all (fun c => isCode c || c.before args0 about1) = true := by decide +kernel
theorem w_tables : (allAtoms (Jvm.Cond.code x code maxLocals ret :: tables_1)).before args0 about1 = true := by
  rw [allAtoms_all]
  show words1.all (fun c => c.before args0 about1) = true
  refine all_split ?_ w_codes
  rw [w_t1]
set_option maxRecDepth 65536 in
theorem w_case : (Jvm.Cond.and given_1 narrow_1).before args0 about1 = true := by decide +kernel
theorem w_applies : (headSpec (Jvm.Cond.code x code maxLocals ret :: tables_1) room_1).applies x e0.platform about1 = true :=
  (Spec.applies_iff w_frames).mpr ⟨w_running, w_runnable, w_alone, w_named, w_hears, w_ripe, w_room, w_tables⟩
theorem atStart : AtStart classFile x code maxLocals ret World_1 tables_1 room_1 Calls_1 rest_1 Pre_1 launch0 p0 e0 about1 theMethod args0 below0 :=
  ⟨lists_1, trivial, launch0.admits_env _ _ _, launch0.least_env, fairChoices_fair.cas, fairChoices_fair.clock, w_frames, w_args, w_heap, w_applies, trivial, trivial, w_case⟩
end start1
theorem witness_1 : WitnessClaimed_1 := ⟨start1.p0, start1.e0, start1.about1, start1.theMethod, start1.args0, start1.below0, start1.atStart⟩
end Jvm.Pilot.@@N@@
