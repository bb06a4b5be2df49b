import JvmDerived
import JvmDerived.Pilot.@@N@@Statement
import JvmDerived.Pilot.@@N@@Code
set_option linter.unusedVariables false
set_option linter.unusedSimpArgs false
namespace Jvm.Pilot.@@N@@
open Jvm Jvm.ClassFile Sem Op Lib Jvm.Free Jvm.Stand Jvm.LawKit Jvm.RoadKit Bundle Jvm.Pilot.@@N@@.Jvm.D

/-- the run that stands at T with the top frame f ends, and its end is as P says -/
def Go (p : Program) (e : Env) (below : List Frame) (P : Outcome → State → Prop) (T : State) (f : JFrame) : Prop :=
  ∃ s₂ o, Steps p.tables e below (T.setTop f) s₂ ∧ s₂.status = .running ∧ Ended s₂ below o ∧ P o s₂
theorem Go.st {p : Program} {e : Env} {below : List Frame} {P : Outcome → State → Prop} {T T' : State} {f f' : JFrame}
    (h : ∀ t, Steps p.tables e below (T'.setTop f') t → Steps p.tables e below (T.setTop f) t) (k : Go p e below P T' f') : Go p e below P T f := by
  obtain ⟨s₂, o, a, b⟩ := k
  exact ⟨s₂, o, h _ a, b⟩
theorem Go.tr {p : Program} {e : Env} {below : List Frame} {P : Outcome → State → Prop} {T T' : State} {f f' : JFrame}
    (h : Steps p.tables e below (T.setTop f) (T'.setTop f')) (k : Go p e below P T' f') : Go p e below P T f := by
  obtain ⟨s₂, o, a, b⟩ := k
  exact ⟨s₂, o, h.trans a, b⟩
/-- what a contract says of the end -/
abbrev Done (s : State) (Q : Option Value → Heap → List Loc → Prop) (C S : Nat) (o : Outcome) (U' : State) : Prop :=
  ∃ v L, o = .returned v ∧ Q v U'.heap L ∧ FrameEnd s o U' L C S
theorem Go.ret {p : Program} {l : Launch} {e : Env} {R : Room} {s : State} {m : MethodId} {args : Array Value} {below : List Frame} {meth : Method} {c : Code} {T : State} {locs : List Loc} {cells slots : Nat} {h : Heap}
    {Q : Option Value → Heap → List Loc → Prop} {C S : Nat} {v : Option Value} {f : JFrame}
    (X : Stand p l e R s m args below meth c T locs cells slots) (hlk : meth.locks = false) (hv : meth.sig.returnType = none → v = none)
    (hs : ∀ fs, (∀ (f : JFrame) (acts : List Action), f.method = m → f.locked = none → f.entered = [] → (doReturn e (T.setTop f) acts v).1 = T.setFrames fs) → Steps p.tables e below (T.setTop f) (T.setFrames fs))
    (eT : T.heap = h) (hQ : Q v h locs) (hc : cells ≤ C) (hl : slots ≤ S) : Go p e below (Done s Q C S) T f := by
  obtain ⟨fs, hr, hrun, hended, hW, hsame⟩ := X.leave (v := v) hv hlk
  refine ⟨_, _, hs fs hr, hrun, hended, v, locs, rfl, ?_, ⟨_, rfl⟩, hW, hsame.mono hc hl⟩
  show Q v T.heap locs
  rw [eT]; exact hQ
theorem Go.retB {p : Program} {l : Launch} {e : Env} {R : Room} {s : State} {m : MethodId} {args : Array Value} {below : List Frame} {meth : Method} {c : Code} {T : State} {locs : List Loc} {cells slots : Nat} {h : Heap}
    {Q : Option Value → Heap → List Loc → Prop} {C S : Nat} {pc : Nat} {Ls : Array Slot} {z : Int32} {rest : List Value} {t : FieldType}
    (X : Stand p l e R s m args below meth c T locs cells slots) (hlk : meth.locks = false) (hx : p.tables.exec = Jvm.exec) (hret : meth.sig.returnType = some t) (ht : t = .boolean ∨ t = .byte ∨ t = .char ∨ t = .short)
    (hd : decode c.code pc = .ok (.ireturn, 1)) (eT : T.heap = h) (hQ : Q (some (.int (nar t z))) h locs) (hc : cells ≤ C) (hl : slots ≤ S) : Go p e below (Done s Q C S) T (mkF m pc Ls (.int z :: rest)) :=
  Go.ret X hlk (fun h => by rw [hret] at h; cases h) (fun _ hr => retN X hx hret ht hd hr) eT hQ hc hl
theorem Go.retV {p : Program} {l : Launch} {e : Env} {R : Room} {s : State} {m : MethodId} {args : Array Value} {below : List Frame} {meth : Method} {c : Code} {T : State} {locs : List Loc} {cells slots : Nat} {h : Heap}
    {Q : Option Value → Heap → List Loc → Prop} {C S : Nat} {pc : Nat} {Ls : Array Slot} {w : Value} {rest : List Value} {t : FieldType} {i : Instr}
    (X : Stand p l e R s m args below meth c T locs cells slots) (hlk : meth.locks = false) (hx : p.tables.exec = Jvm.exec) (hret : meth.sig.returnType = some t) (hn : narrow t w = w)
    (hi : (i = .ireturn ∧ (t = .int ∨ t = .boolean ∨ t = .byte ∨ t = .char ∨ t = .short) ∧ ∃ z, w = .int z) ∨ (i = .lreturn ∧ t = .long ∧ ∃ z, w = .long z) ∨ (i = .dreturn ∧ t = .double ∧ ∃ z, w = .double z) ∨ (i = .freturn ∧ t = .float ∧ ∃ z, w = .float z) ∨ (i = .areturn ∧ t.isReference = true ∧ w.isRef = true))
    (hd : decode c.code pc = .ok (i, 1)) (eT : T.heap = h) (hQ : Q (some w) h locs) (hc : cells ≤ C) (hl : slots ≤ S) : Go p e below (Done s Q C S) T (mkF m pc Ls (w :: rest)) :=
  Go.ret X hlk (fun h => by rw [hret] at h; cases h) (fun _ hr => retOut X hx hret hn hi hd hr) eT hQ hc hl
theorem Go.ret0 {p : Program} {l : Launch} {e : Env} {R : Room} {s : State} {m : MethodId} {args : Array Value} {below : List Frame} {meth : Method} {c : Code} {T : State} {locs : List Loc} {cells slots : Nat} {h : Heap}
    {Q : Option Value → Heap → List Loc → Prop} {C S : Nat} {pc : Nat} {Ls : Array Slot}
    (X : Stand p l e R s m args below meth c T locs cells slots) (hlk : meth.locks = false) (hx : p.tables.exec = Jvm.exec) (hret : meth.sig.returnType = none)
    (hd : decode c.code pc = .ok (.return_, 1)) (eT : T.heap = h) (hQ : Q none h locs) (hc : cells ≤ C) (hl : slots ≤ S) : Go p e below (Done s Q C S) T (mkF m pc Ls []) :=
  Go.ret X hlk (fun _ => rfl) (fun _ hr => X.returnOut hx hret hd hr) eT hQ hc hl
/-- an entry that stands resolved stays so, also where String constants are loaded -/
theorem own_fieldRef {Z : State} {vm1 : Vm} {a0 : Array Value} {own O n d : String} {index : Nat} (hW : Z.Warmed39 vm1) (w : (Cond.fieldRef own index O n d).before a0 Z = true) : (Cond.fieldRef own index O n d).before a0 (Z.setVm vm1) = true := by
  simp only [Cond.before, Cond.holds, Cond.value, State.vm_setVm, hW.alike.findClass, State.names_setVm hW.alike] at w ⊢
  cases q1 : Z.vm.findClass own with
  | none => rw [q1] at w; simp at w
  | some cO =>
    cases q2 : Z.fieldFound? O n d with
    | none => rw [q1, q2] at w; simp at w
    | some z =>
      obtain ⟨c1, k1, i1, f1⟩ := z
      obtain ⟨k2, q3, -⟩ := State.fieldFound?_setVm hW.alike q2
      rw [q1, q2] at w
      rw [q3]
      cases q4 : Z.resolvedAt? own index with
      | none => rw [q4] at w; simp at w
      | some r => rw [State.resolvedAt?_warmed39 hW q4]; rw [q4] at w; exact w
/-- getfield through an entry that stands resolved at the start (the word fieldRef) -/
theorem own_getR {p : Program} {l : Launch} {e : Env} {R : Room} {s : State} {m : MethodId} {args : Array Value} {below : List Frame} {meth : Method} {c : Code} {T : State} {locs : List Loc} {cells slots : Nat} {Z : State} {a0 : Array Value} {h : Heap}
    (X : Stand p l e R s m args below meth c T locs cells slots) (hx : p.tables.exec = Jvm.exec) (hZ : Z.Warmed39 s.vm) {own O n d : String} {index : Nat} (hown : s.vm.findClass own = some m.cls) (w : (Cond.fieldRef own index O n d).before a0 Z = true)
    (eT : T.heap = h) {a : Addr} {v : Value} (F : Fld Z h a O n d v) {g : JFrame} (hg : g.method = m) {rest : List Value} (hs : g.stack = .ref a :: rest) (hd : decode c.code g.pc = .ok (.getfield index, 3)) :
    ∃ T', Stand p l e R s m args below meth c T' locs cells slots ∧ T'.heap = h ∧ ∀ target, Steps p.tables e below (T'.setTop { g with pc := g.pc + 3, stack := v :: rest }) target → Steps p.tables e below (T.setTop g) target := by
  obtain ⟨cell, cf, k, i, f, h1, h2, h3, h4, -, -, h7⟩ := F
  have w1 : (Cond.fieldRef own index O n d).before args s = true := (own_fieldRef hZ w : (Cond.fieldRef own index O n d).before a0 (Z.setVm s.vm) = true)
  have w2 := Cond.fieldRef_warmed X.warmed w1
  obtain ⟨k1, r1, -⟩ := State.fieldFound?_setVm (s := Z) hZ.alike h2
  obtain ⟨k2, r2, -⟩ := State.fieldFound?_setVm (s := s) X.warmed.alike (show s.fieldFound? O n d = _ from r1)
  obtain ⟨c', k', i', f', q1, q2⟩ := Cond.fieldRef_spec (s := s.setVm T.vm) (cur := m.cls) (by rw [State.vm_setVm, X.warmed.alike.findClass]; exact hown) w2
  cases q1.symm.trans r2
  exact ⟨T, X, eT, fun target k => (X.getfieldR hx hg q2 h3 hs (by rw [eT]; exact h1) h4 h7 hd (Steps.refl _)).trans k⟩
/-- the form of every contract here -/
def Con (l : Launch) (Z : State) (y : MethodName) (bytes : ByteArray) (ml : Nat) (ret : Option FieldType) (ws : List Jvm.Cond) (room : Room) (A : Array Value) (h0 : Heap) (Q : Option Value → Heap → List Loc → Prop) : Prop :=
  MetFree l y (head1 (Jvm.Cond.code y bytes ml ret :: ws) room) (fun a U => a = A ∧ Z.Warmed39 U.vm ∧ U.heap = h0) (fun _ _ _ _ _ => True) (fun _ U o U' => ∃ v L, o = .returned v ∧ Q v U'.heap L ∧ FrameEnd U o U' L room.cells room.slots)
theorem own_body {l : Launch} {Z : State} {y : MethodName} {bytes : ByteArray} {ml : Nat} {ret : Option FieldType} {ws : List Jvm.Cond} {room : Room} {A : Array Value} {h0 : Heap} {Q : Option Value → Heap → List Loc → Prop} (hpn : plainFor y = true)
    (body : ∀ (p : Program) (e : Env) (s : State) (m : MethodId) (below : List Frame) (meth : Method) (c : Code) (s₁ : State), p.tables.exec = Jvm.exec → c.code = bytes → c.maxLocals = ml → Z.Warmed39 s.vm → s.vm.findClass y.cls = some m.cls → meth.name = y.name → meth.locks = false → meth.sig.returnType = ret →
      Stand p l e room s m A below meth c s₁ [] 0 0 → s₁.heap = h0 → Go p e below (Done s Q room.cells room.slots) s₁ (entryFrame m A ml)) : Con l Z y bytes ml ret ws room A h0 Q := by
  refine MetFree.of_bodySF hpn hisR ?_
  intro p e s m args below meth c s₁ Bd hml0 hP hK
  obtain ⟨rfl, hZ, hh⟩ := hP
  exact body p e s m below meth c s₁ Bd.exec Bd.bytes hml0 hZ (findClass_of_methodNamed Bd.named) (name_of_methodNamed Bd.named Bd.method).1 Bd.notSynchronized Bd.returns (Stand.of_body Bd) (by rw [← hh, Bd.state]; rfl)
theorem own_back {l : Launch} {R : Room} {p : Program} {e : Env} {below : List Frame} {s Z : State} {args a0 : Array Value} {h : Heap} {y : MethodName} {bytes : ByteArray} {maxL : Nat} {ret : Option FieldType} {rm : Room} {len W : Nat} {as' : Array Value} {Q : Option Value → Heap → List Loc → Prop}
    (hM : Con l Z y bytes maxL ret [] rm as' h Q) (hZ : Z.Warmed39 s.vm) (wc : (Cond.code y bytes maxL ret).before a0 Z = true) (wz : (Cond.initialized y.cls).before a0 Z = true) (hf : rm.frames + 1 ≤ R.frames) (hl : W + (maxL + 11) + rm.locals ≤ R.locals) :
    Back l R p e below s args y len W (fun A a => a = as' ∧ A.U.heap = h ∧ A.cells + rm.cells ≤ R.cells ∧ A.slots + rm.slots ≤ R.slots)
      (fun A _ v B => ∃ L, Q v B.U.heap L ∧ B.locs = A.locs ++ L ∧ B.cells = A.cells + rm.cells ∧ B.slots = A.slots + rm.slots) := backOf (Q := Q) hM hZ wc wz hf hl
theorem Con.weaken {l : Launch} {Z : State} {y : MethodName} {bytes : ByteArray} {ml : Nat} {ret : Option FieldType} {ws : List Jvm.Cond} {room : Room} {A : Array Value} {h0 : Heap} {Q Q' : Option Value → Heap → List Loc → Prop} (h : Con l Z y bytes ml ret ws room A h0 Q) (hq : ∀ v h L, Q v h L → Q' v h L) : Con l Z y bytes ml ret ws room A h0 Q' := fun p e h1 h2 h3 s m args below hf happ hP hK => by
  obtain ⟨n, o, a, b, c, v, L, d, e, f⟩ := h p e h1 h2 h3 s m args below hf happ hP hK
  exact ⟨n, o, a, b, c, v, L, d, hq _ _ _ e, f⟩
theorem own_cat {v : Value} (h : v.isRef = true) : v.category = 1 := by cases v <;> first | rfl | (simp [Value.isRef] at h)
theorem acYes {c : ClassFile.ACond} {x y : Value} (h : x = y) : acV c (decide (x = y)) = acV c true := by rw [decide_eq_true h]

theorem own_weaken {l : Launch} {x : MethodName} {S : Spec} {P : Array Value → State → Prop} {K : Program → Env → List Frame → State → Array Value → Prop} {Q Q' : Array Value → State → Outcome → State → Prop} (h : MetFree l x S P K Q) (hq : ∀ a s o t, Q a s o t → Q' a s o t) : MetFree l x S P K Q' := fun p e h1 h2 h3 s m args below hf happ hP hK => by
  obtain ⟨n, o, a, b, c, d⟩ := h p e h1 h2 h3 s m args below hf happ hP hK
  exact ⟨n, o, a, b, c, hq _ _ _ _ d⟩
section Start
variable {args : Array Value} {first s : State} {o : Option Outcome} {idx : List Nat} {t u : Term}
theorem own_eq_int {k : Int32} (h : (Jvm.Cond.eq t (.int k)).value args first o s idx = some true) : t.eval args first o idx s = some (.int k) := by
  simp only [Cond.value, Term.eval] at h
  cases ht : t.eval args first o idx s with
  | none => simp [ht] at h
  | some x => cases x <;> simp [ht] at h ⊢ <;> exact h
theorem own_eq_ref {a : Addr} (h : (Jvm.Cond.eq t u).value args first o s idx = some true) (hu : u.eval args first o idx s = some (.ref a)) : t.eval args first o idx s = some (.ref a) := by
  simp only [Cond.value] at h
  rw [hu] at h
  cases ht : t.eval args first o idx s with
  | none => simp [ht] at h
  | some x => cases x <;> simp [ht] at h ⊢ <;> exact h
theorem own_len {a : Addr} {cl : Cell} {z : Int32} (h : (Term.length t).eval args first o idx s = some (.int z)) (ht : t.eval args first o idx s = some (.ref a)) (hc : s.heap[a]? = some cl) : cl.slots.size < 2 ^ 31 ∧ cl.slots.size.toInt32 = z := by
  obtain ⟨a', cell, e1, e2, e3⟩ := Term.length_spec h
  cases ht.symm.trans e1
  have e4 := (State.arrayAt?_spec e2).1
  cases hc.symm.trans e4
  refine ⟨?_, (Value.int.inj e3).symm⟩
  by_cases hn : cl.slots.size < 2147483648
  · exact hn
  · simp only [Term.eval, Option.bind_eq_bind, ht, Option.bind_some, e2] at h
    rw [if_neg hn] at h; cases h
theorem own_ne_int {z : Int32} (h : (Jvm.Cond.not (Jvm.Cond.eq t (.int 0))).value args first o s idx = some true) (ht : t.eval args first o idx s = some (.int z)) : ¬ z = 0 := by
  have h1 := not_v h
  intro e
  subst e
  simp [Cond.value, Term.eval, ht] at h1
theorem own_fld {a : Addr} {C n d : String} {k : Int32} (h : (Jvm.Cond.eq (Term.field t C n d) (.int k)).value args s none s [] = some true) (ht : t.eval args s none [] s = some (.ref a)) : Fld s s.heap a C n d (.int k) :=
  Fld.start (by rw [← fld_at ht]; exact own_eq_int h)
theorem own_elem {a : Addr} {cl : Cell} {w : Addr} {j : Int32} {i : Nat} (h : (Jvm.Cond.eq (Term.elem t (.int j)) u).value args s none s [] = some true) (hu : u.eval args s none [] s = some (.ref w)) (ht : t.eval args s none [] s = some (.ref a)) (hc : s.heap[a]? = some cl) (hj : j.toNatClampNeg = i) : cl.slots[i]? = some (.ref w) := by
  subst hj
  exact (elem_in (own_eq_ref h hu) ht rfl hc).2
end Start

def World1 (Z : State) (w__VALUES : Addr) (w_REQUEST : Addr) (w_RESPONSE : Addr) (k__VALUES : ClassId) : Prop :=
  Sta Z Z.heap "com/example/wirecall/wirecall/wire/FrameKind" "$VALUES" "[Lcom/example/wirecall/wirecall/wire/FrameKind;" (.ref w__VALUES) ∧
  Exa Z Z.heap w__VALUES "[Lcom/example/wirecall/wirecall/wire/FrameKind;" ∧
  Sta Z Z.heap "com/example/wirecall/wirecall/wire/FrameKind" "REQUEST" "Lcom/example/wirecall/wirecall/wire/FrameKind;" (.ref w_REQUEST) ∧
  Exa Z Z.heap w_REQUEST "com/example/wirecall/wirecall/wire/FrameKind" ∧
  Sta Z Z.heap "com/example/wirecall/wirecall/wire/FrameKind" "RESPONSE" "Lcom/example/wirecall/wirecall/wire/FrameKind;" (.ref w_RESPONSE) ∧
  Exa Z Z.heap w_RESPONSE "com/example/wirecall/wirecall/wire/FrameKind" ∧
  Fld Z Z.heap w_REQUEST "com/example/wirecall/wirecall/wire/FrameKind" "code" "B" (.int (1 : Int32)) ∧
  Fld Z Z.heap w_RESPONSE "com/example/wirecall/wirecall/wire/FrameKind" "code" "B" (.int (2 : Int32)) ∧
  Arv Z Z.heap w__VALUES k__VALUES (Jvm.ClassFile.FieldType.object "com/example/wirecall/wirecall/wire/FrameKind") (2 : Int32) [(.ref w_REQUEST), (.ref w_RESPONSE)] .null
theorem pn_com_example_wirecall_wirecall_wire_FrameKind : plainName "com/example/wirecall/wirecall/wire/FrameKind" = true := by first | (simp [plainName, overriddenIn]; done) | decide +kernel
theorem d2_0 : decode prog_34_method_1_code 0 = .ok (.getstatic 10, 3) := by decide +kernel
theorem d2_3 : decode prog_34_method_1_code 3 = .ok (.invokevirtual 14, 3) := by decide +kernel
theorem d2_6 : decode prog_34_method_1_code 6 = .ok (.checkcast 15, 3) := by decide +kernel
theorem d2_9 : decode prog_34_method_1_code 9 = .ok (.areturn, 1) := by decide +kernel
set_option maxRecDepth 65536 in
set_option maxHeartbeats 40000000 in
theorem rmV (l : Launch) (Z : State) (a0 : Array Value) (hw : ∀ d ∈ tables_1, d.before a0 Z = true) (ws : List Jvm.Cond) (w__VALUES : Addr) (w_REQUEST : Addr) (w_RESPONSE : Addr) (k__VALUES : ClassId) (h0 : Heap) (n0 : Nat) (O0 : Old Z n0 h0) (WW : World1 Z w__VALUES w_REQUEST w_RESPONSE k__VALUES) :
    Con l Z (⟨"com/example/wirecall/wirecall/wire/FrameKind", "values", "()[Lcom/example/wirecall/wirecall/wire/FrameKind;"⟩ : MethodName) prog_34_method_1_code 0 (some (.array (.object "com/example/wirecall/wirecall/wire/FrameKind"))) ws ({ frames := 1, cells := 1, slots := 2, locals := 14 } : Room) #[] h0 (fun v h L => ∃ b : Addr, v = some (.ref b) ∧ Fr n0 L ∧ h0.size ≤ b ∧ Keep h0 h [] ∧ Arv Z h b k__VALUES (Jvm.ClassFile.FieldType.object "com/example/wirecall/wirecall/wire/FrameKind") (2 : Int32) [(.ref w_REQUEST), (.ref w_RESPONSE)] .null ∧ Exa Z h b "[Lcom/example/wirecall/wirecall/wire/FrameKind;") := by
  refine own_body (plainFor_of_name pn_com_example_wirecall_wirecall_wire_FrameKind) ?_
  intro p e s m below meth c s₁ hx hby hml hZ hown hnm hlk hret X0 e0
  have N0 := Fr.nil n0
  have K0 : Keep h0 h0 [] := Keep.refl _ _
  refine Go.st (T' := s₁) (f' := (mkF m 0 #[] [])) (fun _ k => castTop (by first | (simp [entryFrame, mkF, argsToLocals, Value.category]; done) | rfl) k) ?_
  have ⟨S_w__VALUES, E_w__VALUES, S_w_REQUEST, E_w_REQUEST, S_w_RESPONSE, E_w_RESPONSE, F_w_REQUEST_code, F_w_RESPONSE_code, V_w__VALUES⟩ := WW
  have lt_w__VALUES := E_w__VALUES.lt
  have lt_w_REQUEST := E_w_REQUEST.lt
  have lt_w_RESPONSE := E_w_RESPONSE.lt
  obtain ⟨T1, X1, e1, st1⟩ := getS2 X0 hx hZ hown (host := "") (Or.inl (hw _ (List.mem_of_getElem? (i := 7) rfl))) Via.refl e0 (S_w__VALUES.ext O0.2) (g := (mkF m 0 #[] [])) rfl (hb hby d2_0)
  refine Go.st (f' := (mkF m 3 #[] [(.ref w__VALUES)])) (fun _ k => st1 _ k) ?_
  obtain ⟨T3, h3, X3, e3, E3, V3, A3, st3⟩ := cloneH X1 hx hZ hown (hw _ (List.mem_of_getElem? (i := 9) rfl)) (hw _ (List.mem_of_getElem? (i := 10) rfl)) (hw _ (List.mem_of_getElem? (i := 14) rfl)) (hw _ (List.mem_of_getElem? (i := 12) rfl)) (hw _ (List.mem_of_getElem? (i := 13) rfl)) (hw _ (List.mem_of_getElem? (i := 15) rfl)) e1 (Arv.arh (V_w__VALUES.ext O0.2)) (E_w__VALUES.ext O0.2) (g := (mkF m 3 #[] [(.ref w__VALUES)])) rfl (by rw [hml]; rfl) rfl (hb hby d2_3) (by decide) (W := 0) (by show 2 * 0 + _ ≤ _; exact Nat.le_of_eq rfl) (by decide) (cap := 2) (by decide) (by decide) (by decide)
  obtain ⟨b3, g3⟩ : ∃ z, z = h0.size := ⟨_, rfl⟩
  rw [← g3] at V3 A3 st3
  have ne_w__VALUES_b3 : w__VALUES ≠ b3 := Nat.ne_of_lt (Nat.lt_of_lt_of_le lt_w__VALUES (Nat.le_trans O0.2.1 (Nat.le_of_eq g3.symm)))
  have ne_w_REQUEST_b3 : w_REQUEST ≠ b3 := Nat.ne_of_lt (Nat.lt_of_lt_of_le lt_w_REQUEST (Nat.le_trans O0.2.1 (Nat.le_of_eq g3.symm)))
  have ne_w_RESPONSE_b3 : w_RESPONSE ≠ b3 := Nat.ne_of_lt (Nat.lt_of_lt_of_le lt_w_RESPONSE (Nat.le_trans O0.2.1 (Nat.le_of_eq g3.symm)))
  have g_b3 : n0 ≤ b3 := Nat.le_trans (O0.1 ▸ O0.2.1) (Nat.le_of_eq g3.symm)
  have O3 : Old Z n0 h3 := O0.ext E3
  have sz_b3 : h0.size ≤ b3 := Nat.le_trans K0.1 (Nat.le_of_eq g3.symm)
  have K3 : Keep h0 h3 [] := K0.ext E3
  have V_b3 : Arv Z h3 b3 k__VALUES (Jvm.ClassFile.FieldType.object "com/example/wirecall/wirecall/wire/FrameKind") (2 : Int32) [(.ref w_REQUEST), (.ref w_RESPONSE)] .null := V3
  have lt_b3 := A3.lt
  refine Go.st (f' := (mkF m 6 #[] [(.ref b3)])) (fun _ k => st3 _ k) ?_
  obtain ⟨T4, X4, e4, st4⟩ := castY X3 hx hZ hown (hw _ (List.mem_of_getElem? (i := 19) rfl)) e3 (Ins.self A3) (g := (mkF m 6 #[] [(.ref b3)])) rfl rfl (hb hby d2_6)
  refine Go.st (f' := (mkF m 9 #[] [(.ref b3)])) (fun _ k => st4 _ k) ?_
  refine Go.retV X4 hlk hx (t := (.array (.object "com/example/wirecall/wirecall/wire/FrameKind"))) hret rfl (Or.inr (Or.inr (Or.inr (Or.inr ⟨rfl, rfl, rfl⟩)))) (hb hby d2_9) e4 ?_ (by decide) (by decide)
  exact ⟨b3, rfl, N0, sz_b3, K3, V_b3, A3⟩
def ofV (b : Int32) (r s : Addr) : Value := if (1 : Int32) = b then .ref r else if (2 : Int32) = b then .ref s else .null
theorem ofV_ref (b : Int32) (r s : Addr) : (ofV b r s).isRef = true := by
  unfold ofV; split
  · rfl
  · split <;> rfl
theorem d1_0 : decode prog_34_method_5_code 0 = .ok (.invokestatic 33, 3) := by decide +kernel
theorem pd____Lcom_example_wirecall_wirecall_wire_FrameKind_ : parseMethodDescriptor "()[Lcom/example/wirecall/wirecall/wire/FrameKind;" = some ⟨[], some (.array (.object "com/example/wirecall/wirecall/wire/FrameKind"))⟩ := by decide +kernel
theorem d1_3 : decode prog_34_method_5_code 3 = .ok (.astore_n 1, 1) := by decide +kernel
theorem d1_4 : decode prog_34_method_5_code 4 = .ok (.aload_n 1, 1) := by decide +kernel
theorem d1_5 : decode prog_34_method_5_code 5 = .ok (.arraylength, 1) := by decide +kernel
theorem d1_6 : decode prog_34_method_5_code 6 = .ok (.istore_n 2, 1) := by decide +kernel
theorem d1_7 : decode prog_34_method_5_code 7 = .ok (.iconst 0, 1) := by decide +kernel
theorem d1_8 : decode prog_34_method_5_code 8 = .ok (.istore_n 3, 1) := by decide +kernel
theorem d1_9 : decode prog_34_method_5_code 9 = .ok (.iload_n 3, 1) := by decide +kernel
theorem d1_10 : decode prog_34_method_5_code 10 = .ok (.iload_n 2, 1) := by decide +kernel
theorem d1_11 : decode prog_34_method_5_code 11 = .ok (.if_icmp .ge 26, 3) := by decide +kernel
theorem d1_14 : decode prog_34_method_5_code 14 = .ok (.aload_n 1, 1) := by decide +kernel
theorem d1_15 : decode prog_34_method_5_code 15 = .ok (.iload_n 3, 1) := by decide +kernel
theorem d1_16 : decode prog_34_method_5_code 16 = .ok (.aaload, 1) := by decide +kernel
theorem d1_17 : decode prog_34_method_5_code 17 = .ok (.astore 4, 2) := by decide +kernel
theorem d1_19 : decode prog_34_method_5_code 19 = .ok (.aload 4, 2) := by decide +kernel
theorem d1_21 : decode prog_34_method_5_code 21 = .ok (.getfield 29, 3) := by decide +kernel
theorem d1_24 : decode prog_34_method_5_code 24 = .ok (.iload_n 0, 1) := by decide +kernel
theorem d1_25 : decode prog_34_method_5_code 25 = .ok (.if_icmp .ne 6, 3) := by decide +kernel
theorem d1_28 : decode prog_34_method_5_code 28 = .ok (.aload 4, 2) := by decide +kernel
theorem d1_30 : decode prog_34_method_5_code 30 = .ok (.areturn, 1) := by decide +kernel
theorem d1_31 : decode prog_34_method_5_code 31 = .ok (.iinc 3 1, 3) := by decide +kernel
theorem d1_34 : decode prog_34_method_5_code 34 = .ok (.goto (-25), 3) := by decide +kernel
theorem d1_37 : decode prog_34_method_5_code 37 = .ok (.aconst_null, 1) := by decide +kernel
theorem d1_38 : decode prog_34_method_5_code 38 = .ok (.areturn, 1) := by decide +kernel
set_option maxRecDepth 65536 in
set_option maxHeartbeats 40000000 in
theorem rmC (l : Launch) (Z : State) (a0 : Array Value) (hw : ∀ d ∈ tables_1, d.before a0 Z = true) (ws : List Jvm.Cond) (p1 : Int32) (w__VALUES : Addr) (w_REQUEST : Addr) (w_RESPONSE : Addr) (k__VALUES : ClassId) (h0 : Heap) (n0 : Nat) (O0 : Old Z n0 h0) (WW : World1 Z w__VALUES w_REQUEST w_RESPONSE k__VALUES) :
    Con l Z (⟨"com/example/wirecall/wirecall/wire/FrameKind", "ofCode", "(B)Lcom/example/wirecall/wirecall/wire/FrameKind;"⟩ : MethodName) prog_34_method_5_code 5 (some (.object "com/example/wirecall/wirecall/wire/FrameKind")) ws ({ frames := 2, cells := 1, slots := 2, locals := 25 } : Room) #[(.int p1)] h0 (fun v h L => v = some (ofV p1 w_REQUEST w_RESPONSE) ∧ Fr n0 L ∧ Keep h0 h []) := by
  refine own_body (plainFor_of_name pn_com_example_wirecall_wirecall_wire_FrameKind) ?_
  intro p e s m below meth c s₁ hx hby hml hZ hown hnm hlk hret X0 e0
  have N0 := Fr.nil n0
  have K0 : Keep h0 h0 [] := Keep.refl _ _
  refine Go.st (T' := s₁) (f' := (mkF m 0 #[iv p1, .unset, .unset, .unset, .unset] [])) (fun _ k => castTop (by first | (simp [entryFrame, mkF, argsToLocals, Value.category]; done) | rfl) k) ?_
  have ⟨S_w__VALUES, E_w__VALUES, S_w_REQUEST, E_w_REQUEST, S_w_RESPONSE, E_w_RESPONSE, F_w_REQUEST_code, F_w_RESPONSE_code, V_w__VALUES⟩ := WW
  have lt_w__VALUES := E_w__VALUES.lt
  have lt_w_REQUEST := E_w_REQUEST.lt
  have lt_w_RESPONSE := E_w_RESPONSE.lt
  obtain ⟨_, _, ⟨T1, L1, kk1, nn1⟩, -, X1, ⟨Lc1, hQ1, lq1, yq1, zz1⟩, st1⟩ := Jvm.LawKit.callS X0 hx (y := (⟨"com/example/wirecall/wirecall/wire/FrameKind", "values", "()[Lcom/example/wirecall/wirecall/wire/FrameKind;"⟩ : MethodName)) hown (mvT hZ (hw _ (List.mem_of_getElem? (i := 4) rfl))) (mvT hZ (hw _ (List.mem_of_getElem? (i := 5) rfl))) (mvT hZ (hw _ (List.mem_of_getElem? (i := 2) rfl))) (mvT hZ (hw _ (List.mem_of_getElem? (i := 6) rfl))) (by decide) (own_back (W := 0) (rmV l Z a0 hw [] w__VALUES w_REQUEST w_RESPONSE k__VALUES h0 n0 O0 WW) hZ (hw _ (List.mem_of_getElem? (i := 6) rfl)) (hw _ (List.mem_of_getElem? (i := 2) rfl)) (by decide) (by decide)) (g := (mkF m 0 #[iv p1, .unset, .unset, .unset, .unset] [])) rfl (by rw [hml]; rfl) (argsL := []) (rest := []) (lenOf pd____Lcom_example_wirecall_wirecall_wire_FrameKind_ rfl) rfl (by show 2 * 0 + _ ≤ _; exact Nat.le_of_eq rfl) (hb hby d1_0) (fun _ _ => ⟨rfl, e0, (by decide : 0 + 1 ≤ _), (by decide : 0 + 2 ≤ _)⟩)
  dsimp only [Pt.U, Pt.locs, Pt.cells, Pt.slots] at X1 lq1 yq1 zz1 st1 hQ1
  subst lq1 yq1 zz1
  obtain ⟨b1, rfl, Nq1, zq1, kq1, vq1, eq1⟩ := hQ1
  have N1 := Fr.app N0 Nq1
  have ne_w__VALUES_b1 : w__VALUES ≠ b1 := Nat.ne_of_lt (Nat.lt_of_lt_of_le lt_w__VALUES (Nat.le_trans O0.2.1 zq1))
  have ne_w_REQUEST_b1 : w_REQUEST ≠ b1 := Nat.ne_of_lt (Nat.lt_of_lt_of_le lt_w_REQUEST (Nat.le_trans O0.2.1 zq1))
  have ne_w_RESPONSE_b1 : w_RESPONSE ≠ b1 := Nat.ne_of_lt (Nat.lt_of_lt_of_le lt_w_RESPONSE (Nat.le_trans O0.2.1 zq1))
  have g_b1 : n0 ≤ b1 := Nat.le_trans (O0.1 ▸ O0.2.1) zq1
  have sz_b1 : h0.size ≤ b1 := Nat.le_trans K0.1 zq1
  have O1 : Old Z n0 T1.heap := O0.keep kq1 all0
  have K1 : Keep h0 T1.heap [] := K0.trans kq1 all0
  have lt_b1 := eq1.lt
  refine Go.st (f' := (mkF m 3 #[iv p1, .unset, .unset, .unset, .unset] [(.ref b1)])) (fun _ k => st1 _ k) ?_
  refine Go.st (f' := (mkF m 4 #[iv p1, rv b1, .unset, .unset, .unset] [])) (fun _ k => XS.astoreN X1.here hx rfl (hb hby d1_3) rfl rfl (l' := #[iv p1, rv b1, .unset, .unset, .unset]) rfl k) ?_
  refine Go.st (f' := (mkF m 5 #[iv p1, rv b1, .unset, .unset, .unset] [(.ref b1)])) (fun _ k => XS.aloadN X1.here hx rfl (hb hby d1_4) rfl rfl k) ?_
  obtain ⟨cl2, Ar2, -, S2, Nx2, -, -⟩ := id vq1
  refine Go.st (T' := T1) (f' := (mkF m 6 #[iv p1, rv b1, .unset, .unset, .unset] [(.int 2)])) (fun _ k => X1.arraylength hx Ar2.1 (State.isArrayOf_alike hZ.alike Ar2.2.1) (g := (mkF m 5 #[iv p1, rv b1, .unset, .unset, .unset] [(.ref b1)])) rfl rfl (hb hby d1_5) _ (by rw [len_of S2 Nx2]; exact k)) ?_
  refine Go.st (f' := (mkF m 7 #[iv p1, rv b1, iv 2, .unset, .unset] [])) (fun _ k => XS.istoreN X1.here hx rfl (hb hby d1_6) rfl (l' := #[iv p1, rv b1, iv 2, .unset, .unset]) rfl k) ?_
  refine Go.st (f' := (mkF m 8 #[iv p1, rv b1, iv 2, .unset, .unset] [(.int 0)])) (fun _ k => XS.iconst X1.here hx rfl (hb hby d1_7) k) ?_
  refine Go.st (f' := (mkF m 9 #[iv p1, rv b1, iv 2, iv 0, .unset] [])) (fun _ k => XS.istoreN X1.here hx rfl (hb hby d1_8) rfl (l' := #[iv p1, rv b1, iv 2, iv 0, .unset]) rfl k) ?_
  refine Go.st (f' := (mkF m 10 #[iv p1, rv b1, iv 2, iv 0, .unset] [(.int 0)])) (fun _ k => XS.iloadN X1.here hx rfl (hb hby d1_9) rfl k) ?_
  refine Go.st (f' := (mkF m 11 #[iv p1, rv b1, iv 2, iv 0, .unset] [(.int 2), (.int 0)])) (fun _ k => XS.iloadN X1.here hx rfl (hb hby d1_10) rfl k) ?_
  refine Go.st (f' := (mkF m 14 #[iv p1, rv b1, iv 2, iv 0, .unset] [])) (fun _ k => XS.icmpNo X1.here hx rfl (hb hby d1_11) rfl (by decide) k) ?_
  refine Go.st (f' := (mkF m 15 #[iv p1, rv b1, iv 2, iv 0, .unset] [(.ref b1)])) (fun _ k => XS.aloadN X1.here hx rfl (hb hby d1_14) rfl rfl k) ?_
  refine Go.st (f' := (mkF m 16 #[iv p1, rv b1, iv 2, iv 0, .unset] [(.int 0), (.ref b1)])) (fun _ k => XS.iloadN X1.here hx rfl (hb hby d1_15) rfl k) ?_
  obtain ⟨cl3, Ar3, -, S3, -, H3, -⟩ := id vq1
  have hin3 : ¬ ((0 : Int32) < 0 ∨ cl3.slots.size ≤ ((0 : Int32)).toNatClampNeg) := inb_of S3 ⟨by decide, by decide⟩
  have hat3 : cl3.slots[((0 : Int32)).toNatClampNeg]? = some (.ref w_REQUEST) := H3.at hin3 rfl
  refine Go.st (f' := (mkF m 17 #[iv p1, rv b1, iv 2, iv 0, .unset] [(.ref w_REQUEST)])) (fun _ k => X1.aaload hx (j := (0 : Int32)) (v := (.ref w_REQUEST)) Ar3.1 (State.isArrayOf_alike hZ.alike Ar3.2.1) rfl Ar3.2.2 hin3 hat3 (g := (mkF m 16 #[iv p1, rv b1, iv 2, iv 0, .unset] [(.int 0), (.ref b1)])) rfl rfl (hb hby d1_16) _ k) ?_
  refine Go.st (f' := (mkF m 19 #[iv p1, rv b1, iv 2, iv 0, rv w_REQUEST] [])) (fun _ k => XS.astore X1.here hx rfl (hb hby d1_17) rfl rfl (l' := #[iv p1, rv b1, iv 2, iv 0, rv w_REQUEST]) rfl k) ?_
  refine Go.st (f' := (mkF m 21 #[iv p1, rv b1, iv 2, iv 0, rv w_REQUEST] [(.ref w_REQUEST)])) (fun _ k => XS.aload X1.here hx rfl (hb hby d1_19) rfl rfl k) ?_
  obtain ⟨T4, X4, e4, st4⟩ := getF X1 hx hZ hown (host := "") (Or.inl (hw _ (List.mem_of_getElem? (i := 21) rfl))) Via.refl rfl (F_w_REQUEST_code.ext O1.2) (g := (mkF m 21 #[iv p1, rv b1, iv 2, iv 0, rv w_REQUEST] [(.ref w_REQUEST)])) rfl rfl (hb hby d1_21)
  refine Go.st (f' := (mkF m 24 #[iv p1, rv b1, iv 2, iv 0, rv w_REQUEST] [(.int 1)])) (fun _ k => st4 _ k) ?_
  refine Go.st (f' := (mkF m 25 #[iv p1, rv b1, iv 2, iv 0, rv w_REQUEST] [(.int p1), (.int 1)])) (fun _ k => XS.iloadN X4.here hx rfl (hb hby d1_24) rfl k) ?_
  by_cases cd5 : (1 : Int32) = p1
  · refine Go.st (f' := (mkF m 28 #[iv p1, rv b1, iv 2, iv 0, rv w_REQUEST] [])) (fun _ k => XS.icmpNo X4.here hx rfl (hb hby d1_25) rfl (teq cd5).2 k) ?_
    refine Go.st (f' := (mkF m 30 #[iv p1, rv b1, iv 2, iv 0, rv w_REQUEST] [(.ref w_REQUEST)])) (fun _ k => XS.aload X4.here hx rfl (hb hby d1_28) rfl rfl k) ?_
    refine Go.retV X4 hlk hx (t := (.object "com/example/wirecall/wirecall/wire/FrameKind")) hret rfl (Or.inr (Or.inr (Or.inr (Or.inr ⟨rfl, rfl, rfl⟩)))) (hb hby d1_30) e4 ?_ (by decide) (by decide)
    show (some (.ref w_REQUEST) : Option Value) = some (ofV p1 w_REQUEST w_RESPONSE) ∧ _
    exact ⟨by rw [ofV, if_pos cd5], N1, K1⟩
  · refine Go.st (f' := (mkF m 31 #[iv p1, rv b1, iv 2, iv 0, rv w_REQUEST] [])) (fun _ k => XS.icmpYes X4.here hx rfl (pc0 := 25) (pc' := 31) rfl (hb hby d1_25) rfl (feq cd5).2 (by decide) (by decide) k) ?_
    refine Go.st (f' := (mkF m 34 #[iv p1, rv b1, iv 2, iv 1, rv w_REQUEST] [])) (fun _ k => XS.iinc X4.here hx rfl (hb hby d1_31) rfl (l' := #[iv p1, rv b1, iv 2, iv 1, rv w_REQUEST]) rfl k) ?_
    refine Go.st (f' := (mkF m 9 #[iv p1, rv b1, iv 2, iv 1, rv w_REQUEST] [])) (fun _ k => XS.goto X4.here hx rfl (pc0 := 34) (pc' := 9) rfl (hb hby d1_34) (by decide) (by decide) k) ?_
    refine Go.st (f' := (mkF m 10 #[iv p1, rv b1, iv 2, iv 1, rv w_REQUEST] [(.int 1)])) (fun _ k => XS.iloadN X4.here hx rfl (hb hby d1_9) rfl k) ?_
    refine Go.st (f' := (mkF m 11 #[iv p1, rv b1, iv 2, iv 1, rv w_REQUEST] [(.int 2), (.int 1)])) (fun _ k => XS.iloadN X4.here hx rfl (hb hby d1_10) rfl k) ?_
    refine Go.st (f' := (mkF m 14 #[iv p1, rv b1, iv 2, iv 1, rv w_REQUEST] [])) (fun _ k => XS.icmpNo X4.here hx rfl (hb hby d1_11) rfl (by decide) k) ?_
    refine Go.st (f' := (mkF m 15 #[iv p1, rv b1, iv 2, iv 1, rv w_REQUEST] [(.ref b1)])) (fun _ k => XS.aloadN X4.here hx rfl (hb hby d1_14) rfl rfl k) ?_
    refine Go.st (f' := (mkF m 16 #[iv p1, rv b1, iv 2, iv 1, rv w_REQUEST] [(.int 1), (.ref b1)])) (fun _ k => XS.iloadN X4.here hx rfl (hb hby d1_15) rfl k) ?_
    obtain ⟨cl6, Ar6, -, S6, -, H6, -⟩ := id vq1
    have hin6 : ¬ ((1 : Int32) < 0 ∨ cl6.slots.size ≤ ((1 : Int32)).toNatClampNeg) := inb_of S6 ⟨by decide, by decide⟩
    have hat6 : cl6.slots[((1 : Int32)).toNatClampNeg]? = some (.ref w_RESPONSE) := H6.at hin6 rfl
    refine Go.st (f' := (mkF m 17 #[iv p1, rv b1, iv 2, iv 1, rv w_REQUEST] [(.ref w_RESPONSE)])) (fun _ k => X4.aaload hx (j := (1 : Int32)) (v := (.ref w_RESPONSE)) (by rw [e4]; exact Ar6.1) (State.isArrayOf_alike hZ.alike Ar6.2.1) rfl Ar6.2.2 hin6 hat6 (g := (mkF m 16 #[iv p1, rv b1, iv 2, iv 1, rv w_REQUEST] [(.int 1), (.ref b1)])) rfl rfl (hb hby d1_16) _ k) ?_
    refine Go.st (f' := (mkF m 19 #[iv p1, rv b1, iv 2, iv 1, rv w_RESPONSE] [])) (fun _ k => XS.astore X4.here hx rfl (hb hby d1_17) rfl rfl (l' := #[iv p1, rv b1, iv 2, iv 1, rv w_RESPONSE]) rfl k) ?_
    refine Go.st (f' := (mkF m 21 #[iv p1, rv b1, iv 2, iv 1, rv w_RESPONSE] [(.ref w_RESPONSE)])) (fun _ k => XS.aload X4.here hx rfl (hb hby d1_19) rfl rfl k) ?_
    obtain ⟨T7, X7, e7, st7⟩ := getF X4 hx hZ hown (host := "") (Or.inl (hw _ (List.mem_of_getElem? (i := 21) rfl))) Via.refl e4 (F_w_RESPONSE_code.ext O1.2) (g := (mkF m 21 #[iv p1, rv b1, iv 2, iv 1, rv w_RESPONSE] [(.ref w_RESPONSE)])) rfl rfl (hb hby d1_21)
    refine Go.st (f' := (mkF m 24 #[iv p1, rv b1, iv 2, iv 1, rv w_RESPONSE] [(.int 2)])) (fun _ k => st7 _ k) ?_
    refine Go.st (f' := (mkF m 25 #[iv p1, rv b1, iv 2, iv 1, rv w_RESPONSE] [(.int p1), (.int 2)])) (fun _ k => XS.iloadN X7.here hx rfl (hb hby d1_24) rfl k) ?_
    by_cases cd8 : (2 : Int32) = p1
    · refine Go.st (f' := (mkF m 28 #[iv p1, rv b1, iv 2, iv 1, rv w_RESPONSE] [])) (fun _ k => XS.icmpNo X7.here hx rfl (hb hby d1_25) rfl (teq cd8).2 k) ?_
      refine Go.st (f' := (mkF m 30 #[iv p1, rv b1, iv 2, iv 1, rv w_RESPONSE] [(.ref w_RESPONSE)])) (fun _ k => XS.aload X7.here hx rfl (hb hby d1_28) rfl rfl k) ?_
      refine Go.retV X7 hlk hx (t := (.object "com/example/wirecall/wirecall/wire/FrameKind")) hret rfl (Or.inr (Or.inr (Or.inr (Or.inr ⟨rfl, rfl, rfl⟩)))) (hb hby d1_30) e7 ?_ (by decide) (by decide)
      show (some (.ref w_RESPONSE) : Option Value) = some (ofV p1 w_REQUEST w_RESPONSE) ∧ _
      exact ⟨by rw [ofV, if_neg cd5, if_pos cd8], N1, K1⟩
    · refine Go.st (f' := (mkF m 31 #[iv p1, rv b1, iv 2, iv 1, rv w_RESPONSE] [])) (fun _ k => XS.icmpYes X7.here hx rfl (pc0 := 25) (pc' := 31) rfl (hb hby d1_25) rfl (feq cd8).2 (by decide) (by decide) k) ?_
      refine Go.st (f' := (mkF m 34 #[iv p1, rv b1, iv 2, iv 2, rv w_RESPONSE] [])) (fun _ k => XS.iinc X7.here hx rfl (hb hby d1_31) rfl (l' := #[iv p1, rv b1, iv 2, iv 2, rv w_RESPONSE]) rfl k) ?_
      refine Go.st (f' := (mkF m 9 #[iv p1, rv b1, iv 2, iv 2, rv w_RESPONSE] [])) (fun _ k => XS.goto X7.here hx rfl (pc0 := 34) (pc' := 9) rfl (hb hby d1_34) (by decide) (by decide) k) ?_
      refine Go.st (f' := (mkF m 10 #[iv p1, rv b1, iv 2, iv 2, rv w_RESPONSE] [(.int 2)])) (fun _ k => XS.iloadN X7.here hx rfl (hb hby d1_9) rfl k) ?_
      refine Go.st (f' := (mkF m 11 #[iv p1, rv b1, iv 2, iv 2, rv w_RESPONSE] [(.int 2), (.int 2)])) (fun _ k => XS.iloadN X7.here hx rfl (hb hby d1_10) rfl k) ?_
      refine Go.st (f' := (mkF m 37 #[iv p1, rv b1, iv 2, iv 2, rv w_RESPONSE] [])) (fun _ k => XS.icmpYes X7.here hx rfl (pc0 := 11) (pc' := 37) rfl (hb hby d1_11) rfl (by decide) (by decide) (by decide) k) ?_
      refine Go.st (f' := (mkF m 38 #[iv p1, rv b1, iv 2, iv 2, rv w_RESPONSE] [.null])) (fun _ k => XS.aconstNull X7.here hx rfl (hb hby d1_37) k) ?_
      refine Go.retV X7 hlk hx (t := (.object "com/example/wirecall/wirecall/wire/FrameKind")) hret rfl (Or.inr (Or.inr (Or.inr (Or.inr ⟨rfl, rfl, rfl⟩)))) (hb hby d1_38) e7 ?_ (by decide) (by decide)
      show (some .null : Option Value) = some (ofV p1 w_REQUEST w_RESPONSE) ∧ _
      exact ⟨by rw [ofV, if_neg cd5, if_neg cd8], N1, K1⟩
theorem pn_com_example_wirecall_wirecall_wire_FrameKindOfCodePinLaw : plainName "com/example/wirecall/wirecall/wire/FrameKindOfCodePinLaw" = true := by first | (simp [plainName, overriddenIn]; done) | decide +kernel
theorem pd__B_Lcom_example_wirecall_wirecall_wire_FrameKind_ : parseMethodDescriptor "(B)Lcom/example/wirecall/wirecall/wire/FrameKind;" = some ⟨[.byte], some (.object "com/example/wirecall/wirecall/wire/FrameKind")⟩ := by decide +kernel
set_option maxRecDepth 65536 in
set_option maxHeartbeats 40000000 in
theorem rm0 (l : Launch) (Z : State) (a0 : Array Value) (hw : ∀ d ∈ tables_1, d.before a0 Z = true) (ws : List Jvm.Cond) (p1 : Int32) (w__VALUES : Addr) (w_REQUEST : Addr) (w_RESPONSE : Addr) (k__VALUES : ClassId) (h0 : Heap) (n0 : Nat) (O0 : Old Z n0 h0) (WW : World1 Z w__VALUES w_REQUEST w_RESPONSE k__VALUES) :
    MetFree l x (head1 (Jvm.Cond.code x code maxLocals ret :: ws) room_1) (fun a U => a = #[(.int p1)] ∧ Z.Warmed39 U.vm ∧ U.heap = h0) (fun _ _ _ _ _ => True) (fun _ U o U' => ∃ v L, o = .returned v ∧ (fun v h L => v = some (.int (1 : Int32)) ∧ Fr n0 L) v U'.heap L ∧ FrameEnd U o U' L 16 128) := by
  refine MetFree.of_bodySF (plainFor_of_name pn_com_example_wirecall_wirecall_wire_FrameKindOfCodePinLaw) hisR ?_
  intro p e s m args below meth c s₁ Bd hml0 hP hK
  obtain ⟨rfl, hZ, hh⟩ := hP
  have hx := Bd.exec
  have hby := Bd.bytes
  have hml : c.maxLocals = 4 := hml0
  have hlk := Bd.notSynchronized
  have hret := Bd.returns
  have hown : s.vm.findClass "com/example/wirecall/wirecall/wire/FrameKindOfCodePinLaw" = some m.cls := findClass_of_methodNamed Bd.named
  have hnm := (name_of_methodNamed Bd.named Bd.method).1
  have X0 : Stand p l e room_1 s m #[(.int p1)] below meth c s₁ [] 0 0 := Stand.of_body Bd
  have e0 : s₁.heap = h0 := by rw [← hh, Bd.state]; rfl
  show Go p e below (Done s (fun v h L => v = some (.int (1 : Int32)) ∧ Fr n0 L) 16 128) s₁ _
  have N0 := Fr.nil n0
  refine Go.st (T' := s₁) (f' := (mkF m 0 #[iv p1, .unset, .unset, .unset] [])) (fun _ k => castTop (by first | (simp [entryFrame, mkF, argsToLocals, Value.category, maxLocals]; done) | rfl) k) ?_
  have ⟨S_w__VALUES, E_w__VALUES, S_w_REQUEST, E_w_REQUEST, S_w_RESPONSE, E_w_RESPONSE, F_w_REQUEST_code, F_w_RESPONSE_code, V_w__VALUES⟩ := WW
  have lt_w__VALUES := E_w__VALUES.lt
  have lt_w_REQUEST := E_w_REQUEST.lt
  have lt_w_RESPONSE := E_w_RESPONSE.lt
  refine Go.st (f' := (mkF m 1 #[iv p1, .unset, .unset, .unset] [(.int p1)])) (fun _ k => XS.iloadN X0.here hx rfl (hb hby at_0) rfl k) ?_
  refine Go.st (f' := (mkF m 2 #[iv p1, .unset, .unset, .unset] [(.int (p1.toInt8.toInt32))])) (fun _ k => XS.i2b X0.here hx rfl (hb hby at_1) rfl k) ?_
  refine Go.st (f' := (mkF m 3 #[iv p1, .val (.int (p1.toInt8.toInt32)), .unset, .unset] [])) (fun _ k => XS.istoreN X0.here hx rfl (hb hby at_2) rfl (l' := #[iv p1, .val (.int (p1.toInt8.toInt32)), .unset, .unset]) rfl k) ?_
  refine Go.st (f' := (mkF m 4 #[iv p1, .val (.int (p1.toInt8.toInt32)), .unset, .unset] [(.int (p1.toInt8.toInt32))])) (fun _ k => XS.iloadN X0.here hx rfl (hb hby at_3) rfl k) ?_
  refine Go.st (f' := (mkF m 5 #[iv p1, .val (.int (p1.toInt8.toInt32)), .unset, .unset] [(.int 1), (.int (p1.toInt8.toInt32))])) (fun _ k => XS.iconst X0.here hx rfl (hb hby at_4) k) ?_
  by_cases cd1 : (p1.toInt8.toInt32) = (1 : Int32)
  · refine Go.st (f' := (mkF m 8 #[iv p1, .val (.int (p1.toInt8.toInt32)), .unset, .unset] [])) (fun _ k => XS.icmpNo X0.here hx rfl (hb hby at_5) rfl (teq cd1).2 k) ?_
    obtain ⟨T2, X2, e2, st2⟩ := getS2 X0 hx hZ hown (host := "") (Or.inl (hw _ (List.mem_of_getElem? (i := 24) rfl))) Via.refl e0 (S_w_REQUEST.ext O0.2) (g := (mkF m 8 #[iv p1, .val (.int (p1.toInt8.toInt32)), .unset, .unset] [])) rfl (hb hby at_8)
    refine Go.st (f' := (mkF m 11 #[iv p1, .val (.int (p1.toInt8.toInt32)), .unset, .unset] [(.ref w_REQUEST)])) (fun _ k => st2 _ k) ?_
    refine Go.st (f' := (mkF m 12 #[iv p1, .val (.int (p1.toInt8.toInt32)), rv w_REQUEST, .unset] [])) (fun _ k => XS.astoreN X2.here hx rfl (hb hby at_11) rfl rfl (l' := #[iv p1, .val (.int (p1.toInt8.toInt32)), rv w_REQUEST, .unset]) rfl k) ?_
    refine Go.st (f' := (mkF m 29 #[iv p1, .val (.int (p1.toInt8.toInt32)), rv w_REQUEST, .unset] [])) (fun _ k => XS.goto X2.here hx rfl (pc0 := 12) (pc' := 29) rfl (hb hby at_12) (by decide) (by decide) k) ?_
    refine Go.st (f' := (mkF m 30 #[iv p1, .val (.int (p1.toInt8.toInt32)), rv w_REQUEST, .unset] [(.int (p1.toInt8.toInt32))])) (fun _ k => XS.iloadN X2.here hx rfl (hb hby at_29) rfl k) ?_
    obtain ⟨_, _, ⟨T3, L3, kk3, nn3⟩, -, X3, ⟨Lc3, hQ3, lq3, yq3, zz3⟩, st3⟩ := Jvm.LawKit.callS X2 hx (y := (⟨"com/example/wirecall/wirecall/wire/FrameKind", "ofCode", "(B)Lcom/example/wirecall/wirecall/wire/FrameKind;"⟩ : MethodName)) hown (mvT hZ (hw _ (List.mem_of_getElem? (i := 0) rfl))) (mvT hZ (hw _ (List.mem_of_getElem? (i := 1) rfl))) (mvT hZ (hw _ (List.mem_of_getElem? (i := 2) rfl))) (mvT hZ (hw _ (List.mem_of_getElem? (i := 3) rfl))) (by decide) (own_back (W := 0) (rmC l Z a0 hw [] (p1.toInt8.toInt32) w__VALUES w_REQUEST w_RESPONSE k__VALUES h0 n0 O0 WW) hZ (hw _ (List.mem_of_getElem? (i := 3) rfl)) (hw _ (List.mem_of_getElem? (i := 2) rfl)) (by decide) (by decide)) (g := (mkF m 30 #[iv p1, .val (.int (p1.toInt8.toInt32)), rv w_REQUEST, .unset] [(.int (p1.toInt8.toInt32))])) rfl (by rw [hml]; rfl) (argsL := [(.int (p1.toInt8.toInt32))]) (rest := []) (lenOf pd__B_Lcom_example_wirecall_wirecall_wire_FrameKind_ rfl) rfl (by show 2 * 0 + _ ≤ _; exact Nat.le_of_eq rfl) (hb hby at_30) (fun _ _ => ⟨rfl, e2, (by decide : 0 + 1 ≤ _), (by decide : 0 + 2 ≤ _)⟩)
    dsimp only [Pt.U, Pt.locs, Pt.cells, Pt.slots] at X3 lq3 yq3 zz3 st3 hQ3
    subst lq3 yq3 zz3
    obtain ⟨rfl, Nq3, kq3⟩ := hQ3
    have N3 := Fr.app N0 Nq3
    have O3 : Old Z n0 T3.heap := O0.keep kq3 all0
    refine Go.st (f' := (mkF m 33 #[iv p1, .val (.int (p1.toInt8.toInt32)), rv w_REQUEST, .unset] [(ofV (p1.toInt8.toInt32) w_REQUEST w_RESPONSE)])) (fun _ k => st3 _ k) ?_
    refine Go.st (f' := (mkF m 34 #[iv p1, .val (.int (p1.toInt8.toInt32)), rv w_REQUEST, .val (ofV (p1.toInt8.toInt32) w_REQUEST w_RESPONSE)] [])) (fun _ k => XS.astoreN X3.here hx rfl (hb hby at_33) rfl (ofV_ref _ _ _) (l' := #[iv p1, .val (.int (p1.toInt8.toInt32)), rv w_REQUEST, .val (ofV (p1.toInt8.toInt32) w_REQUEST w_RESPONSE)]) (XS.store1 rfl (Or.inl rfl) (own_cat (ofV_ref _ _ _))) k) ?_
    refine Go.st (f' := (mkF m 35 #[iv p1, .val (.int (p1.toInt8.toInt32)), rv w_REQUEST, .val (ofV (p1.toInt8.toInt32) w_REQUEST w_RESPONSE)] [(ofV (p1.toInt8.toInt32) w_REQUEST w_RESPONSE)])) (fun _ k => XS.aloadN X3.here hx rfl (hb hby at_34) rfl (ofV_ref _ _ _) k) ?_
    refine Go.st (f' := (mkF m 36 #[iv p1, .val (.int (p1.toInt8.toInt32)), rv w_REQUEST, .val (ofV (p1.toInt8.toInt32) w_REQUEST w_RESPONSE)] [(.ref w_REQUEST), (ofV (p1.toInt8.toInt32) w_REQUEST w_RESPONSE)])) (fun _ k => XS.aloadN X3.here hx rfl (hb hby at_35) rfl rfl k) ?_
    refine Go.st (f' := (mkF m 39 #[iv p1, .val (.int (p1.toInt8.toInt32)), rv w_REQUEST, .val (ofV (p1.toInt8.toInt32) w_REQUEST w_RESPONSE)] [])) (fun _ k => Jvm.RoadKit.acmp (g := (mkF m 36 #[iv p1, .val (.int (p1.toInt8.toInt32)), rv w_REQUEST, .val (ofV (p1.toInt8.toInt32) w_REQUEST w_RESPONSE)] [(.ref w_REQUEST), (ofV (p1.toInt8.toInt32) w_REQUEST w_RESPONSE)])) X3 hx rfl (ofV_ref _ _ _) rfl (pc0 := 36) (pc' := 39) (same := true) rfl (hb hby at_36) rfl (decide_eq_true (by rw [ofV, if_pos cd1.symm])) (by decide) (by decide) k) ?_
    refine Go.st (f' := (mkF m 40 #[iv p1, .val (.int (p1.toInt8.toInt32)), rv w_REQUEST, .val (ofV (p1.toInt8.toInt32) w_REQUEST w_RESPONSE)] [(.int 1)])) (fun _ k => XS.iconst X3.here hx rfl (hb hby at_39) k) ?_
    refine Go.st (f' := (mkF m 44 #[iv p1, .val (.int (p1.toInt8.toInt32)), rv w_REQUEST, .val (ofV (p1.toInt8.toInt32) w_REQUEST w_RESPONSE)] [(.int 1)])) (fun _ k => XS.goto X3.here hx rfl (pc0 := 40) (pc' := 44) rfl (hb hby at_40) (by decide) (by decide) k) ?_
    refine Go.retB X3 hlk hx (t := .boolean) hret (by simp) (hb hby at_44) rfl ?_ (by decide) (by decide)
    exact ⟨rfl, N3⟩
  · refine Go.st (f' := (mkF m 15 #[iv p1, .val (.int (p1.toInt8.toInt32)), .unset, .unset] [])) (fun _ k => XS.icmpYes X0.here hx rfl (pc0 := 5) (pc' := 15) rfl (hb hby at_5) rfl (feq cd1).2 (by decide) (by decide) k) ?_
    refine Go.st (f' := (mkF m 16 #[iv p1, .val (.int (p1.toInt8.toInt32)), .unset, .unset] [(.int (p1.toInt8.toInt32))])) (fun _ k => XS.iloadN X0.here hx rfl (hb hby at_15) rfl k) ?_
    refine Go.st (f' := (mkF m 17 #[iv p1, .val (.int (p1.toInt8.toInt32)), .unset, .unset] [(.int 2), (.int (p1.toInt8.toInt32))])) (fun _ k => XS.iconst X0.here hx rfl (hb hby at_16) k) ?_
    by_cases cd4 : (p1.toInt8.toInt32) = (2 : Int32)
    · refine Go.st (f' := (mkF m 20 #[iv p1, .val (.int (p1.toInt8.toInt32)), .unset, .unset] [])) (fun _ k => XS.icmpNo X0.here hx rfl (hb hby at_17) rfl (teq cd4).2 k) ?_
      obtain ⟨T5, X5, e5, st5⟩ := getS2 X0 hx hZ hown (host := "") (Or.inl (hw _ (List.mem_of_getElem? (i := 23) rfl))) Via.refl e0 (S_w_RESPONSE.ext O0.2) (g := (mkF m 20 #[iv p1, .val (.int (p1.toInt8.toInt32)), .unset, .unset] [])) rfl (hb hby at_20)
      refine Go.st (f' := (mkF m 23 #[iv p1, .val (.int (p1.toInt8.toInt32)), .unset, .unset] [(.ref w_RESPONSE)])) (fun _ k => st5 _ k) ?_
      refine Go.st (f' := (mkF m 24 #[iv p1, .val (.int (p1.toInt8.toInt32)), rv w_RESPONSE, .unset] [])) (fun _ k => XS.astoreN X5.here hx rfl (hb hby at_23) rfl rfl (l' := #[iv p1, .val (.int (p1.toInt8.toInt32)), rv w_RESPONSE, .unset]) rfl k) ?_
      refine Go.st (f' := (mkF m 29 #[iv p1, .val (.int (p1.toInt8.toInt32)), rv w_RESPONSE, .unset] [])) (fun _ k => XS.goto X5.here hx rfl (pc0 := 24) (pc' := 29) rfl (hb hby at_24) (by decide) (by decide) k) ?_
      refine Go.st (f' := (mkF m 30 #[iv p1, .val (.int (p1.toInt8.toInt32)), rv w_RESPONSE, .unset] [(.int (p1.toInt8.toInt32))])) (fun _ k => XS.iloadN X5.here hx rfl (hb hby at_29) rfl k) ?_
      obtain ⟨_, _, ⟨T6, L6, kk6, nn6⟩, -, X6, ⟨Lc6, hQ6, lq6, yq6, zz6⟩, st6⟩ := Jvm.LawKit.callS X5 hx (y := (⟨"com/example/wirecall/wirecall/wire/FrameKind", "ofCode", "(B)Lcom/example/wirecall/wirecall/wire/FrameKind;"⟩ : MethodName)) hown (mvT hZ (hw _ (List.mem_of_getElem? (i := 0) rfl))) (mvT hZ (hw _ (List.mem_of_getElem? (i := 1) rfl))) (mvT hZ (hw _ (List.mem_of_getElem? (i := 2) rfl))) (mvT hZ (hw _ (List.mem_of_getElem? (i := 3) rfl))) (by decide) (own_back (W := 0) (rmC l Z a0 hw [] (p1.toInt8.toInt32) w__VALUES w_REQUEST w_RESPONSE k__VALUES h0 n0 O0 WW) hZ (hw _ (List.mem_of_getElem? (i := 3) rfl)) (hw _ (List.mem_of_getElem? (i := 2) rfl)) (by decide) (by decide)) (g := (mkF m 30 #[iv p1, .val (.int (p1.toInt8.toInt32)), rv w_RESPONSE, .unset] [(.int (p1.toInt8.toInt32))])) rfl (by rw [hml]; rfl) (argsL := [(.int (p1.toInt8.toInt32))]) (rest := []) (lenOf pd__B_Lcom_example_wirecall_wirecall_wire_FrameKind_ rfl) rfl (by show 2 * 0 + _ ≤ _; exact Nat.le_of_eq rfl) (hb hby at_30) (fun _ _ => ⟨rfl, e5, (by decide : 0 + 1 ≤ _), (by decide : 0 + 2 ≤ _)⟩)
      dsimp only [Pt.U, Pt.locs, Pt.cells, Pt.slots] at X6 lq6 yq6 zz6 st6 hQ6
      subst lq6 yq6 zz6
      obtain ⟨rfl, Nq6, kq6⟩ := hQ6
      have N6 := Fr.app N0 Nq6
      have O6 : Old Z n0 T6.heap := O0.keep kq6 all0
      refine Go.st (f' := (mkF m 33 #[iv p1, .val (.int (p1.toInt8.toInt32)), rv w_RESPONSE, .unset] [(ofV (p1.toInt8.toInt32) w_REQUEST w_RESPONSE)])) (fun _ k => st6 _ k) ?_
      refine Go.st (f' := (mkF m 34 #[iv p1, .val (.int (p1.toInt8.toInt32)), rv w_RESPONSE, .val (ofV (p1.toInt8.toInt32) w_REQUEST w_RESPONSE)] [])) (fun _ k => XS.astoreN X6.here hx rfl (hb hby at_33) rfl (ofV_ref _ _ _) (l' := #[iv p1, .val (.int (p1.toInt8.toInt32)), rv w_RESPONSE, .val (ofV (p1.toInt8.toInt32) w_REQUEST w_RESPONSE)]) (XS.store1 rfl (Or.inl rfl) (own_cat (ofV_ref _ _ _))) k) ?_
      refine Go.st (f' := (mkF m 35 #[iv p1, .val (.int (p1.toInt8.toInt32)), rv w_RESPONSE, .val (ofV (p1.toInt8.toInt32) w_REQUEST w_RESPONSE)] [(ofV (p1.toInt8.toInt32) w_REQUEST w_RESPONSE)])) (fun _ k => XS.aloadN X6.here hx rfl (hb hby at_34) rfl (ofV_ref _ _ _) k) ?_
      refine Go.st (f' := (mkF m 36 #[iv p1, .val (.int (p1.toInt8.toInt32)), rv w_RESPONSE, .val (ofV (p1.toInt8.toInt32) w_REQUEST w_RESPONSE)] [(.ref w_RESPONSE), (ofV (p1.toInt8.toInt32) w_REQUEST w_RESPONSE)])) (fun _ k => XS.aloadN X6.here hx rfl (hb hby at_35) rfl rfl k) ?_
      refine Go.st (f' := (mkF m 39 #[iv p1, .val (.int (p1.toInt8.toInt32)), rv w_RESPONSE, .val (ofV (p1.toInt8.toInt32) w_REQUEST w_RESPONSE)] [])) (fun _ k => Jvm.RoadKit.acmp (g := (mkF m 36 #[iv p1, .val (.int (p1.toInt8.toInt32)), rv w_RESPONSE, .val (ofV (p1.toInt8.toInt32) w_REQUEST w_RESPONSE)] [(.ref w_RESPONSE), (ofV (p1.toInt8.toInt32) w_REQUEST w_RESPONSE)])) X6 hx rfl (ofV_ref _ _ _) rfl (pc0 := 36) (pc' := 39) (same := true) rfl (hb hby at_36) rfl (decide_eq_true (by rw [ofV, if_neg (Ne.symm cd1), if_pos cd4.symm])) (by decide) (by decide) k) ?_
      refine Go.st (f' := (mkF m 40 #[iv p1, .val (.int (p1.toInt8.toInt32)), rv w_RESPONSE, .val (ofV (p1.toInt8.toInt32) w_REQUEST w_RESPONSE)] [(.int 1)])) (fun _ k => XS.iconst X6.here hx rfl (hb hby at_39) k) ?_
      refine Go.st (f' := (mkF m 44 #[iv p1, .val (.int (p1.toInt8.toInt32)), rv w_RESPONSE, .val (ofV (p1.toInt8.toInt32) w_REQUEST w_RESPONSE)] [(.int 1)])) (fun _ k => XS.goto X6.here hx rfl (pc0 := 40) (pc' := 44) rfl (hb hby at_40) (by decide) (by decide) k) ?_
      refine Go.retB X6 hlk hx (t := .boolean) hret (by simp) (hb hby at_44) rfl ?_ (by decide) (by decide)
      exact ⟨rfl, N6⟩
    · refine Go.st (f' := (mkF m 27 #[iv p1, .val (.int (p1.toInt8.toInt32)), .unset, .unset] [])) (fun _ k => XS.icmpYes X0.here hx rfl (pc0 := 17) (pc' := 27) rfl (hb hby at_17) rfl (feq cd4).2 (by decide) (by decide) k) ?_
      refine Go.st (f' := (mkF m 28 #[iv p1, .val (.int (p1.toInt8.toInt32)), .unset, .unset] [.null])) (fun _ k => XS.aconstNull X0.here hx rfl (hb hby at_27) k) ?_
      refine Go.st (f' := (mkF m 29 #[iv p1, .val (.int (p1.toInt8.toInt32)), .val .null, .unset] [])) (fun _ k => XS.astoreN X0.here hx rfl (hb hby at_28) rfl rfl (l' := #[iv p1, .val (.int (p1.toInt8.toInt32)), .val .null, .unset]) rfl k) ?_
      refine Go.st (f' := (mkF m 30 #[iv p1, .val (.int (p1.toInt8.toInt32)), .val .null, .unset] [(.int (p1.toInt8.toInt32))])) (fun _ k => XS.iloadN X0.here hx rfl (hb hby at_29) rfl k) ?_
      obtain ⟨_, _, ⟨T7, L7, kk7, nn7⟩, -, X7, ⟨Lc7, hQ7, lq7, yq7, zz7⟩, st7⟩ := Jvm.LawKit.callS X0 hx (y := (⟨"com/example/wirecall/wirecall/wire/FrameKind", "ofCode", "(B)Lcom/example/wirecall/wirecall/wire/FrameKind;"⟩ : MethodName)) hown (mvT hZ (hw _ (List.mem_of_getElem? (i := 0) rfl))) (mvT hZ (hw _ (List.mem_of_getElem? (i := 1) rfl))) (mvT hZ (hw _ (List.mem_of_getElem? (i := 2) rfl))) (mvT hZ (hw _ (List.mem_of_getElem? (i := 3) rfl))) (by decide) (own_back (W := 0) (rmC l Z a0 hw [] (p1.toInt8.toInt32) w__VALUES w_REQUEST w_RESPONSE k__VALUES h0 n0 O0 WW) hZ (hw _ (List.mem_of_getElem? (i := 3) rfl)) (hw _ (List.mem_of_getElem? (i := 2) rfl)) (by decide) (by decide)) (g := (mkF m 30 #[iv p1, .val (.int (p1.toInt8.toInt32)), .val .null, .unset] [(.int (p1.toInt8.toInt32))])) rfl (by rw [hml]; rfl) (argsL := [(.int (p1.toInt8.toInt32))]) (rest := []) (lenOf pd__B_Lcom_example_wirecall_wirecall_wire_FrameKind_ rfl) rfl (by show 2 * 0 + _ ≤ _; exact Nat.le_of_eq rfl) (hb hby at_30) (fun _ _ => ⟨rfl, e0, (by decide : 0 + 1 ≤ _), (by decide : 0 + 2 ≤ _)⟩)
      dsimp only [Pt.U, Pt.locs, Pt.cells, Pt.slots] at X7 lq7 yq7 zz7 st7 hQ7
      subst lq7 yq7 zz7
      obtain ⟨rfl, Nq7, kq7⟩ := hQ7
      have N7 := Fr.app N0 Nq7
      have O7 : Old Z n0 T7.heap := O0.keep kq7 all0
      refine Go.st (f' := (mkF m 33 #[iv p1, .val (.int (p1.toInt8.toInt32)), .val .null, .unset] [(ofV (p1.toInt8.toInt32) w_REQUEST w_RESPONSE)])) (fun _ k => st7 _ k) ?_
      refine Go.st (f' := (mkF m 34 #[iv p1, .val (.int (p1.toInt8.toInt32)), .val .null, .val (ofV (p1.toInt8.toInt32) w_REQUEST w_RESPONSE)] [])) (fun _ k => XS.astoreN X7.here hx rfl (hb hby at_33) rfl (ofV_ref _ _ _) (l' := #[iv p1, .val (.int (p1.toInt8.toInt32)), .val .null, .val (ofV (p1.toInt8.toInt32) w_REQUEST w_RESPONSE)]) (XS.store1 rfl (Or.inl rfl) (own_cat (ofV_ref _ _ _))) k) ?_
      refine Go.st (f' := (mkF m 35 #[iv p1, .val (.int (p1.toInt8.toInt32)), .val .null, .val (ofV (p1.toInt8.toInt32) w_REQUEST w_RESPONSE)] [(ofV (p1.toInt8.toInt32) w_REQUEST w_RESPONSE)])) (fun _ k => XS.aloadN X7.here hx rfl (hb hby at_34) rfl (ofV_ref _ _ _) k) ?_
      refine Go.st (f' := (mkF m 36 #[iv p1, .val (.int (p1.toInt8.toInt32)), .val .null, .val (ofV (p1.toInt8.toInt32) w_REQUEST w_RESPONSE)] [.null, (ofV (p1.toInt8.toInt32) w_REQUEST w_RESPONSE)])) (fun _ k => XS.aloadN X7.here hx rfl (hb hby at_35) rfl rfl k) ?_
      refine Go.st (f' := (mkF m 39 #[iv p1, .val (.int (p1.toInt8.toInt32)), .val .null, .val (ofV (p1.toInt8.toInt32) w_REQUEST w_RESPONSE)] [])) (fun _ k => Jvm.RoadKit.acmp (g := (mkF m 36 #[iv p1, .val (.int (p1.toInt8.toInt32)), .val .null, .val (ofV (p1.toInt8.toInt32) w_REQUEST w_RESPONSE)] [.null, (ofV (p1.toInt8.toInt32) w_REQUEST w_RESPONSE)])) X7 hx rfl (ofV_ref _ _ _) rfl (pc0 := 36) (pc' := 39) (same := true) rfl (hb hby at_36) rfl (decide_eq_true (by rw [ofV, if_neg (Ne.symm cd1), if_neg (Ne.symm cd4)])) (by decide) (by decide) k) ?_
      refine Go.st (f' := (mkF m 40 #[iv p1, .val (.int (p1.toInt8.toInt32)), .val .null, .val (ofV (p1.toInt8.toInt32) w_REQUEST w_RESPONSE)] [(.int 1)])) (fun _ k => XS.iconst X7.here hx rfl (hb hby at_39) k) ?_
      refine Go.st (f' := (mkF m 44 #[iv p1, .val (.int (p1.toInt8.toInt32)), .val .null, .val (ofV (p1.toInt8.toInt32) w_REQUEST w_RESPONSE)] [(.int 1)])) (fun _ k => XS.goto X7.here hx rfl (pc0 := 40) (pc' := 44) rfl (hb hby at_40) (by decide) (by decide) k) ?_
      refine Go.retB X7 hlk hx (t := .boolean) hret (by simp) (hb hby at_44) rfl ?_ (by decide) (by decide)
      exact ⟨rfl, N7⟩
set_option maxRecDepth 65536 in
set_option maxHeartbeats 40000000 in
theorem comes_1 {Post : Tables → Env → Array Value → State → Outcome → State → Prop} (hpost : ∀ tb e args s v u, (limb_1_1.after args s (.returned v) u = true ∧ limb_1_2.after args s (.returned v) u = true ∧ True) → FrameEnd s (.returned v) u (Jvm.fieldLocs frame_1_writes args s ++ Jvm.arrayLocs frame_1_arrays args s ++ Jvm.staticLocs frame_1_statics s) 16 128 → Post tb e args s (.returned v) u) :
    ArmFor flags0 classFile x code maxLocals ret World_1 tables_1 room_1 Calls_1 rest_1 Pre_1 Post := by
  intro l hfl _ _ p e ha hc hk s m args below hf hA hF happ hP
  obtain ⟨hcalls, hrest, hpre⟩ := hP
  obtain ⟨-, -, -, hnamed, -, -, -, hat⟩ := (Spec.applies_iff hf).mp happ
  obtain ⟨hg, hn⟩ := and_e (Cond.before_iff.mp (show (Jvm.Cond.and given_1 narrow_1).before args s = true from hpre))
  obtain ⟨g1, g2⟩ := and_e hg
  obtain ⟨v0, rfl⟩ : ∃ v0 : Value, args = #[v0] := by
    have hs : args.size = 1 := by simpa [Cond.value, given_1] using g1
    obtain ⟨L⟩ := args
    match L, hs with
    | [v0], _ => exact ⟨v0, rfl⟩
  have hw := fun d (hd : d ∈ tables_1) => atoms_spec (ws := Jvm.Cond.code x code maxLocals ret :: tables_1) hat d (List.mem_cons_of_mem _ hd)
  have hfit : Fit s := fun {y c} hc i hi => by
    obtain ⟨ha, rfl⟩ := Array.getElem?_eq_some_iff.mp hc
    have q := List.all_eq_true.mp ((Array.all_eq_true_iff_forall_mem.mp hF) _ (Array.getElem_mem ha)) i (List.mem_range.mpr hi)
    simpa [Array.getElem?_eq_getElem hi] using q
  obtain ⟨i0, ei0⟩ := is_v g2
  obtain rfl : v0 = (.int i0) := Option.some.inj ei0
  obtain ⟨q1, q2⟩ := and_e hn
  obtain ⟨q3, q4⟩ := and_e q2
  obtain ⟨q5, q6⟩ := and_e q4
  obtain ⟨q7, q8⟩ := and_e q6
  obtain ⟨q9, q10⟩ := and_e q8
  obtain ⟨q11, q12⟩ := and_e q10
  obtain ⟨q13, q14⟩ := and_e q12
  obtain ⟨q15, q16⟩ := and_e q14
  obtain ⟨w__VALUES, ev_w__VALUES⟩ := exa_v q3
  obtain ⟨w_REQUEST, ev_w_REQUEST⟩ := exa_v q7
  obtain ⟨w_RESPONSE, ev_w_RESPONSE⟩ := exa_v q11
  have S_w__VALUES := Sta.start ev_w__VALUES (Or.inl (hw _ (List.mem_of_getElem? (i := 18) rfl)))
  have E_w__VALUES := Exa.start ev_w__VALUES q3
  have S_w_REQUEST := Sta.start ev_w_REQUEST (Or.inr ⟨hw _ (List.mem_of_getElem? (i := 2) rfl), hw _ (List.mem_of_getElem? (i := 16) rfl)⟩)
  have E_w_REQUEST := Exa.start ev_w_REQUEST q7
  have S_w_RESPONSE := Sta.start ev_w_RESPONSE (Or.inr ⟨hw _ (List.mem_of_getElem? (i := 2) rfl), hw _ (List.mem_of_getElem? (i := 17) rfl)⟩)
  have E_w_RESPONSE := Exa.start ev_w_RESPONSE q11
  have F_w_REQUEST_code := own_fld q15 ev_w_REQUEST
  have F_w_RESPONSE_code := own_fld q16 ev_w_RESPONSE
  obtain ⟨cl_w__VALUES, Ar_w__VALUES⟩ := Arr.start ev_w__VALUES q1
  obtain ⟨z_w__VALUES, y_w__VALUES⟩ := own_len (own_eq_int q5) ev_w__VALUES Ar_w__VALUES.1
  have V_w__VALUES : Arv s s.heap w__VALUES cl_w__VALUES.cls (Jvm.ClassFile.FieldType.object "com/example/wirecall/wirecall/wire/FrameKind") (2 : Int32) [(.ref w_REQUEST), (.ref w_RESPONSE)] .null := Arv.start hfit Ar_w__VALUES z_w__VALUES y_w__VALUES (by decide) rfl ⟨own_elem q9 ev_w_REQUEST ev_w__VALUES Ar_w__VALUES.1 rfl, own_elem q13 ev_w_RESPONSE ev_w__VALUES Ar_w__VALUES.1 rfl, trivial⟩
  have WW : World1 s w__VALUES w_REQUEST w_RESPONSE cl_w__VALUES.cls   := ⟨S_w__VALUES, E_w__VALUES, S_w_REQUEST, E_w_REQUEST, S_w_RESPONSE, E_w_RESPONSE, F_w_REQUEST_code, F_w_RESPONSE_code, V_w__VALUES⟩
  obtain ⟨n, o, h1, h2, h3, _, L, rfl, ⟨rfl, N⟩, hq⟩ := rm0 l s _ hw tables_1 i0 w__VALUES w_REQUEST w_RESPONSE cl_w__VALUES.cls   s.heap s.heap.size (Old.start s) WW  p e ha hc hk s m _ below hf ((Spec.applies_iff_loose hf).mp happ).1 ⟨rfl, State.Warmed39.refl s, rfl⟩ trivial
  refine ⟨n, _, h1, h2, h3, hpost _ _ _ _ _ _ ⟨Cond.after_iff.mpr rfl, Cond.after_iff.mpr (eq_i res_at (Term.int_eval (1)) rfl), trivial⟩ ⟨hq.1, hq.2.1, (hq.2.2.sift fun y hy => Or.inr (N y hy)).mono (by decide) (by decide)⟩⟩
theorem main_1_1 : Claimed_1_1 := comes_1 fun _ _ _ _ _ _ h hF => ⟨h.1, hF⟩
theorem main_1_2 : Claimed_1_2 := comes_1 fun _ _ _ _ _ _ h hF => ⟨h.2.1, hF⟩
end Jvm.Pilot.@@N@@
namespace Jvm.Pilot.@@N@@
open Jvm Jvm.ClassFile Sem Op Lib Jvm.Free Jvm.Stand Jvm.Pilot.@@N@@.Jvm.D
/-! MADE BY PROGRAM (witnessworld.py) out of the Statement's table words and the real class files: 13 classes; the members and pool entries that the words name. The judged class is class 1, her method 1. -/
namespace start1
open Jvm.ClassFile
def u (s : String) : CpInfo := .utf8 (stringToUtf16 s)
/-- a pool by its gaps: so many unusable entries, then the entry; so many at the end -/
def gap : Nat → List CpInfo → List CpInfo
  | 0, r => r
  | n + 1, r => .unusable :: gap n r
def poolList (es : List (Nat × CpInfo)) (last : Nat) : List CpInfo := es.foldr (fun e r => gap e.1 (e.2 :: r)) (gap last [])
def pool (es : List (Nat × CpInfo)) (last : Nat) : Array CpInfo := ⟨poolList es last⟩
def fileOf (pool : Array CpInfo) (this : Nat) (attrs : Array Attribute := #[]) (ms : Array MethodInfo := #[]) (fl : Nat := 33) (sup : Nat := 0) (ifs : Array Nat := #[]) (fds : Array FieldInfo := #[]) : ClassFile where
  minorVersion := 0
  majorVersion := 65
  constantPool := pool
  accessFlags := fl
  thisClass := this
  superClass := sup
  interfaces := ifs
  fields := fds
  methods := ms
  attributes := attrs
def plain (name : String) (sup : Option ClassId) : Class where
  name := name
  kind := .ordinary
  loader := none
  accessFlags := 33
  super := sup
  interfaces := #[]
  cf := none
  fields := #[]
  methods := #[]
  instanceTypes := #[]
  staticTypes := #[]
  resolved := #[]
  callSites := []
  init := .initialized
  statics := none
  mirror := none

def pool0 : Array CpInfo := pool [(5, u "<init>"), (0, u "()V"), (1, .class_ 10), (1, u "java/lang/Object"), (85, u "clone"), (0, u "()Ljava/lang/Object;")] 26

def k0m0 : Method := { name := "<init>", desc := "()V", sig := { parameters := [], returnType := none }, accessFlags := 1, code := none }
def k0m1 : Method := { name := "clone", desc := "()Ljava/lang/Object;", sig := { parameters := [], returnType := some (.object "java/lang/Object") }, accessFlags := 260, code := none }
/-- java/lang/Object -/
def k0 : Class := { plain "java/lang/Object" none with
  accessFlags := 33
  interfaces := #[]
  cf := some (fileOf pool0 8 #[] #[{ accessFlags := 1, nameIndex := 5, descriptorIndex := 6, attributes := #[] }, { accessFlags := 260, nameIndex := 96, descriptorIndex := 97, attributes := #[] }] 33 0 #[] #[])
  fields := #[]
  methods := #[k0m0, k0m1]
  instanceTypes := #[]
  staticTypes := #[]
  resolved := Array.replicate 124 none
  statics := none }

def pool1 : Array CpInfo := pool [(2, .class_ 4), (1, u "java/lang/Object"), (0, u "<init>"), (0, u "()V"), (0, .fieldref 8 9), (0, .class_ 10), (0, .nameAndType 11 12), (0, u "com/example/wirecall/wirecall/wire/FrameKind"), (0, u "REQUEST"), (0, u "Lcom/example/wirecall/wirecall/wire/FrameKind;"), (0, .fieldref 8 14), (0, .nameAndType 15 12), (0, u "RESPONSE"), (0, .methodref 8 17), (0, .nameAndType 18 19), (0, u "ofCode"), (0, u "(B)Lcom/example/wirecall/wirecall/wire/FrameKind;"), (0, .class_ 21), (0, u "com/example/wirecall/wirecall/wire/FrameKindOfCodePinLaw"), (2, u "law"), (0, u "(I)Z")] 3

def k1m0 : Method := { name := "<init>", desc := "()V", sig := { parameters := [], returnType := none }, accessFlags := 2, code := none }
def k1c1 : Code := { maxStack := 2, maxLocals := 4, code := code, exceptionTable := #[], attributes := #[] }
def k1m1 : Method := { name := "law", desc := "(I)Z", sig := { parameters := [.int], returnType := some .boolean }, accessFlags := 9, code := some k1c1 }
/-- com/example/wirecall/wirecall/wire/FrameKindOfCodePinLaw -/
def k1 : Class := { plain "com/example/wirecall/wirecall/wire/FrameKindOfCodePinLaw" (some 0) with
  accessFlags := 49
  interfaces := #[]
  cf := some (fileOf pool1 20 #[] #[{ accessFlags := 2, nameIndex := 5, descriptorIndex := 6, attributes := #[] }, { accessFlags := 9, nameIndex := 24, descriptorIndex := 25, attributes := #[] }] 49 2 #[] #[])
  fields := #[]
  methods := #[k1m0, k1m1]
  instanceTypes := #[]
  staticTypes := #[]
  resolved := Array.replicate 29 none
  statics := none }

def pool2 : Array CpInfo := pool [(1, .class_ 2), (0, u "java/lang/constant/Constable"), (0, .class_ 4), (0, u "java/lang/Object")] 6

/-- java/lang/constant/Constable -/
def k2 : Class := { plain "java/lang/constant/Constable" (some 0) with
  accessFlags := 1537
  interfaces := #[]
  cf := some (fileOf pool2 1 #[] #[] 1537 3 #[] #[])
  fields := #[]
  methods := #[]
  instanceTypes := #[]
  staticTypes := #[]
  resolved := Array.replicate 11 none
  statics := none }

def pool3 : Array CpInfo := pool [(1, .class_ 2), (0, u "java/lang/Comparable"), (0, .class_ 4), (0, u "java/lang/Object")] 7

/-- java/lang/Comparable -/
def k3 : Class := { plain "java/lang/Comparable" (some 0) with
  accessFlags := 1537
  interfaces := #[]
  cf := some (fileOf pool3 1 #[] #[] 1537 3 #[] #[])
  fields := #[]
  methods := #[]
  instanceTypes := #[]
  staticTypes := #[]
  resolved := Array.replicate 12 none
  statics := none }

def pool4 : Array CpInfo := pool [(1, .class_ 2), (0, u "java/io/Serializable"), (0, .class_ 4), (0, u "java/lang/Object")] 2

/-- java/io/Serializable -/
def k4 : Class := { plain "java/io/Serializable" (some 0) with
  accessFlags := 1537
  interfaces := #[]
  cf := some (fileOf pool4 1 #[] #[] 1537 3 #[] #[])
  fields := #[]
  methods := #[]
  instanceTypes := #[]
  staticTypes := #[]
  resolved := Array.replicate 7 none
  statics := none }

def pool5 : Array CpInfo := pool [(2, .class_ 4), (1, u "java/lang/Enum"), (0, u "name"), (0, u "Ljava/lang/String;"), (2, u "ordinal"), (0, u "I"), (1, .class_ 14), (1, u "java/lang/Object"), (4, u "hash"), (86, .class_ 108), (1, u "java/lang/Enum$EnumDesc"), (2, .class_ 112), (0, u "java/lang/constant/Constable"), (0, .class_ 114), (0, u "java/lang/Comparable"), (0, .class_ 116), (0, u "java/io/Serializable")] 87

/-- java/lang/Enum -/
def k5 : Class := { plain "java/lang/Enum" (some 0) with
  accessFlags := 1057
  interfaces := #[2, 3, 4]
  cf := some (fileOf pool5 2 #[.nestMembers #[106]] #[] 1057 12 #[111, 113, 115] #[{ accessFlags := 18, nameIndex := 5, descriptorIndex := 6, attributes := #[] }, { accessFlags := 18, nameIndex := 9, descriptorIndex := 10, attributes := #[] }, { accessFlags := 2, nameIndex := 19, descriptorIndex := 10, attributes := #[] }])
  fields := #[{ name := "name", type := (.object "java/lang/String"), accessFlags := 18, slot := 0, constantValue := 0 }, { name := "ordinal", type := .int, accessFlags := 18, slot := 1, constantValue := 0 }, { name := "hash", type := .int, accessFlags := 2, slot := 2, constantValue := 0 }]
  methods := #[]
  instanceTypes := #[(.object "java/lang/String"), .int, .int]
  staticTypes := #[]
  resolved := Array.replicate 204 none
  statics := none }

def pool6 : Array CpInfo := pool [(1, .class_ 2), (0, u "com/example/wirecall/wirecall/wire/FrameKind"), (2, u "REQUEST"), (0, u "Lcom/example/wirecall/wirecall/wire/FrameKind;"), (2, u "RESPONSE"), (0, .fieldref 1 11), (0, .nameAndType 12 13), (0, u "$VALUES"), (0, u "[Lcom/example/wirecall/wirecall/wire/FrameKind;"), (0, .methodref 15 16), (0, .class_ 13), (0, .nameAndType 17 18), (0, u "clone"), (0, u "()Ljava/lang/Object;"), (1, .class_ 22), (1, u "java/lang/Enum"), (6, .fieldref 1 30), (0, .nameAndType 31 32), (0, u "code"), (0, u "B"), (0, .methodref 1 34), (0, .nameAndType 35 36), (0, u "values"), (0, u "()[Lcom/example/wirecall/wirecall/wire/FrameKind;"), (15, u "ofCode"), (0, u "(B)Lcom/example/wirecall/wirecall/wire/FrameKind;")] 6

def k6c0 : Code := { maxStack := 1, maxLocals := 0, code := prog_34_method_1_code, exceptionTable := #[], attributes := #[] }
def k6m0 : Method := { name := "values", desc := "()[Lcom/example/wirecall/wirecall/wire/FrameKind;", sig := { parameters := [], returnType := some (.array (.object "com/example/wirecall/wirecall/wire/FrameKind")) }, accessFlags := 9, code := some k6c0 }
def k6c1 : Code := { maxStack := 2, maxLocals := 5, code := prog_34_method_5_code, exceptionTable := #[], attributes := #[] }
def k6m1 : Method := { name := "ofCode", desc := "(B)Lcom/example/wirecall/wirecall/wire/FrameKind;", sig := { parameters := [.byte], returnType := some (.object "com/example/wirecall/wirecall/wire/FrameKind") }, accessFlags := 8, code := some k6c1 }
/-- com/example/wirecall/wirecall/wire/FrameKind -/
def k6 : Class := { plain "com/example/wirecall/wirecall/wire/FrameKind" (some 5) with
  accessFlags := 16433
  interfaces := #[]
  cf := some (fileOf pool6 1 #[] #[{ accessFlags := 9, nameIndex := 35, descriptorIndex := 36, attributes := #[] }, { accessFlags := 8, nameIndex := 52, descriptorIndex := 53, attributes := #[] }] 16433 20 #[] #[{ accessFlags := 16409, nameIndex := 5, descriptorIndex := 6, attributes := #[] }, { accessFlags := 16409, nameIndex := 9, descriptorIndex := 6, attributes := #[] }, { accessFlags := 18, nameIndex := 31, descriptorIndex := 32, attributes := #[] }, { accessFlags := 4122, nameIndex := 12, descriptorIndex := 13, attributes := #[] }])
  fields := #[{ name := "REQUEST", type := (.object "com/example/wirecall/wirecall/wire/FrameKind"), accessFlags := 16409, slot := 0, constantValue := 0 }, { name := "RESPONSE", type := (.object "com/example/wirecall/wirecall/wire/FrameKind"), accessFlags := 16409, slot := 1, constantValue := 0 }, { name := "code", type := .byte, accessFlags := 18, slot := 3, constantValue := 0 }, { name := "$VALUES", type := (.array (.object "com/example/wirecall/wirecall/wire/FrameKind")), accessFlags := 4122, slot := 2, constantValue := 0 }]
  methods := #[k6m0, k6m1]
  instanceTypes := #[(.object "java/lang/String"), .int, .int, .byte]
  staticTypes := #[(.object "com/example/wirecall/wirecall/wire/FrameKind"), (.object "com/example/wirecall/wirecall/wire/FrameKind"), (.array (.object "com/example/wirecall/wirecall/wire/FrameKind"))]
  resolved := Array.replicate 60 none
  statics := some 0 }

def pool7 : Array CpInfo := pool [(1, .class_ 2), (0, u "java/lang/Cloneable"), (0, .class_ 4), (0, u "java/lang/Object")] 2

/-- java/lang/Cloneable -/
def k7 : Class := { plain "java/lang/Cloneable" (some 0) with
  accessFlags := 1537
  interfaces := #[]
  cf := some (fileOf pool7 1 #[] #[] 1537 3 #[] #[])
  fields := #[]
  methods := #[]
  instanceTypes := #[]
  staticTypes := #[]
  resolved := Array.replicate 7 none
  statics := none }

/-- the primitive byte -/
def k8 : Class := { plain "byte" none with kind := .primitive 'B', accessFlags := 0x411 }
/-- [B -/
def k9 : Class := { plain "[B" (some 0) with kind := .array 8 .byte, interfaces := #[7, 4], accessFlags := 1041 }

/-- the primitive int -/
def k10 : Class := { plain "int" none with kind := .primitive 'I', accessFlags := 0x411 }
/-- [I -/
def k11 : Class := { plain "[I" (some 0) with kind := .array 10 .int, interfaces := #[7, 4], accessFlags := 1041 }

/-- [Lcom/example/wirecall/wirecall/wire/FrameKind; -/
def k12 : Class := { plain "[Lcom/example/wirecall/wirecall/wire/FrameKind;" (some 0) with kind := .array 6 (.object "com/example/wirecall/wirecall/wire/FrameKind"), interfaces := #[7, 4], accessFlags := 1041 }

def heap : Heap := #[{ cls := 6, slots := #[.ref 2, .ref 3, .ref 1], vm := .statics 6 },
  { cls := 12, slots := #[.ref 2, .ref 3], vm := .none },
  { cls := 6, slots := #[.null, .int 0, .int 0, .int 1], vm := .none },
  { cls := 6, slots := #[.null, .int 0, .int 0, .int 2], vm := .none }]
def classes : Array Class := #[k0, k1, k2, k3, k4, k5, k6, k7, k8, k9, k10, k11, k12]
def interned : List (Array UInt16 × Addr) := []
def slotsUsed : Nat := 13
def theMethod : MethodId := ⟨1, 1⟩
def args0 : Array Value := #[.int 1]
def aboutOver (below : List Frame) : State where
  vm := { classes := classes, interned := interned.toArray }
  heap := heap
  slotsUsed := slotsUsed
  threads := #[{ frames := .invoking theMethod args0 :: below }]
def below0 : List Frame := [.native { method := ⟨0, 0⟩, args := #[] }]
def about1 : State := aboutOver below0
def p0 : Program := .bare "" "" ""
def e0 : Env := launch0.env 0 0 0
theorem w_frames : about1.frames = Frame.invoking theMethod args0 :: below0 := rfl
set_option maxRecDepth 65536 in
theorem w_args : argsFit about1.vm theMethod args0 = true := by decide +kernel
set_option maxRecDepth 65536 in
theorem w_heap : heapFits about1 = true := by decide +kernel
set_option maxRecDepth 65536 in
theorem w_runnable : about1.curStatus? = some .runnable := by decide +kernel
set_option maxRecDepth 65536 in
theorem w_alone : about1.alone = true := by decide +kernel
set_option maxRecDepth 65536 in
theorem w_named : about1.methodNamed? x = some theMethod := by decide +kernel
set_option maxRecDepth 65536 in
theorem w_hears : about1.hears theMethod below0 = true := by decide +kernel
set_option maxRecDepth 65536 in
theorem w_ripe : about1.ripe theMethod args0 below0 = true := by decide +kernel
theorem w_running : about1.status = .running := rfl
set_option maxRecDepth 65536 in
theorem w_room : about1.hasRoom e0.platform room_1 = true :=
  launch0.hasRoom_least _ room_1 (by decide +kernel) (by decide +kernel) (by decide +kernel) (by decide +kernel) (by decide +kernel) (by decide +kernel)
theorem allAtoms_all (ts : List Jvm.Cond) (a : Array Jvm.Value) (st : Jvm.State) : (allAtoms ts).before a st = ts.all (fun c => c.before a st) := by
  induction ts with
  | nil => rfl
  | cons c t ih =>
    show (Jvm.Cond.and c (allAtoms t)).before a st = _
    rw [Jvm.Cond.before_and, ih, List.all_cons]
def words1 : List Jvm.Cond := Jvm.Cond.code x code maxLocals ret :: tables_1
/-- a 'code' word, met by the world's own term for the bytes: nothing is compared byte by byte -/
theorem code_word {y : MethodName} {bytes : ByteArray} {mx : Nat} {rt : Option FieldType} {a : Array Value} {s : State} {m : MethodId} {meth : Method} {c : Code} (h1 : s.methodNamed? y = some m) (h2 : s.vm.method? m = some meth) (h3 : meth.code = some c) (h4 : c.code = bytes)
    (h5 : (c.maxLocals == mx && c.exceptionTable.isEmpty && decide (c.maxStack ≤ mostOperands) && decide (meth.sig.returnType = rt) && !meth.locks && decide (parseMethodDescriptor y.desc = some meth.sig)) = true) : (Jvm.Cond.code y bytes mx rt).before a s = true := by
  simp only [Bool.and_eq_true, beq_iff_eq, Bool.not_eq_true', decide_eq_true_eq] at h5
  obtain ⟨⟨⟨⟨⟨g1, g2⟩, g3⟩, g4⟩, g5⟩, g6⟩ := h5
  simp [Cond.before, Cond.holds, Cond.value, h1, h2, h3, h4, g1, g2, g3, g4, g5, g6]
def isCode : Jvm.Cond → Bool
  | .code _ _ _ _ => true
  | _ => false
theorem all_split {L : List Jvm.Cond} {P : Jvm.Cond → Bool} (h1 : L.all (fun c => isCode c || P c) = true) (h2 : ∀ c ∈ L.filter isCode, P c = true) : L.all P = true := by
  refine List.all_eq_true.mpr fun c hc => ?_
  have h := List.all_eq_true.mp h1 c hc
  rcases Bool.eq_false_or_eq_true (isCode c) with hi | hi
  · exact h2 c (List.mem_filter.mpr ⟨hc, hi⟩)
  · simpa [hi] using h
set_option maxRecDepth 65536 in
theorem w_c0 : (Jvm.Cond.code x code maxLocals ret).before args0 about1 = true := code_word (m := ⟨1, 1⟩) (meth := k1m1) (c := k1c1) (by decide +kernel) rfl rfl rfl (by decide +kernel)
set_option maxRecDepth 65536 in
theorem w_c1 : (Jvm.Cond.code ({ cls := "com/example/wirecall/wirecall/wire/FrameKind", name := "ofCode", desc := "(B)Lcom/example/wirecall/wirecall/wire/FrameKind;" } : Jvm.MethodName) prog_34_method_5_code (5 : Nat) (Option.some (Jvm.ClassFile.FieldType.object "com/example/wirecall/wirecall/wire/FrameKind"))).before args0 about1 = true := code_word (m := ⟨6, 1⟩) (meth := k6m1) (c := k6c1) (by decide +kernel) rfl rfl rfl (by decide +kernel)
set_option maxRecDepth 65536 in
theorem w_c2 : (Jvm.Cond.code ({ cls := "com/example/wirecall/wirecall/wire/FrameKind", name := "values", desc := "()[Lcom/example/wirecall/wirecall/wire/FrameKind;" } : Jvm.MethodName) prog_34_method_1_code (0 : Nat) (Option.some (Jvm.ClassFile.FieldType.array (Jvm.ClassFile.FieldType.object "com/example/wirecall/wirecall/wire/FrameKind")))).before args0 about1 = true := code_word (m := ⟨6, 0⟩) (meth := k6m0) (c := k6c0) (by decide +kernel) rfl rfl rfl (by decide +kernel)
def codes1 : List Jvm.Cond := [Jvm.Cond.code x code maxLocals ret, Jvm.Cond.code ({ cls := "com/example/wirecall/wirecall/wire/FrameKind", name := "ofCode", desc := "(B)Lcom/example/wirecall/wirecall/wire/FrameKind;" } : Jvm.MethodName) prog_34_method_5_code (5 : Nat) (Option.some (Jvm.ClassFile.FieldType.object "com/example/wirecall/wirecall/wire/FrameKind")), Jvm.Cond.code ({ cls := "com/example/wirecall/wirecall/wire/FrameKind", name := "values", desc := "()[Lcom/example/wirecall/wirecall/wire/FrameKind;" } : Jvm.MethodName) prog_34_method_1_code (0 : Nat) (Option.some (Jvm.ClassFile.FieldType.array (Jvm.ClassFile.FieldType.object "com/example/wirecall/wirecall/wire/FrameKind")))]
set_option maxRecDepth 65536 in
theorem codes_eq : words1.filter isCode = codes1 := rfl
theorem w_codes : ∀ c ∈ words1.filter isCode, c.before args0 about1 = true := by
  rw [codes_eq]
  intro c hc
  simp only [codes1, List.mem_cons, List.not_mem_nil, or_false] at hc
  rcases hc with rfl | rfl | rfl
  · exact w_c0
  · exact w_c1
  · exact w_c2
set_option maxRecDepth 65536 in
theorem w_t1 : (words1.take 24).all (fun c => isCode c || c.before args0 about1) = true := by decide +kernel
set_option maxRecDepth 65536 in
theorem w_t2 : (words1.drop 24).all (fun c => isCode c || c.before args0 about1) = true := by decide +kernel
theorem w_tables : (allAtoms (Jvm.Cond.code x code maxLocals ret :: tables_1)).before args0 about1 = true := by
  rw [allAtoms_all]
  show words1.all (fun c => c.before args0 about1) = true
  refine all_split ?_ w_codes
  rw [← List.take_append_drop 24 words1, List.all_append, w_t1, w_t2]
  rfl
set_option maxRecDepth 65536 in
theorem w_case : (Jvm.Cond.and given_1 narrow_1).before args0 about1 = true := by decide +kernel
theorem w_applies : (headSpec (Jvm.Cond.code x code maxLocals ret :: tables_1) room_1).applies x e0.platform about1 = true :=
  (Spec.applies_iff w_frames).mpr ⟨w_running, w_runnable, w_alone, w_named, w_hears, w_ripe, w_room, w_tables⟩
theorem atStart : AtStart classFile x code maxLocals ret World_1 tables_1 room_1 Calls_1 rest_1 Pre_1 launch0 p0 e0 about1 theMethod args0 below0 :=
  ⟨lists_1, trivial, launch0.admits_env _ _ _, launch0.least_env, fairChoices_fair.cas, fairChoices_fair.clock, w_frames, w_args, w_heap, w_applies, trivial, trivial, w_case⟩
end start1
theorem witness_1 : WitnessClaimed_1 := ⟨start1.p0, start1.e0, start1.about1, start1.theMethod, start1.args0, start1.below0, start1.atStart⟩
end Jvm.Pilot.@@N@@
